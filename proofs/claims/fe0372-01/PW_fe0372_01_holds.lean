import PyProof.Rows.All
import Wide.All
import OpenK.AllK
import Wide.FinOn
import KE.KIntText
import PySem.Challenge.RW_fe0372_01
set_option Elab.async false
set_option rowWalk.seconds 0

/-! HD -/
section
open PySem PySem.W PyProof.Rows
namespace Mine
set_option maxRecDepth 100000 in
set_option maxHeartbeats 8000000 in
open_top hd for PySem.Challenge.rw_fe0372_01
end Mine
end

/-! M0 -/
section
open PySem PySem.W PyProof.Rows PySem.Builtin PySem.Builtin.Str
set_option linter.unusedSimpArgs false
namespace Mine

/-- a text by the list of its signs' numbers -/
def S (l : List Nat) : PySem.Str := ⟨l.toArray⟩
theorem S_l (l : List Nat) : (S l).cps.toList = l := rfl
theorem S_len (l : List Nat) : (S l).length = l.length := rfl
theorem S_of (x : PySem.Str) : S x.cps.toList = x := rfl
theorem S_app (a b : List Nat) : S a ++ S b = S (a ++ b) := by
  apply PySem.Str.ext'
  show a.toArray ++ b.toArray = (a ++ b).toArray
  simp
theorem S_inj {a b : List Nat} (h : S a = S b) : a = b := by
  have := congrArg (fun x : PySem.Str => x.cps.toList) h
  exact this
theorem S_eq (a b : List Nat) : (S a == S b) = decide (a = b) := by
  rw [Bool.eq_iff_iff, decide_eq_true_iff]
  constructor
  · intro h; exact S_inj (eq_of_beq h)
  · intro h; rw [h]; exact beq_self_eq_true _
theorem S_ne (a b : List Nat) : (S a != S b) = decide (a ≠ b) := by
  show (!(S a == S b)) = _
  rw [S_eq]; simp
theorem mkL {x : PySem.Str} {l : List Nat} (h : x.cps.toList = l) : x = S l := by subst h; rfl

/-- before, behind the first c -/
def bef (c : Nat) (l : List Nat) : List Nat := l.takeWhile (· != c)
def aft (c : Nat) (l : List Nat) : List Nat := (l.dropWhile (· != c)).drop 1

theorem dropWhile_eq_drop (p : Nat → Bool) (l : List Nat) : l.dropWhile p = l.drop (l.takeWhile p).length := by
  induction l with
  | nil => rfl
  | cons a r ih =>
    by_cases h : p a = true
    · simp [List.dropWhile_cons, List.takeWhile_cons, h, ih]
    · simp [List.dropWhile_cons, List.takeWhile_cons, h]
theorem takeWhile_eq_take (p : Nat → Bool) (l : List Nat) : l.takeWhile p = l.take (l.takeWhile p).length := by
  induction l with
  | nil => rfl
  | cons a r ih =>
    by_cases h : p a = true
    · simp only [List.takeWhile_cons, h, if_true, List.length_cons, List.take_succ_cons]; rw [← ih]
    · simp [List.takeWhile_cons, h]
theorem bef_not (c : Nat) (l : List Nat) : c ∉ bef c l := by
  induction l with
  | nil => simp [bef]
  | cons a r ih =>
    unfold bef at ih ⊢
    by_cases h : a = c
    · simp [List.takeWhile_cons, h]
    · have : (a != c) = true := bne_iff_ne.mpr h
      simp only [List.takeWhile_cons, this, if_true, List.mem_cons, not_or]
      exact ⟨fun e => h e.symm, ih⟩
theorem bef_of_not {c : Nat} {l : List Nat} (h : c ∉ l) : bef c l = l := by
  induction l with
  | nil => rfl
  | cons a r ih =>
    have h1 : (a != c) = true := bne_iff_ne.mpr fun e => h (e ▸ List.mem_cons_self ..)
    unfold bef at ih ⊢
    simp only [List.takeWhile_cons, h1, if_true]
    rw [ih fun m => h (List.mem_cons_of_mem _ m)]
theorem aft_of_not {c : Nat} {l : List Nat} (h : c ∉ l) : aft c l = [] := by
  unfold aft
  rw [dropWhile_eq_drop]
  have := bef_of_not h
  unfold bef at this
  rw [this]
  simp
theorem split_at {c : Nat} {l : List Nat} (h : c ∈ l) : l = bef c l ++ c :: aft c l := by
  induction l with
  | nil => cases h
  | cons a r ih =>
    by_cases e : a = c
    · subst e; simp [bef, aft, List.takeWhile_cons, List.dropWhile_cons]
    · have h1 : (a != c) = true := bne_iff_ne.mpr e
      have hr : c ∈ r := by
        rcases List.mem_cons.mp h with q | q
        · exact absurd q.symm e
        · exact q
      have i := ih hr
      unfold bef aft at i ⊢
      simp only [List.takeWhile_cons, List.dropWhile_cons, h1, if_true, List.cons_append]
      rw [← i]
theorem bef_app {c : Nat} {a b : List Nat} (h : c ∉ a) : bef c (a ++ b) = a ++ bef c b := by
  induction a with
  | nil => rfl
  | cons x r ih =>
    have h1 : (x != c) = true := bne_iff_ne.mpr fun e => h (e ▸ List.mem_cons_self ..)
    have := ih fun m => h (List.mem_cons_of_mem _ m)
    unfold bef at this ⊢
    simp only [List.cons_append, List.takeWhile_cons, h1, if_true]
    rw [this]
theorem aft_app {c : Nat} {a b : List Nat} (h : c ∉ a) : aft c (a ++ b) = aft c b := by
  induction a with
  | nil => rfl
  | cons x r ih =>
    have h1 : (x != c) = true := bne_iff_ne.mpr fun e => h (e ▸ List.mem_cons_self ..)
    have := ih fun m => h (List.mem_cons_of_mem _ m)
    unfold aft at this ⊢
    simp only [List.cons_append, List.dropWhile_cons, h1, if_true]
    exact this
theorem bef_cons (c : Nat) (b : List Nat) : bef c (c :: b) = [] := by simp [bef]
theorem aft_cons (c : Nat) (b : List Nat) : aft c (c :: b) = b := by simp [aft]
theorem bef_here {c : Nat} {a b : List Nat} (h : c ∉ a) : bef c (a ++ c :: b) = a := by rw [bef_app h, bef_cons, List.append_nil]
theorem aft_here {c : Nat} {a b : List Nat} (h : c ∉ a) : aft c (a ++ c :: b) = b := by rw [aft_app h, aft_cons]
theorem bef_take (c : Nat) (l : List Nat) : bef c l = l.take (bef c l).length := takeWhile_eq_take _ _
theorem bef_le (c : Nat) (l : List Nat) : (bef c l).length ≤ l.length := by
  have h := congrArg List.length (bef_take c l)
  rw [List.length_take] at h; omega
theorem aft_le (c : Nat) (l : List Nat) : (aft c l).length ≤ l.length := by
  unfold aft
  rw [dropWhile_eq_drop, List.drop_drop, List.length_drop]; omega
theorem bef_sub {c : Nat} {l : List Nat} {x : Nat} (h : x ∈ bef c l) : x ∈ l := (List.takeWhile_sublist _).subset h
theorem aft_sub {c : Nat} {l : List Nat} {x : Nat} (h : x ∈ aft c l) : x ∈ l :=
  (List.dropWhile_sublist _).subset ((List.drop_sublist _ _).subset h)

/-- the place of the first c, or -1 -/
def idx (c : Nat) (l : List Nat) : Int := if c ∈ l then ((bef c l).length : Int) else -1

theorem first_unique {c : Nat} {l : List Nat} {k : Nat} (hk : l[k]? = some c) (hn : ∀ v, v < k → l[v]? ≠ some c) : k = (bef c l).length ∧ c ∈ l := by
  have hm : c ∈ l := List.mem_of_getElem? hk
  have e := split_at hm
  refine ⟨?_, hm⟩
  have h1 : l[(bef c l).length]? = some c := by
    have h2 : (bef c l ++ c :: aft c l)[(bef c l).length]? = some c := by simp
    rw [← e] at h2; exact h2
  rcases Nat.lt_trichotomy k (bef c l).length with q | q | q
  · exfalso
    apply bef_not c l
    have : (bef c l)[k]? = some c := by
      have h2 := congrArg (fun z : List Nat => z[k]?) (bef_take c l)
      simp only [List.getElem?_take_of_lt q] at h2
      rw [h2]; exact hk
    exact List.mem_of_getElem? this
  · exact q
  · exact absurd h1 (hn _ q)

theorem find_S (l : List Nat) (c : Nat) : Txt.find (S l) (S [c]) = idx c l := by
  unfold Txt.find idx
  rcases StrLaws.occ_head (S l) (S [c]) 1 (Nat.le_refl 1) with ⟨h0, hn⟩ | ⟨k, r, h0, hk, hn⟩
  · rw [h0]
    have : c ∉ l := fun m => by
      obtain ⟨i, hi⟩ := List.mem_iff_getElem?.mp m
      exact hn i ((StrLaws.subAt_one (S l) c i).mpr hi)
    simp [this]
  · rw [h0]
    have hm := (StrLaws.subAt_one (S l) c k).mp hk
    obtain ⟨e, m⟩ := first_unique (l := l) hm fun v hv q => hn v hv ((StrLaws.subAt_one (S l) c v).mpr q)
    rw [if_pos m, ← e]

theorem contains_S (l : List Nat) (c : Nat) : (!(occurrences (S l) (S [c]) 0 (S l).length 1).isEmpty) = decide (c ∈ l) := StrLaws.found_one (S l) c

theorem strSub_S (l : List Nat) (i j : Nat) : strSub (S l) i j = S ((l.drop i).take (j - i)) := mkL (StrLaws.strSub_toList (S l) i j)

theorem part_S (l : List Nat) (c : Nat) : Txt.partition (S l) (S [c]) = (S (bef c l), S (if c ∈ l then [c] else []), S (aft c l)) := by
  unfold Txt.partition
  rcases StrLaws.occ_head (S l) (S [c]) 1 (Nat.le_refl 1) with ⟨h0, hn⟩ | ⟨k, r, h0, hk, hn⟩
  · rw [h0]
    have hm : c ∉ l := fun m => by
      obtain ⟨i, hi⟩ := List.mem_iff_getElem?.mp m
      exact hn i ((StrLaws.subAt_one (S l) c i).mpr hi)
    rw [bef_of_not hm, aft_of_not hm, if_neg hm]; rfl
  · rw [h0]
    have hm := (StrLaws.subAt_one (S l) c k).mp hk
    obtain ⟨e, m⟩ := first_unique (l := l) hm fun v hv q => hn v hv ((StrLaws.subAt_one (S l) c v).mpr q)
    dsimp only
    rw [if_pos m, strSub_S, strSub_S, List.drop_zero, Nat.sub_zero, e, ← bef_take]
    congr 3
    show List.take (l.length - ((bef c l).length + 1)) (List.drop ((bef c l).length + 1) l) = aft c l
    rw [List.take_of_length_le (by rw [List.length_drop]; exact Nat.le_refl _)]
    unfold aft bef
    rw [dropWhile_eq_drop, List.drop_drop]

/-- before, behind the last c -/
def rbef (c : Nat) (l : List Nat) : List Nat := (aft c l.reverse).reverse
def raft (c : Nat) (l : List Nat) : List Nat := (bef c l.reverse).reverse
theorem rsplit_at {c : Nat} {l : List Nat} (h : c ∈ l) : l = rbef c l ++ c :: raft c l := by
  have e := split_at (c := c) (l := l.reverse) (by simpa using h)
  have e2 := congrArg List.reverse e
  simp only [List.reverse_reverse, List.reverse_append, List.reverse_cons, List.append_assoc, List.singleton_append] at e2
  exact e2
theorem raft_not (c : Nat) (l : List Nat) : c ∉ raft c l := by
  unfold raft
  intro h
  exact bef_not c l.reverse (by simpa using h)
theorem raft_of_not {c : Nat} {l : List Nat} (h : c ∉ l) : raft c l = l := by
  unfold raft; rw [bef_of_not (by simpa using h)]; simp
theorem rbef_of_not {c : Nat} {l : List Nat} (h : c ∉ l) : rbef c l = [] := by
  unfold rbef; rw [aft_of_not (by simpa using h)]; rfl
theorem rbef_here {c : Nat} {a b : List Nat} (h : c ∉ b) : rbef c (a ++ c :: b) = a := by
  unfold rbef
  simp only [List.reverse_append, List.reverse_cons, List.append_assoc, List.singleton_append]
  rw [aft_here (by simpa using h)]; simp
theorem raft_here {c : Nat} {a b : List Nat} (h : c ∉ b) : raft c (a ++ c :: b) = b := by
  unfold raft
  simp only [List.reverse_append, List.reverse_cons, List.append_assoc, List.singleton_append]
  rw [bef_here (by simpa using h)]; simp
theorem raft_sub {c : Nat} {l : List Nat} {x : Nat} (h : x ∈ raft c l) : x ∈ l := by
  unfold raft at h
  have := bef_sub (List.mem_reverse.mp h)
  simpa using this
theorem rbef_sub {c : Nat} {l : List Nat} {x : Nat} (h : x ∈ rbef c l) : x ∈ l := by
  unfold rbef at h
  have := aft_sub (List.mem_reverse.mp h)
  simpa using this
theorem raft_le (c : Nat) (l : List Nat) : (raft c l).length ≤ l.length := by
  unfold raft; have := bef_le c l.reverse; simpa using this
theorem rbef_le (c : Nat) (l : List Nat) : (rbef c l).length ≤ l.length := by
  unfold rbef; have := aft_le c l.reverse; simpa using this

theorem rpart_S (l : List Nat) (c : Nat) : Txt.rpartition (S l) (S [c]) = (S (rbef c l), S (if c ∈ l then [c] else []), S (raft c l)) := by
  unfold Txt.rpartition
  rcases StrLaws.last_spec (S l) (S [c]) with ⟨h0, hn⟩ | ⟨k, h0, hk, hn⟩
  · rw [h0]
    have hm : c ∉ l := fun m => by
      obtain ⟨i, hi⟩ := List.mem_iff_getElem?.mp m
      exact hn i ((StrLaws.subAt_one (S l) c i).mpr hi)
    rw [rbef_of_not hm, raft_of_not hm, if_neg hm]; rfl
  · rw [h0]
    have hm : l[k]? = some c := (StrLaws.subAt_one (S l) c k).mp hk
    have hlt : k < l.length := by
      rcases Nat.lt_or_ge k l.length with q | q
      · exact q
      · rw [List.getElem?_eq_none q] at hm; cases hm
    have hb : c ∉ l.drop (k + 1) := fun m => by
      obtain ⟨i, hi⟩ := List.mem_iff_getElem?.mp m
      rw [List.getElem?_drop] at hi
      exact hn (k + 1 + i) (by omega) ((StrLaws.subAt_one (S l) c _).mpr hi)
    have e : l = l.take k ++ c :: l.drop (k + 1) := by
      have h1 : l.drop k = c :: l.drop (k + 1) := by
        rw [List.drop_eq_getElem_cons hlt]
        congr 1
        exact Option.some.inj ((List.getElem?_eq_getElem hlt).symm.trans hm)
      rw [← h1, List.take_append_drop]
    dsimp only
    rw [if_pos (List.mem_of_getElem? hm), strSub_S, strSub_S, List.drop_zero, Nat.sub_zero]
    have e1 : rbef c l = l.take k := by
      conv => lhs; rw [e]
      exact rbef_here hb
    have e2 : raft c l = l.drop (k + 1) := by
      conv => lhs; rw [e]
      exact raft_here hb
    rw [e1, e2]
    congr 3
    show List.take (l.length - (k + 1)) (List.drop (k + 1) l) = _
    rw [List.take_of_length_le (by rw [List.length_drop]; exact Nat.le_refl _)]

theorem lstrip_S (l : List Nat) (cs : PySem.Str) : Txt.lstripChars (S l) cs = S (l.dropWhile fun c => decide (c ∈ cs.cps.toList)) := by
  have hp : cs.cps.contains = fun c => decide (c ∈ cs.cps.toList) := by
    funext c
    rw [Bool.eq_iff_iff]; simp
  unfold Txt.lstripChars Txt.stripBy
  rw [hp]
  split
  · rename_i h
    simp only [stripSame, stripLo, stripHi, Bool.and_eq_true, beq_iff_eq, if_true] at h
    rw [dropWhile_eq_drop]
    have h1 : (List.takeWhile (fun c => decide (c ∈ cs.cps.toList)) l).length = 0 := h.1
    rw [h1]; rfl
  · unfold PySem.stripped stripLo stripHi
    simp only [if_true, Bool.false_eq_true, if_false]
    rw [strSub_S, dropWhile_eq_drop]
    congr 1
    rw [S_l, S_len, List.take_of_length_le (by rw [List.length_drop]; exact Nat.le_refl _)]

def low (c : Nat) : Nat := if 65 ≤ c ∧ c ≤ 90 then c + 32 else c
theorem lower_S {l : List Nat} (h : ∀ c ∈ l, c < 128) : Txt.lower (S l) = S (l.map low) := by
  rw [lower_ascii (x := S l) h]
  apply PySem.Str.ext'
  show Array.map lo1 l.toArray = (l.map low).toArray
  rw [List.map_toArray]
  congr 1

end Mine
end

/-! M1 -/
section
open PySem PySem.W PyProof.Rows PySem.Builtin PySem.Builtin.Str
set_option linter.unusedSimpArgs false
namespace Mine

/-- the place of the first c from 2 on, or -1 -/
def idx2 (c : Nat) (l : List Nat) : Int := if c ∈ l.drop 2 then ((bef c (l.drop 2)).length : Int) + 2 else -1
theorem find3_S (l : List Nat) (c : Nat) : Txt.find3 (S l) (S [c]) 2 = idx2 c l := by
  unfold Txt.find3 idx2
  have hf : fromIndex (S l).length 2 = 2 := rfl
  rw [hf]
  rcases StrLaws.occ_head_from (S l) (S [c]) 2 1 (Nat.le_refl 1) with ⟨h0, hn⟩ | ⟨k, r, h0, hlo, hk, hn⟩
  · rw [h0]
    have : c ∉ l.drop 2 := fun m => by
      obtain ⟨i, hi⟩ := List.mem_iff_getElem?.mp m
      rw [List.getElem?_drop] at hi
      exact hn (2 + i) (by omega) ((StrLaws.subAt_one (S l) c _).mpr hi)
    simp [this]
  · rw [h0]
    have hm : l[k]? = some c := (StrLaws.subAt_one (S l) c k).mp hk
    have hm2 : (l.drop 2)[k - 2]? = some c := by
      rw [List.getElem?_drop, show 2 + (k - 2) = k from by omega]; exact hm
    obtain ⟨e, m⟩ := first_unique hm2 fun v hv q => by
      rw [List.getElem?_drop] at q
      exact hn (2 + v) (by omega) (by omega) ((StrLaws.subAt_one (S l) c _).mpr q)
    rw [if_pos m, ← e]
    show (k : Int) = ((k - 2 : Nat) : Int) + 2
    omega

theorem clip_S (l : List Nat) {a b : Nat} (hab : a ≤ b) (hb : b ≤ l.length) : StrLaws.sliceText (S l) (some (a : Int)) (some (b : Int)) = S ((l.take b).drop a) := by
  rw [StrLaws.sliceText_nat (S l) hab hb]
  show S _ = _
  rw [List.drop_take]; rfl
theorem slice_eq (x : PySem.Str) (lo hi : Option Int) : Txt.slice x lo hi = StrLaws.sliceText x lo hi := rfl

theorem slice_to (l : List Nat) {j : Int} (h0 : 0 ≤ j) : Txt.slice (S l) none (some j) = S (l.take j.toNat) := by
  rw [slice_eq]
  have key : StrLaws.sliceText (S l) none (some j) = StrLaws.sliceText (S l) (some 0) (some ((min j.toNat l.length : Nat) : Int)) := by
    have e : strSliceIndices none (some j) 1 (S l).length = strSliceIndices (some 0) (some ((min j.toNat l.length : Nat) : Int)) 1 (S l).length := by
      rw [StrLaws.sliceIdx_none_lo]
      have h1 : ¬ (j < 0) := by omega
      have h2 : ¬ (((min j.toNat l.length : Nat) : Int) < 0) := by omega
      have h3 : max (0 : Int) (min j (l.length : Int)) = max (0 : Int) (min ((min j.toNat l.length : Nat) : Int) (l.length : Int)) := by omega
      simp only [strSliceIndices, S_len, h1, h2, if_false, show ((1 : Int) > 0) = True from by simp, if_true, h3]
    unfold StrLaws.sliceText; rw [e]
  rw [key, show (0 : Int) = ((0 : Nat) : Int) from rfl, clip_S l (Nat.zero_le _) (Nat.min_le_right _ _), List.drop_zero]
  congr 1
  rcases Nat.le_total j.toNat l.length with q | q
  · rw [Nat.min_eq_left q]
  · rw [Nat.min_eq_right q, List.take_length, List.take_of_length_le q]

theorem slice_from (l : List Nat) {i : Int} (h0 : 0 ≤ i) : Txt.slice (S l) (some i) none = S (l.drop i.toNat) := by
  rw [slice_eq]
  have key : StrLaws.sliceText (S l) (some i) none = StrLaws.sliceText (S l) (some ((min i.toNat l.length : Nat) : Int)) (some (l.length : Int)) := by
    have e : strSliceIndices (some i) none 1 (S l).length = strSliceIndices (some ((min i.toNat l.length : Nat) : Int)) (some (l.length : Int)) 1 (S l).length := by
      rw [StrLaws.sliceIdx_none_hi]
      have h1 : ¬ (i < 0) := by omega
      have h2 : ¬ (((min i.toNat l.length : Nat) : Int) < 0) := by omega
      have h3 : max (0 : Int) (min i (l.length : Int)) = max (0 : Int) (min ((min i.toNat l.length : Nat) : Int) (l.length : Int)) := by omega
      simp only [strSliceIndices, S_len, h1, h2, if_false, show ((1 : Int) > 0) = True from by simp, if_true, h3]
      rfl
    unfold StrLaws.sliceText; rw [e]
  rw [key, clip_S l (Nat.min_le_right _ _) (Nat.le_refl _), List.take_length]
  congr 1
  rcases Nat.le_total i.toNat l.length with q | q
  · rw [Nat.min_eq_left q]
  · rw [Nat.min_eq_right q, List.drop_of_length_le (Nat.le_refl _), List.drop_of_length_le q]

theorem slice_mid (l : List Nat) {i j : Int} (h0 : 0 ≤ i) (h1 : i ≤ j) (h2 : j ≤ l.length) : Txt.slice (S l) (some i) (some j) = S ((l.take j.toNat).drop i.toNat) := by
  rw [slice_eq]
  obtain ⟨a, rfl⟩ := Int.eq_ofNat_of_zero_le h0
  obtain ⟨b, rfl⟩ := Int.eq_ofNat_of_zero_le (Int.le_trans h0 h1)
  exact clip_S l (by omega) (by omega)

theorem free_filter {c : Nat} {l : List Nat} (h : c ∉ l) : l = l.filter (· != c) := by
  rw [List.filter_eq_self.mpr]
  intro a ha
  exact bne_iff_ne.mpr fun e => h (e ▸ ha)
theorem join_filter (c : Nat) : ∀ parts : List PySem.Str, (∀ p ∈ parts, c ∉ p.cps.toList) →
    (PySem.Str.join (S []) parts).cps.toList = (PySem.Str.join (S [c]) parts).cps.toList.filter (· != c)
  | [], _ => rfl
  | [p], h => by
    exact free_filter (h p (List.mem_cons_self ..))
  | p :: q :: r, h => by
    have ih := join_filter c (q :: r) fun a ha => h a (List.mem_cons_of_mem _ ha)
    have hp' : p.cps.toList = p.cps.toList.filter (· != c) := free_filter (h p (List.mem_cons_self ..))
    show (p ++ S [] ++ PySem.Str.join (S []) (q :: r)).cps.toList = (p ++ S [c] ++ PySem.Str.join (S [c]) (q :: r)).cps.toList.filter (· != c)
    simp only [PySem.Str.cps_append, Array.toList_append, List.filter_append, S_l, List.append_nil]
    rw [← hp', ← ih]
    simp
theorem replace_S (l : List Nat) (c : Nat) : Txt.replace (S l) (S [c]) (S []) = S (l.filter (· != c)) := by
  refine mkL ?_
  show (Txt.replace (S l) ⟨#[c]⟩ (S [])).cps.toList = _
  rw [StrLaws.replace_one, join_filter c _ (StrLaws.split_free (S l) c)]
  show (PySem.Str.join ⟨#[c]⟩ (Txt.split (S l) ⟨#[c]⟩)).cps.toList.filter _ = _
  rw [StrLaws.join_split]; rfl

end Mine
end

/-! M2 -/
section
open PySem PySem.W PySem.Calls PyProof.Rows PySem.Builtin PySem.Builtin.Str
set_option linter.unusedSimpArgs false
namespace Mine

section
variable {prog : Program} {w : World} {A : Around} {E : Value → Shared → Prop} {s : Shared} {a b : List Nat} {t u : Tok} {c : Nat}
  {h₀ : Heap} {L : Addr} {m : PySem.Str → Option Value} {news : List (Addr × Obj)}

theorem r_add {Q : Value → Shared → Prop} (hz : (a ++ b).length ≤ 16777216) (h : ∀ t' k, Q (.str (S (a ++ b)) t') { s with toks := k }) :
    wpAny (model prog w) A (binaryOp .Add (.str (S a) t) (.str (S b) u)) Q E s :=
  SBL.add (fun t' k _ => by rw [S_app]; exact h t' k) (by rw [S_len, S_len, sizeLine_eq, ← List.length_append]; exact hz)
theorem r_truthy {Q : Bool → Shared → Prop} (hz : a.length ≤ 16777216) (h : ∀ k, Q (decide (a ≠ [])) { s with toks := k }) :
    wpAny (model prog w) A (PySem.truthy (.str (S a) t)) Q E s := by
  have e : (((S a).length : Int) != 0) = decide (a ≠ []) := by
    rw [S_len]
    cases a with
    | nil => rfl
    | cons x r => simp; omega
  exact P.truthy_str (by rw [S_len]; omega) (by rw [e]; exact h _)
theorem r_eq {Q : Value → Shared → Prop} (h : Q (.bool (decide (a = b))) s) : wpAny (model prog w) A (compareOp .Eq (.str (S a) t) (.str (S b) u)) Q E s :=
  eq_str (by rw [S_eq]; exact h)
theorem r_ne {Q : Value → Shared → Prop} (h : Q (.bool (decide (a ≠ b))) s) : wpAny (model prog w) A (compareOp .NotEq (.str (S a) t) (.str (S b) u)) Q E s :=
  ne_str (by rw [S_ne]; exact h)
theorem r_in {Q : Value → Shared → Prop} (h : Q (.bool (decide (c ∈ a))) s) : wpAny (model prog w) A (compareOp .In (.str (S [c]) t) (.str (S a) u)) Q E s :=
  in_str (by rw [contains_S]; exact h)
theorem r_notin {Q : Value → Shared → Prop} (h : Q (.bool (decide (c ∉ a))) s) : wpAny (model prog w) A (compareOp .NotIn (.str (S [c]) t) (.str (S a) u)) Q E s :=
  notIn_str (by rw [contains_S]; rw [decide_not] at h; exact h)
theorem r_item {value slice : Expr} {Q : Value → Shared → Prop} (hne : a ≠ []) (hz : a.length ≤ 16777216) (h : ∀ t' k, Q (.str (S (a.take 1)) t') { s with toks := k })
    (hs : subscripted slice false (.str (S a) t) (.int 0 u) = operate [.str (S a) t, .int 0 u] (getItem (.str (S a) t) (.int 0 u)) := by with_unfolding_all rfl)
    (ht : ∀ r, letTemporaryGo value (.str (S a) t) r = pure () := by intro _; with_unfolding_all rfl) :
    wpAny (model prog w) A (subscriptTail value slice (.str (S a) t) (.int 0 u)) Q E s := by
  refine KXi.item (n := a.length) rfl (by omega) (by cases a with | nil => exact absurd rfl hne | cons x r => simp) hz (fun _ => ?_) hs ht
  have e : Txt.item (S a) 0 = S (a.take 1) := by
    cases a with
    | nil => exact absurd rfl hne
    | cons x r =>
      have q : Txt.charAt (S (x :: r)) 0 = some x := StrLaws.at_nonneg (x := S (x :: r)) (Int.le_refl 0) rfl
      show (⟨#[(Txt.charAt (S (x :: r)) 0).getD 0]⟩ : PySem.Str) = _
      rw [q]; rfl
  rw [e]; exact h _ _
theorem r_lit {x : PySem.Str} {l : List Nat} {k : Nat} {pos : Pos} {env : Env} {Q : Value → Shared → Prop} (e : x = S l) (h : ∀ t' k', Q (.str (S l) t') { s with toks := k' }) :
    wpAny (model prog w) A (eval (.Constant (.str x) k pos) env) Q E s := by
  subst e
  exact Calls.Constant_str (h _ _)
theorem r_mk {l : List Nat} {k : Nat} {pos : Pos} {env : Env} {Q : Value → Shared → Prop} (h : ∀ t' k', Q (.str (S l) t') { s with toks := k' }) :
    wpAny (model prog w) A (eval (.Constant (.str ⟨⟨l⟩⟩) k pos) env) Q E s := Calls.Constant_str (h _ _)
theorem r_find {Q : Value → Shared → Prop} (h : ∀ t' k, Q (.int (idx c a) t') { s with toks := k }) : wpAny (model prog w) A (call (.builtin "str.find") [.str (S a) t, .str (S [c]) u]) Q E s :=
  SC.find (by rw [find_S]; exact h _ _)
theorem r_find2 {v : Tok} {Q : Value → Shared → Prop} (h : ∀ t' k, Q (.int (idx2 c a) t') { s with toks := k }) : wpAny (model prog w) A (call (.builtin "str.find") [.str (S a) t, .str (S [c]) u, .int 2 v]) Q E s :=
  SC.find3 (by rw [find3_S]; exact h _ _)
theorem r_lower {Q : Value → Shared → Prop} (ha : ∀ x ∈ a, x < 128) (hz : a.length ≤ 5592405) (h : ∀ t' k, Q (.str (S (a.map low)) t') { s with toks := k }) : wpAny (model prog w) A (call (.builtin "str.lower") [.str (S a) t]) Q E s :=
  SCL.lower hz fun _ => by rw [lower_S ha]; exact h _ _
theorem r_lstrip {x : PySem.Str} {Q : Value → Shared → Prop} (hz : a.length ≤ 16777216) (h : ∀ t' k, Q (.str (S (a.dropWhile fun c => decide (c ∈ x.cps.toList))) t') { s with toks := k }) :
    wpAny (model prog w) A (call (.builtin "str.lstrip") [.str (S a) t, .str x u]) Q E s :=
  SCL.lstripChars (fun t' k _ => by rw [lstrip_S]; exact h _ _) (by rw [S_len, sizeLine_eq]; exact hz)
theorem r_replace {v : Tok} {Q : Value → Shared → Prop} (hu : u ≠ 0) (hv : v ≠ 0) (huv : u ≠ v) (hz : a.length ≤ 1048576)
    (h : ∀ t' k, Q (.str (S (a.filter (· != c))) t') { s with toks := k }) : wpAny (model prog w) A (call (.builtin "str.replace") [.str (S a) t, .str (S [c]) u, .str (S []) v]) Q E s :=
  SC.replaceW hu hv huv (by rw [S_eq]; simp) (by rw [S_len]; exact hz) (by decide) fun t' k => by rw [replace_S]; exact h _ _
theorem r_part {Q : Value → Shared → Prop} (hF : Fr h₀ L s.heap m) (hN : News h₀ L s.heap news) (hz : a.length ≤ 16777216)
    (h : ∀ D ta tb tc h' k, Fr h₀ L h' m → News h₀ L h' ((D, { cls := .type "tuple", data := .seq [.str (S (bef c a)) ta, .str (S (if c ∈ a then [c] else [])) tb, .str (S (aft c a)) tc].toArray }) :: news) → (∀ a ∈ news, a.1 < D) → Q (.ref D) { s with heap := h', toks := k }) :
    wpAny (model prog w) A (call (.builtin "str.partition") [.str (S a) t, .str (S [c]) u]) Q E s :=
  KXpa.partition hF hN rfl (by rw [part_S]) (by rw [part_S]) (by rw [part_S]) (by rw [S_len, sizeLine_eq]; exact hz) h
theorem r_rpart {Q : Value → Shared → Prop} (hF : Fr h₀ L s.heap m) (hN : News h₀ L s.heap news) (hz : a.length ≤ 16777216)
    (h : ∀ D ta tb tc h' k, Fr h₀ L h' m → News h₀ L h' ((D, { cls := .type "tuple", data := .seq [.str (S (rbef c a)) ta, .str (S (if c ∈ a then [c] else [])) tb, .str (S (raft c a)) tc].toArray }) :: news) → (∀ a ∈ news, a.1 < D) → Q (.ref D) { s with heap := h', toks := k }) :
    wpAny (model prog w) A (call (.builtin "str.rpartition") [.str (S a) t, .str (S [c]) u]) Q E s :=
  KXpa.rpartition hF hN rfl (by rw [rpart_S]) (by rw [rpart_S]) (by rw [rpart_S]) (by rw [S_len, sizeLine_eq]; exact hz) h
theorem r_len {Q : Value → Shared → Prop} (hz : a.length ≤ 16777216) (h : ∀ t' k, Q (.int (a.length : Int) t') { s with toks := k }) : wpAny (model prog w) A (call (.builtin "len") [.str (S a) t]) Q E s :=
  P.len_str (by rw [S_len]; omega) (h _ _)
theorem r_fstr {Q : Value → Shared → Prop} (hz : a.length ≤ 16777216) (h : ∀ t' k, Q (.str (S a) t') { s with toks := k }) : wpAny (model prog w) A (formatField (.str (S a) t) PySem.Str.empty) Q E s :=
  formatField_str h (by rw [S_len, sizeLine_eq]; exact hz)

theorem r_slice_to {value slice : Expr} {Q : Value → Shared → Prop} {j : Int} {uj : Tok} (hF : Fr h₀ L s.heap m) (hN : News h₀ L s.heap news) (h0 : 0 ≤ j) (hz : a.length ≤ 16777216)
    (h : ∀ h' t' k, Fr h₀ L h' m → News h₀ L h' news → Q (.str (S (a.take j.toNat)) t') { s with heap := h', toks := k })
    (hs : subscripted slice false (.str (S a) t) (.ref s.heap.objs.size) = operate [.ref s.heap.objs.size, .str (S a) t] (getItem (.str (S a) t) (.ref s.heap.objs.size)) := by with_unfolding_all rfl)
    (ht : ∀ r, letTemporaryGo value (.str (S a) t) r = pure () := by intro _; with_unfolding_all rfl) :
    wpAny (model prog w) A (subscriptTail value slice (.str (S a) t) (.ref s.heap.objs.size)) Q E { s with heap := s.heap.push { cls := .type "slice", data := .fields #[.none, .int j uj, .none] } } :=
  slice_strN_ns hF hN (fun h' t' k F N => by rw [slice_to a h0]; exact h h' t' k F N) hs ht (by rw [S_len, sizeLine_eq]; exact hz)
theorem r_slice_from {value slice : Expr} {Q : Value → Shared → Prop} {i : Int} {ui : Tok} (hF : Fr h₀ L s.heap m) (hN : News h₀ L s.heap news) (h0 : 0 ≤ i) (hz : a.length ≤ 16777216)
    (h : ∀ h' t' k, Fr h₀ L h' m → News h₀ L h' news → Q (.str (S (a.drop i.toNat)) t') { s with heap := h', toks := k })
    (hs : subscripted slice false (.str (S a) t) (.ref s.heap.objs.size) = operate [.ref s.heap.objs.size, .str (S a) t] (getItem (.str (S a) t) (.ref s.heap.objs.size)) := by with_unfolding_all rfl)
    (ht : ∀ r, letTemporaryGo value (.str (S a) t) r = pure () := by intro _; with_unfolding_all rfl) :
    wpAny (model prog w) A (subscriptTail value slice (.str (S a) t) (.ref s.heap.objs.size)) Q E { s with heap := s.heap.push { cls := .type "slice", data := .fields #[.int i ui, .none, .none] } } :=
  slice_strN_sn hF hN (fun h' t' k F N => by rw [slice_from a h0]; exact h h' t' k F N) hs ht (by rw [S_len, sizeLine_eq]; exact hz)
theorem r_slice_mid {value slice : Expr} {Q : Value → Shared → Prop} {i j : Int} {ui uj : Tok} (hF : Fr h₀ L s.heap m) (hN : News h₀ L s.heap news) (h0 : 0 ≤ i) (h1 : i ≤ j) (h2 : j ≤ a.length) (hz : a.length ≤ 16777216)
    (h : ∀ h' t' k, Fr h₀ L h' m → News h₀ L h' news → Q (.str (S ((a.take j.toNat).drop i.toNat)) t') { s with heap := h', toks := k })
    (hs : subscripted slice false (.str (S a) t) (.ref s.heap.objs.size) = operate [.ref s.heap.objs.size, .str (S a) t] (getItem (.str (S a) t) (.ref s.heap.objs.size)) := by with_unfolding_all rfl)
    (ht : ∀ r, letTemporaryGo value (.str (S a) t) r = pure () := by intro _; with_unfolding_all rfl) :
    wpAny (model prog w) A (subscriptTail value slice (.str (S a) t) (.ref s.heap.objs.size)) Q E { s with heap := s.heap.push { cls := .type "slice", data := .fields #[.int i ui, .int j uj, .none] } } :=
  slice_strN_ss hF hN (fun h' t' k F N => by rw [slice_mid a h0 h1 h2]; exact h h' t' k F N) hs ht (by rw [S_len, sizeLine_eq]; exact hz)

/-- a name by a fact about the frame -/
theorem r_name {x : PySem.Str} {pos : Pos} {v : Value} {Q : Value → Shared → Prop} {name : PySem.Str} {scope : Scope} {ad : Addr} {cd : Value} (F : Fr h₀ L s.heap m) (hv : m x = some v) (h : Q v s)
    (hk : scope.kind = .function) (hl : (envOf name scope L ad cd).kindOf x = some .local) (hd : (x == ("__debug__" : PySem.Str)) = false) :
    wpAny (model prog w) A (eval (.Name x pos) (envOf name scope L ad cd)) Q E s := ld F hv h hk hl hd
end

theorem lit0 : PySem.Str.ofString "" = S [] := by decide +kernel
theorem lit1 : PySem.Str.ofString "/" = S [47] := by decide +kernel
theorem lit2 : PySem.Str.ofString "//" = S [47, 47] := by decide +kernel
theorem lit3 : PySem.Str.ofString ":" = S [58] := by decide +kernel
theorem lit4 : PySem.Str.ofString "?" = S [63] := by decide +kernel
theorem lit5 : PySem.Str.ofString "#" = S [35] := by decide +kernel
theorem lit6 : PySem.Str.ofString "@" = S [64] := by decide +kernel
theorem lit7 : PySem.Str.ofString "\\" = S [92] := by decide +kernel
theorem lit8 : PySem.Str.ofString "\t\r\n" = S [9, 13, 10] := by decide +kernel
theorem lit9 : PySem.Str.ofString "abcdefghijklmnopqrstuvwxyzABCDEFGHIJKLMNOPQRSTUVWXYZ0123456789+-." = S [97, 98, 99, 100, 101, 102, 103, 104, 105, 106, 107, 108, 109, 110, 111, 112, 113, 114, 115, 116, 117, 118, 119, 120, 121, 122, 65, 66, 67, 68, 69, 70, 71, 72, 73, 74, 75, 76, 77, 78, 79, 80, 81, 82, 83, 84, 85, 86, 87, 88, 89, 90, 48, 49, 50, 51, 52, 53, 54, 55, 56, 57, 43, 45, 46] := by decide +kernel
theorem lit10 : PySem.Str.ofString "0123456789 " = S [48, 49, 50, 51, 52, 53, 54, 55, 56, 57, 32] := by decide +kernel
theorem lit11 : PySem.Str.ofString "refused" = S [114, 101, 102, 117, 115, 101, 100] := by decide +kernel
theorem lit12 : PySem.Str.ofString "aside" = S [97, 115, 105, 100, 101] := by decide +kernel
theorem lit13 : PySem.Str.ofString "http" = S [104, 116, 116, 112] := by decide +kernel
theorem lit14 : PySem.Str.ofString "git" = S [103, 105, 116] := by decide +kernel
theorem lit15 : PySem.Str.ofString "ws" = S [119, 115] := by decide +kernel
theorem lit16 : PySem.Str.ofString "/?#" = S [47, 63, 35] := by decide +kernel
theorem lit17 : PySem.Str.ofString "/?" = S [47, 63] := by decide +kernel
theorem lit18 : PySem.Str.ofString "/#" = S [47, 35] := by decide +kernel
theorem lit19 : PySem.Str.ofString "://" = S [58, 47, 47] := by decide +kernel

theorem any_S (sc : List Nat) (ls : List (List Nat)) : ((ls.map S).any fun x => x == S sc) = decide (sc ∈ ls) := by
  rw [Bool.eq_iff_iff]
  simp only [List.any_map, List.any_eq_true, Function.comp_apply, S_eq, decide_eq_true_iff]
  constructor
  · rintro ⟨x, hx, rfl⟩; exact hx
  · intro h; exact ⟨sc, h, rfl⟩

def hosts : List (List Nat) := [[104, 116, 116, 112], [103, 105, 116], [119, 115]]
def uses : List (List Nat) := [[], [102, 116, 112], [104, 116, 116, 112], [103, 111, 112, 104, 101, 114], [110, 110, 116, 112], [116, 101, 108, 110, 101, 116], [105, 109, 97, 112], [119, 97, 105, 115], [102, 105, 108, 101], [109, 109, 115], [104, 116, 116, 112, 115], [115, 104, 116, 116, 112], [115, 110, 101, 119, 115], [112, 114, 111, 115, 112, 101, 114, 111], [114, 116, 115, 112], [114, 116, 115, 112, 115], [114, 116, 115, 112, 117], [114, 115, 121, 110, 99], [115, 118, 110], [115, 118, 110, 43, 115, 115, 104], [115, 102, 116, 112], [110, 102, 115], [103, 105, 116], [103, 105, 116, 43, 115, 115, 104], [119, 115], [119, 115, 115], [105, 116, 109, 115, 45, 115, 101, 114, 118, 105, 99, 101, 115]]
section
variable {prog : Program} {w : World} {A : Around} {E : Value → Shared → Prop} {s : Shared} {a b : List Nat} {t u : Tok} {c : Nat}
  {h₀ : Heap} {L : Addr} {m : PySem.Str → Option Value} {news : List (Addr × Obj)}
theorem r_hosts {D : Addr} {l : List Value} {Q : Value → Shared → Prop} (hl : IsTup s.heap D l.toArray) (hs : StrsAre l (hosts.map S)) (h : Q (.bool (decide (a ∈ hosts))) s) :
    wpAny (model prog w) A (compareOp .In (.str (S a) t) (.ref D)) Q E s := in_tuple_strs hl hs (by rw [any_S]; exact h)
theorem r_uses {K : Frag} {D : Addr} {l : List Value} {n : Nat} {dd : Option Addr} {sl : Array (Option Value)} {Q : Value → Shared → Prop} (F : Fr h₀ L s.heap m) (X : K.In h₀)
    (hl : K.lookup D = some ⟨.type "tuple", dd, .seq l.toArray n, sl⟩) (hs : StrsAre l (uses.map S)) (h : Q (.bool (decide (a ∈ uses))) s) :
    wpAny (model prog w) A (compareOp .In (.str (S a) t) (.ref D)) Q E s := in_tuple_strs (tupK (X.keeps F.keep) hl) hs (by rw [any_S]; exact h)

/-- the parts of an f-string -/
def PartP (M : Model) (A : Around) (Q : Value → Shared → Prop) (E : Value → Shared → Prop) (out : List Nat) (rest : List (Sem Value)) (v : Value) (s₁ : Shared) : Prop :=
  ∃ y t, v = .str (S y) t ∧ (out ++ y).length ≤ 16777216 ∧ wpAny M A (joinParts (S (out ++ y)) rest) Q E s₁
theorem partI {M : Model} {out y : List Nat} {rest : List (Sem Value)} {Q : Value → Shared → Prop} (hz : (out ++ y).length ≤ 16777216) (h : wpAny M A (joinParts (S (out ++ y)) rest) Q E s) :
    PartP M A Q E out rest (.str (S y) t) s := ⟨y, t, rfl, hz, h⟩
theorem r_parts {M : Model} {out : List Nat} {x : Sem Value} {rest : List (Sem Value)} {Q : Value → Shared → Prop} (h : wpAny M A x (PartP M A Q E out rest) E s) :
    wpAny M A (joinParts (S out) (x :: rest)) Q E s :=
  joinParts_cons (wpAny_mono h (fun v s₁ z => by
    obtain ⟨y, t, rfl, hz, k⟩ := z
    dsimp only
    rw [S_app]
    exact ⟨by rw [S_len, sizeLine_eq]; exact hz, k⟩) fun _ _ e => e)
theorem r_partsE {M : Model} {env : Env} {out : List Nat} {x : Expr} {rest : List Expr} {Q : Value → Shared → Prop} (h : wpAny M A (eval x env) (PartP M A Q E out (evalEach rest env)) E s) :
    wpAny M A (joinParts (S out) (evalEach (x :: rest) env)) Q E s := joinParts_consE (r_parts h)
theorem r_partsN {M : Model} {out : List Nat} {Q : Value → Shared → Prop} (hz : out.length ≤ 16777216) (h : ∀ t' k, Q (.str (S out) t') { s with toks := k }) :
    wpAny M A (joinParts (S out) []) Q E s := joinParts_nil (h _ _) (by rw [S_len, sizeLine_eq]; exact hz)
theorem r_partsNE {M : Model} {env : Env} {out : List Nat} {Q : Value → Shared → Prop} (hz : out.length ≤ 16777216) (h : ∀ t' k, Q (.str (S out) t') { s with toks := k }) :
    wpAny M A (joinParts (S out) (evalEach [] env)) Q E s := joinParts_nilE (r_partsN hz h)
theorem r_joined {M : Model} {env : Env} {v₁ v₂ : Expr} {rest : List Expr} {pos : Pos} {Q : Value → Shared → Prop} (h : wpAny M A (joinParts (S []) (eval v₁ env :: eval v₂ env :: evalEach rest env)) Q E s) :
    wpAny M A (eval (.JoinedStr (v₁ :: v₂ :: rest) pos) env) Q E s := JoinedStr_many h
end

/-- a number's text -/
def dig (n : Int) : List Nat := (PySem.Str.ofString (toString n)).cps.toList
section
variable {prog : Program} {w : World} {A : Around} {E : Value → Shared → Prop} {s : Shared} {a : List Nat} {n : Int} {t : Tok}
theorem dig_len (h0 : 0 ≤ n) (h1 : n < 65536) : (dig n).length ≤ 10 := KT.len_num h0 (by omega)
theorem r_fint {Q : Value → Shared → Prop} (h0 : 0 ≤ n) (h1 : n < 65536) (h : ∀ t' k, (dig n).length ≤ 10 → Q (.str (S (dig n)) t') { s with toks := k }) :
    wpAny (model prog w) A (formatField (.int n t) PySem.Str.empty) Q E s :=
  wpAny_formatField_int (shown (N := 2 ^ 1920) (by omega) (by omega) (Int.le_refl _)) (h _ _ (dig_len h0 h1))
theorem r_str {Q : Value → Shared → Prop} (h0 : 0 ≤ n) (h1 : n < 65536) (h : ∀ t' k, (dig n).length ≤ 10 → Q (.str (S (dig n)) t') { s with toks := k }) :
    wpAny (model prog w) A (call (.type "str") [.int n t]) Q E s :=
  P.str_of_int (shown (N := 2 ^ 1920) (by omega) (by omega) (Int.le_refl _)) (h _ _ (dig_len h0 h1))
end

/-- ends of a piece of code: a statement, a test -/
def JN (h₀ : Heap) (L : Addr) (s : Shared) (news : List (Addr × Obj)) (Φ : (PySem.Str → Option Value) → Prop) (fl : Flow) (s' : Shared) : Prop :=
  fl = .next ∧ ∃ h' tk m', s' = { s with heap := h', toks := tk } ∧ Fr h₀ L h' m' ∧ News h₀ L h' news ∧ Φ m'
def JB (h₀ : Heap) (L : Addr) (s : Shared) (m : PySem.Str → Option Value) (news : List (Addr × Obj)) (P : Prop) (b : Bool) (s' : Shared) : Prop :=
  (b = true ↔ P) ∧ ∃ h' tk, s' = { s with heap := h', toks := tk } ∧ Fr h₀ L h' m ∧ News h₀ L h' news

def JV (h₀ : Heap) (L : Addr) (s : Shared) (m : PySem.Str → Option Value) (news : List (Addr × Obj)) (V : List Nat) (v : Value) (s' : Shared) : Prop :=
  ∃ l t h' tk, v = .str (S l) t ∧ l = V ∧ s' = { s with heap := h', toks := tk } ∧ Fr h₀ L h' m ∧ News h₀ L h' news

section
variable {M : Model} {A : Around} {E : Value → Shared → Prop} {s : Shared} {h₀ : Heap} {L : Addr} {m : PySem.Str → Option Value} {news : List (Addr × Obj)}
theorem cutN {t : Sem Flow} {Q : Flow → Shared → Prop} {Φ : (PySem.Str → Option Value) → Prop} (h : wpAny M A t (JN h₀ L s news Φ) E s)
    (k : ∀ h' tk m', Fr h₀ L h' m' → News h₀ L h' news → Φ m' → Q .next { s with heap := h', toks := tk }) : wpAny M A t Q E s :=
  wpAny_mono h (fun fl s' x => by obtain ⟨rfl, h', tk, m', rfl, F, N, p⟩ := x; exact k h' tk m' F N p) fun _ _ e => e
theorem cutB {t : Sem Bool} {Q : Bool → Shared → Prop} {P : Prop} (h : wpAny M A t (JB h₀ L s m news P) E s)
    (k : ∀ b h' tk, (b = true ↔ P) → Fr h₀ L h' m → News h₀ L h' news → Q b { s with heap := h', toks := tk }) : wpAny M A t Q E s :=
  wpAny_mono h (fun b s' x => by obtain ⟨e, h', tk, rfl, F, N⟩ := x; exact k b h' tk e F N) fun _ _ e => e
theorem cutV {t : Sem Value} {Q : Value → Shared → Prop} (V : List Nat) (F : Fr h₀ L s.heap m) (N : News h₀ L s.heap news) (h : wpAny M A t (JV h₀ L s m news V) E s)
    (k : ∀ t' h' tk, Fr h₀ L h' m → News h₀ L h' news → Q (.str (S V) t') { s with heap := h', toks := tk }) : wpAny M A t Q E s :=
  wpAny_mono h (fun v s' x => by obtain ⟨l, t, h', tk, rfl, rfl, rfl, F, N⟩ := x; exact k t h' tk F N) fun _ _ e => e
theorem cutNF {t : Sem Flow} {Q : Flow → Shared → Prop} (Φ : (PySem.Str → Option Value) → Prop) (_F : Fr h₀ L s.heap m) (_N : News h₀ L s.heap news) (h : wpAny M A t (JN h₀ L s news Φ) E s)
    (k : ∀ h' tk m', Fr h₀ L h' m' → News h₀ L h' news → Φ m' → Q .next { s with heap := h', toks := tk }) : wpAny M A t Q E s := cutN h k
theorem cutBF {t : Sem Bool} {Q : Bool → Shared → Prop} (P : Prop) (F : Fr h₀ L s.heap m) (N : News h₀ L s.heap news) (h : wpAny M A t (JB h₀ L s m news P) E s)
    (k : ∀ b h' tk, (b = true ↔ P) → Fr h₀ L h' m → News h₀ L h' news → Q b { s with heap := h', toks := tk }) : wpAny M A t Q E s := cutB h k
def Has (m : PySem.Str → Option Value) (x : PySem.Str) (V : List Nat) : Prop := ∃ t, m x = some (.str (S V) t)
theorem hasI {m : PySem.Str → Option Value} {x : PySem.Str} {V l : List Nat} {t : Tok} (h : m x = some (.str (S l) t)) (e : l = V) : Has m x V := by subst e; exact ⟨t, h⟩
theorem jnI {h' : Heap} {tk : Nat} {m' : PySem.Str → Option Value} {Φ : (PySem.Str → Option Value) → Prop} (F : Fr h₀ L h' m') (N : News h₀ L h' news) (p : Φ m') : JN h₀ L s news Φ .next { s with heap := h', toks := tk } :=
  ⟨rfl, h', tk, m', rfl, F, N, p⟩
theorem jbI {h' : Heap} {tk : Nat} {P : Prop} {b : Bool} (F : Fr h₀ L h' m) (N : News h₀ L h' news) (p : b = true ↔ P) : JB h₀ L s m news P b { s with heap := h', toks := tk } := ⟨p, h', tk, rfl, F, N⟩
theorem jvI {h' : Heap} {tk : Nat} {V l : List Nat} {t : Tok} (F : Fr h₀ L h' m) (N : News h₀ L h' news) (p : l = V) : JV h₀ L s m news V (.str (S l) t) { s with heap := h', toks := tk } := ⟨l, t, h', tk, rfl, p, rfl, F, N⟩
theorem retS {Q : Value → Shared → Prop} {V l : List Nat} {t : Tok} {h' : Heap} {tk' : Nat} (hret : ∀ (t : Tok) (h' : Heap) (tk' : Nat), Fr h₀ L h' m → News h₀ L h' news → Q (.str (S V) t) { s with heap := h', toks := tk' })
    (e : l = V) (F : Fr h₀ L h' m) (N : News h₀ L h' news) : Q (.str (S l) t) { s with heap := h', toks := tk' } := by subst e; exact hret t h' tk' F N
theorem frAbs {h : Heap} (F : Fr h₀ L h m) (P : (PySem.Str → Option Value) → Prop) (hp : P m) : ∃ m', Fr h₀ L h m' ∧ P m' := ⟨m, F, hp⟩
theorem newsTl {x : Addr × Obj} {h : Heap} (N : News h₀ L h (x :: news)) : News h₀ L h news := fun p hp => N p (List.mem_cons_of_mem _ hp)
end

theorem le_bef {c n : Nat} {l : List Nat} (h : l.length ≤ n) : (bef c l).length ≤ n := Nat.le_trans (bef_le c l) h
theorem le_aft {c n : Nat} {l : List Nat} (h : l.length ≤ n) : (aft c l).length ≤ n := Nat.le_trans (aft_le c l) h
theorem le_rbef {c n : Nat} {l : List Nat} (h : l.length ≤ n) : (rbef c l).length ≤ n := Nat.le_trans (rbef_le c l) h
theorem le_raft {c n : Nat} {l : List Nat} (h : l.length ≤ n) : (raft c l).length ≤ n := Nat.le_trans (raft_le c l) h
theorem le_take {k n : Nat} {l : List Nat} (h : l.length ≤ n) : (l.take k).length ≤ n := by rw [List.length_take]; omega
theorem le_drop {k n : Nat} {l : List Nat} (h : l.length ≤ n) : (l.drop k).length ≤ n := by rw [List.length_drop]; omega
theorem le_map {f : Nat → Nat} {n : Nat} {l : List Nat} (h : l.length ≤ n) : (l.map f).length ≤ n := by rw [List.length_map]; omega
theorem le_filter {f : Nat → Bool} {n : Nat} {l : List Nat} (h : l.length ≤ n) : (l.filter f).length ≤ n := Nat.le_trans (List.length_filter_le _ _) h
theorem le_dropW {f : Nat → Bool} {n : Nat} {l : List Nat} (h : l.length ≤ n) : (l.dropWhile f).length ≤ n := Nat.le_trans (List.dropWhile_sublist f).length_le h
theorem le_app {a b : List Nat} {n : Nat} (h : a.length ≤ n / 2) (g : b.length ≤ n / 2) : (a ++ b).length ≤ n := by rw [List.length_append]; omega
theorem le_cons {x : Nat} {b : List Nat} {n : Nat} (g : b.length ≤ n / 2) (h : 2 ≤ n) : (x :: b).length ≤ n := by rw [List.length_cons]; omega
theorem le_ite {p : Prop} [Decidable p] {a b : List Nat} {n : Nat} (h : a.length ≤ n) (g : b.length ≤ n) : (if p then a else b).length ≤ n := by split <;> assumption

theorem asc_bef {c : Nat} {l : List Nat} (h : ∀ x ∈ l, x < 128) : ∀ x ∈ bef c l, x < 128 := fun x hx => h x (bef_sub hx)
theorem asc_aft {c : Nat} {l : List Nat} (h : ∀ x ∈ l, x < 128) : ∀ x ∈ aft c l, x < 128 := fun x hx => h x (aft_sub hx)
theorem asc_rbef {c : Nat} {l : List Nat} (h : ∀ x ∈ l, x < 128) : ∀ x ∈ rbef c l, x < 128 := fun x hx => h x (rbef_sub hx)
theorem asc_raft {c : Nat} {l : List Nat} (h : ∀ x ∈ l, x < 128) : ∀ x ∈ raft c l, x < 128 := fun x hx => h x (raft_sub hx)
theorem asc_take {k : Nat} {l : List Nat} (h : ∀ x ∈ l, x < 128) : ∀ x ∈ l.take k, x < 128 := fun x hx => h x (List.mem_of_mem_take hx)
theorem asc_drop {k : Nat} {l : List Nat} (h : ∀ x ∈ l, x < 128) : ∀ x ∈ l.drop k, x < 128 := fun x hx => h x (List.mem_of_mem_drop hx)
theorem asc_filter {f : Nat → Bool} {l : List Nat} (h : ∀ x ∈ l, x < 128) : ∀ x ∈ l.filter f, x < 128 := fun x hx => h x (List.mem_filter.mp hx).1
theorem asc_dropW {f : Nat → Bool} {l : List Nat} (h : ∀ x ∈ l, x < 128) : ∀ x ∈ l.dropWhile f, x < 128 := fun x hx => h x ((List.dropWhile_sublist f).subset hx)
theorem asc_low {l : List Nat} (h : ∀ x ∈ l, x < 128) : ∀ x ∈ l.map low, x < 128 := fun x hx => by
  obtain ⟨y, hy, rfl⟩ := List.mem_map.mp hx
  have := h y hy
  unfold low; split <;> omega
theorem asc_app {a b : List Nat} (h : ∀ x ∈ a, x < 128) (g : ∀ x ∈ b, x < 128) : ∀ x ∈ a ++ b, x < 128 := fun x hx => (List.mem_append.mp hx).elim (h x) (g x)
theorem mark_rest (c : Nat) (l : List Nat) : (if c ∈ l then [c] else []) ++ aft c l = l.dropWhile (· != c) := by
  by_cases h : c ∈ l
  · rw [if_pos h]
    have e := split_at h
    conv => rhs; rw [e]
    rw [List.dropWhile_append_of_pos (fun x hx => bne_iff_ne.mpr fun (q : x = c) => bef_not c l (by subst q; exact hx))]
    simp
  · rw [if_neg h, aft_of_not h]
    have e := bef_of_not h
    unfold bef at e
    rw [dropWhile_eq_drop, e]
    simp
end Mine
end

/-! M3 -/
section
open PySem PySem.W PySem.Calls PyProof.Rows PySem.Builtin PySem.Builtin.Str
set_option linter.unusedSimpArgs false
set_option linter.unusedVariables false
set_option maxHeartbeats 2000000
namespace Mine
open LCg LCt

/-- the texts of a made list -/
def StrL (ys : List Value) (l : List Nat) : Prop := CarriedAll ys (l.map fun c => PyData.str (S [c]))
/-- what a comprehension over a text asks of its source -/
def CompS (h₀ : Heap) (L : Addr) (m : PySem.Str → Option Value) (p : Nat → Bool) (Q : Value → Shared → Prop) (xv : Value) (s₁ : Shared) : Prop :=
  ∃ a t news, xv = .str (S a) t ∧ a.length ≤ 16777216 ∧ Fr h₀ L s₁.heap m ∧ News h₀ L s₁.heap news ∧
    ∀ D ys h' tk, StrL ys (a.filter p) → Fr h₀ L h' m → News h₀ L h' ((D, lst ys) :: news) → (∀ q ∈ news, q.1 ≠ D) → Q (.ref D) { s₁ with heap := h', toks := tk }

section
variable {prog : Program} {w : World} {A : Around} {E : Value → Shared → Prop} {s : Shared} {h₀ : Heap} {L : Addr} {m : PySem.Str → Option Value} {env : Env} {news : List (Addr × Obj)}

theorem compS_I {a : List Nat} {t : Tok} {p : Nat → Bool} {Q : Value → Shared → Prop} (F : Fr h₀ L s.heap m) (N : News h₀ L s.heap news) (hz : a.length ≤ 16777216)
    (h : ∀ D ys h' tk, StrL ys (a.filter p) → Fr h₀ L h' m → News h₀ L h' ((D, lst ys) :: news) → (∀ q ∈ news, q.1 ≠ D) → Q (.ref D) { s with heap := h', toks := tk }) :
    CompS h₀ L m p Q (.str (S a) t) s := ⟨a, t, news, rfl, hz, F, N, h⟩

theorem off1_mem {D : Addr} : ∀ {l : List (Addr × Obj)}, Off1 D l → ∀ p ∈ l, p.1 ≠ D
  | [], _, _, h => nomatch h
  | _ :: _, x, p, h => by
    rcases List.mem_cons.mp h with rfl | h
    · exact x.1
    · exact off1_mem x.2 p h

theorem rest_notin {a lit : List Nat} {litS x : PySem.Str} {p1 p2 p3 p4 : Pos} {kk : Nat} {scope : Scope} {cl : List (PySem.Str × Addr)} {Fin : List Value → List (Addr × Obj) → Prop} {sS : Shared}
    (hlit : litS = S lit) (hkc : ∀ C, (compEnvC scope cl C env).scope.kind = .function) (hlc : ∀ C, (compEnvC scope cl C env).kindOf x = some .local) (hd : (x == ("__debug__" : PySem.Str)) = false)
    (fin : ∀ ys, StrL ys (a.filter fun c => decide (c ∉ lit)) → Fin ys news) :
    CompRestT prog w A h₀ L m env (.Compare (.Name x p2) [.NotIn] [.Constant (.str litS) kk p3] p4) (.Name x p1) x scope cl sS (fun _ => True) (SignAt (S a)) Fin a.length 0 [] news := by
  subst hlit
  have key : ∀ (j i : Nat) (ys : List Value), i + j = a.length → StrL ys ((a.take i).filter fun c => decide (c ∉ lit)) →
      CompRestT prog w A h₀ L m env (.Compare (.Name x p2) [.NotIn] [.Constant (.str (S lit)) kk p3] p4) (.Name x p1) x scope cl sS (fun _ => True) (SignAt (S a)) Fin j i ys news := by
    intro j
    induction j with
    | zero =>
      intro i ys hi hy
      have e : i = a.length := by omega
      subst e
      rw [List.take_length] at hy
      exact CompRestT.zero (fin ys hy)
    | succ j ih =>
      intro i ys hi hy
      refine CompRestT.succ ?_
      intro v I oI C oC D m₂ h tk E' hv hC hx F N off ne
      obtain ⟨c, u, hc, rfl⟩ := hv
      have hc' : a[i]? = some c := by
        have e : (S a).cps[i]? = a[i]? := by
          show a.toArray[i]? = a[i]?
          simp
        rw [← e]; exact hc
      have ht : a.take (i + 1) = a.take i ++ [c] := by rw [List.take_add_one, hc']; rfl
      refine wpAny_isTrue_Compare1 (LCgL.ld_own N (List.mem_cons_of_mem _ List.mem_cons_self) hC hx ?_ (hkc C) (hlc C) hd)
      refine Calls.Constant_str ?_
      refine r_notin (c := c) (a := lit) ?_
      refine wpAny_truthy_bool ?_
      by_cases hm : c ∈ lit
      · have e : decide (c ∉ lit) = false := by simp [hm]
        rw [e]
        simp only [Bool.false_eq_true, if_false]
        refine ⟨h, _, news, rfl, F, N, off, trivial, ih (i + 1) ys (by omega) ?_⟩
        rw [ht, List.filter_append]
        simpa [hm] using hy
      · have e : decide (c ∉ lit) = true := by simp [hm]
        rw [e]
        simp only [if_true]
        refine LCgL.ld_own (s := { sS with heap := h, toks := _ }) N (List.mem_cons_of_mem _ List.mem_cons_self) hC hx ?_ (hkc C) (hlc C) hd
        refine ⟨h, _, news, rfl, F, N, off, trivial, ih (i + 1) _ (by omega) ?_⟩
        rw [ht, List.filter_append]
        have e2 : List.filter (fun c => decide (c ∉ lit)) [c] = [c] := by simp [hm]
        rw [e2]
        unfold StrL at hy ⊢
        rw [List.map_append]
        exact CarriedAll.snoc hy (Carried.str _ _)
  exact key a.length 0 [] (by omega) CarriedAll.nil

theorem comp_notin {lit : List Nat} {litS x : PySem.Str} {p1 p2 p3 p4 px pos : Pos} {kk : Nat} {iter : Expr} {scope : Scope} {cl : List (PySem.Str × Addr)} {Q : Value → Shared → Prop} (_F₀ : Fr h₀ L s.heap m)
    (hlit : litS = S lit) (hh : A.handled = none) (hclos : closureFor scope env = pure cl) (hcell : ∀ y ∈ scope.names, y.2 ≠ .cell) (hkind : scope.kind = .function)
    (hnames : ∀ y ∈ scope.names, y.2 = .local → scope.names.lookup y.1 = some .local) (hx : scope.names.lookup x = some .local)
    (hkc : ∀ C, (compEnvC scope cl C env).scope.kind = .function) (hlc : ∀ C, (compEnvC scope cl C env).kindOf x = some .local) (hd : (x == ("__debug__" : PySem.Str)) = false)
    (h : wpAny (model prog w) A (eval iter env) (CompS h₀ L m (fun c => decide (c ∉ lit)) Q) E s)
    (hs : ∀ x, foldedSetIterable iter env x = pure x) :
    wpAny (model prog w) A (eval (.ListComp (.Name x p1) [⟨.Name x px, iter, [.Compare (.Name x p2) [.NotIn] [.Constant (.str litS) kk p3] p4], 0⟩] scope pos) env) Q E s := by
  rw [eval_ListComp]
  refine wpAny_comprehension_free (use := none) rfl hs hclos hkind hnames (wpAny_mono h (fun xv s₁ h₁ => ?_) fun _ _ e => e)
  obtain ⟨a, t, nw, rfl, hz, F, N, fin⟩ := h₁
  have fr : ∀ D C h tk (m' : PySem.Str → Option Value) ys news' (s₂ : Shared), s₂ = { s₁ with heap := s₂.heap, toks := s₂.toks } → Fr h₀ L h m → News h₀ L h ((D, lst ys) :: news') → Off1 D news' → h.Ns C m' → h₀.get? C = none → C ≠ L → C ≠ D → (∀ p ∈ news', p.1 ≠ C) →
      (news' = nw ∧ StrL ys (a.filter fun c => decide (c ∉ lit))) → compPost (model prog w) A E none Q (.ref D) C (.ok .next) { s₂ with heap := h, toks := tk } := by
    intro D C h tk m' ys news' s₂ e₂ F' N' o1 hn hC₀ hCL hCD offC fin'
    obtain ⟨rfl, hy⟩ := fin'
    refine ⟨m', hn, fun h'' hs'' => ?_⟩
    rw [e₂]
    refine fin D ys h'' tk hy (F'.change hs'' hCL hC₀) (fun p hp => ⟨hs''.extBut _ _ ?_ (N' p hp).1, (N' p hp).2⟩) (off1_mem o1)
    rcases List.mem_cons.mp hp with rfl | hp
    · exact Ne.symm hCD
    · exact offC p hp
  have up : ∀ (o : Obj) b o', s₁.heap.get? b = some o' → (s₁.heap.push o).get? b = some o' := fun o b o' e => Heap.get?_push_of_some _ e
  have lt1 : ∀ (o : Obj), ∀ b ∈ [s₁.heap.objs.size], b < (s₁.heap.push o).objs.size := fun o b hb => by
    rw [List.mem_singleton.mp hb, Heap.size_push]; exact Nat.lt_succ_self _
  cases ha : (S a).cps.all (· < 128)
  · refine wpAny_pyIter_wide ha ?_
    refine block_T (S := fun _ => True) (Fin := fun ys news' => news' = nw ∧ StrL ys (a.filter fun c => decide (c ∉ lit))) (Walks.strWide hh s₁.heap.objs.size (S a) t)
      (by show a.toArray.size ≤ sizeLine; rw [List.size_toArray, sizeLine_eq]; exact hz) (fun i h st => by obtain ⟨o, e, _⟩ := st; exact ⟨o, e⟩)
      (fun i h h' o nw st e e' _ _ _ => by obtain ⟨o', q, r⟩ := st; rw [e] at q; cases q; exact ⟨o, e', r⟩) hcell hkind hx ⟨_, Heap.get?_push_size _ rfl, rfl, rfl⟩ (lt1 _)
      (F.keeps (up _)) (N.grown (up _)) (Nat.ne_of_lt F.ns.lt) (next_is_new F) (fun p hp => Nat.ne_of_lt (Heap.lt_size (N p hp).1)) trivial
      (by
        have e : (S a).cps.size = a.length := by show a.toArray.size = _; rw [List.size_toArray]
        rw [e]
        exact rest_notin hlit hkc hlc hd fun ys hy => ⟨rfl, hy⟩) ?_
    intro D C h tk m' ys news' F' N' o1 hn hC₀ hD₀ hCL hDL hCD offC fin'
    exact fr D C h tk m' ys news' { s₁ with heap := s₁.heap.push _ } rfl F' N' o1 hn hC₀ hCL hCD offC fin'
  · refine wpAny_pyIter_ascii ha ?_
    refine block_T (S := fun _ => True) (Fin := fun ys news' => news' = nw ∧ StrL ys (a.filter fun c => decide (c ∉ lit))) (Walks.strAscii hh s₁.heap.objs.size (S a) t)
      (by show a.toArray.size ≤ sizeLine; rw [List.size_toArray, sizeLine_eq]; exact hz) (fun i h st => by obtain ⟨o, e, _⟩ := st; exact ⟨o, e⟩)
      (fun i h h' o nw st e e' _ _ _ => by obtain ⟨o', q, r⟩ := st; rw [e] at q; cases q; exact ⟨o, e', r⟩) hcell hkind hx ⟨_, Heap.get?_push_size _ rfl, rfl, rfl⟩ (lt1 _)
      (F.keeps (up _)) (N.grown (up _)) (Nat.ne_of_lt F.ns.lt) (next_is_new F) (fun p hp => Nat.ne_of_lt (Heap.lt_size (N p hp).1)) trivial
      (by
        have e : (S a).cps.size = a.length := by show a.toArray.size = _; rw [List.size_toArray]
        rw [e]
        exact rest_notin hlit hkc hlc hd fun ys hy => ⟨rfl, hy⟩) ?_
    intro D C h tk m' ys news' F' N' o1 hn hC₀ hD₀ hCL hDL hCD offC fin'
    exact fr D C h tk m' ys news' { s₁ with heap := s₁.heap.push _ } rfl F' N' o1 hn hC₀ hCL hCD offC fin'
end

section
variable {prog : Program} {w : World} {A : Around} {E : Value → Shared → Prop} {s : Shared} {h₀ : Heap} {L : Addr} {m : PySem.Str → Option Value} {env : Env} {news : List (Addr × Obj)}

theorem cutNF0 {M : Model} {t : Sem Flow} {Q : Flow → Shared → Prop} (Φ : (PySem.Str → Option Value) → Prop) (_F : Fr h₀ L s.heap m) (_N : News h₀ L s.heap news) (h : wpAny M A t (JN h₀ L s news Φ) (fun _ _ => False) s)
    (k : ∀ h' tk m', Fr h₀ L h' m' → News h₀ L h' news → Φ m' → Q .next { s with heap := h', toks := tk }) : wpAny M A t Q E s :=
  wpAny_mono h (fun fl s' x => by obtain ⟨rfl, h', tk, m', rfl, F, N, p⟩ := x; exact k h' tk m' F N p) fun _ _ e => e.elim

/-- a loop over a text that stores nothing but its own name, and leaves where p does not hold -/
def TurnP (h₀ : Heap) (L : Addr) (m : PySem.Str → Option Value) (x : PySem.Str) (news : List (Addr × Obj)) (s : Shared) (P : Prop) (f : Flow) (s₂ : Shared) : Prop :=
  ∃ h' tk m', s₂ = { s with heap := h', toks := tk } ∧ Fr h₀ L h' m' ∧ News h₀ L h' news ∧ (∀ y, y ≠ x → m' y = m y) ∧ ((f = .next ∧ P) ∨ (f = .brk ∧ ¬ P))
theorem turnN {x : PySem.Str} {P : Prop} {h' : Heap} {tk : Nat} {m' : PySem.Str → Option Value} (F : Fr h₀ L h' m') (N : News h₀ L h' news) (e : ∀ y, y ≠ x → m' y = m y) (p : P) : TurnP h₀ L m x news s P .next { s with heap := h', toks := tk } :=
  ⟨h', tk, m', rfl, F, N, e, .inl ⟨rfl, p⟩⟩
theorem turnB {x : PySem.Str} {P : Prop} {h' : Heap} {tk : Nat} {m' : PySem.Str → Option Value} (F : Fr h₀ L h' m') (N : News h₀ L h' news) (e : ∀ y, y ≠ x → m' y = m y) (p : ¬ P) : TurnP h₀ L m x news s P .brk { s with heap := h', toks := tk } :=
  ⟨h', tk, m', rfl, F, N, e, .inr ⟨rfl, p⟩⟩

theorem loop_text {x : PySem.Str} {px : Pos} {body orelse : List Stmt} {a : List Nat} {t : Tok} {p : Nat → Prop} {I : Addr} {ty : String} {R : Result → Shared → Prop}
    (W : Walks prog w A I [I] [I] (S a).cps.size (SignAt (S a)) (fun i h => h.IsStrIter I ty (S a) t i)) (hx : env.kindOf x = some .local)
    (hp : (env.scope.kind == .class || (env.scope.kind == .module && env.locals != env.globals)) = false)
    (hI : I ≠ env.locals) (hI₀ : h₀.get? I = none) (hst : s.heap.IsStrIter I ty (S a) t 0) (F : Fr h₀ env.locals s.heap m) (N : News h₀ env.locals s.heap news) (off : ∀ q ∈ news, q.1 ≠ I)
    (turn : ∀ c u m₁ h tk it (E' : Value → Shared → Prop), c ∈ a → m₁ x = some (.str (S [c]) u) → (∀ y, y ≠ x → m₁ y = m y) → Fr h₀ env.locals h m₁ → News h₀ env.locals h ((I, it) :: news) →
      wpAny (model prog w) A (execs body env) (TurnP h₀ env.locals m x ((I, it) :: news) { s with heap := h, toks := tk } (p c)) E' { s with heap := h, toks := tk })
    (brk : ∀ h tk m₁, (∃ c ∈ a, ¬ p c) → Fr h₀ env.locals h m₁ → News h₀ env.locals h news → (∀ y, y ≠ x → m₁ y = m y) → R (.ok .next) { s with heap := h, toks := tk })
    (done : ∀ h tk m₁ (E' : Value → Shared → Prop), (∀ c ∈ a, p c) → Fr h₀ env.locals h m₁ → News h₀ env.locals h news → (∀ y, y ≠ x → m₁ y = m y) → wpAny (model prog w) A (execs orelse env) (fun f s' => R (.ok f) s') E' { s with heap := h, toks := tk }) :
    codeAny (model prog w) A (.forLoop (.Name x px) (.ref I) body orelse env) R s := by
  have hn : (S a).cps.size = a.length := by show a.toArray.size = _; rw [List.size_toArray]
  have old : ∀ b o, h₀.get? b = some o → b ∉ [I] := fun b o e hb => by rw [List.mem_singleton.mp hb, hI₀] at e; cases e
  refine codeAny_forLoop
    (fun k s' => ∃ h' tk m' i, s' = { s with heap := h', toks := tk } ∧ h'.IsStrIter I ty (S a) t i ∧ Fr h₀ env.locals h' m' ∧ News h₀ env.locals h' news ∧ (∀ y, y ≠ x → m' y = m y) ∧ (∀ c ∈ a.take i, p c) ∧ i ≤ a.length ∧ k = a.length + 1 - i) ?_ (a.length + 1)
    ⟨s.heap, s.toks, m, 0, rfl, hst, F, N, fun _ _ => rfl, by simp, Nat.zero_le _, rfl⟩
  rintro k s' ⟨h', tk, m', i, rfl, hst', F', N', hm, hall, hi, rfl⟩
  have next : ∀ h₁ : Heap, (∀ b o, b ∉ [I] → h'.get? b = some o → h₁.get? b = some o) → Fr h₀ env.locals h₁ m' ∧ News h₀ env.locals h₁ news := fun h₁ hk₁ =>
    ⟨⟨F'.ns.at' fun o e => hk₁ _ o (by simpa using Ne.symm hI) e, fun b o e => hk₁ b o (old b o e) (F'.keep b o e), F'.above⟩, fun q hq => ⟨hk₁ _ _ (by simpa using off q hq) (N' q hq).1, (N' q hq).2⟩⟩
  by_cases hlt : i < a.length
  · refine W.item i _ _ _ (by rw [hn]; exact hlt) hst' fun v h₁ tk₁ hP hst₁ hk₁ => ?_
    obtain ⟨F₁, N₁⟩ := next h₁ hk₁
    obtain ⟨c, u, hc, rfl⟩ := hP
    have hc' : a[i]? = some c := by
      have e : (S a).cps[i]? = a[i]? := by
        show a.toArray[i]? = a[i]?
        simp
      rw [← e]; exact hc
    have ht : a.take (i + 1) = a.take i ++ [c] := by rw [List.take_add_one, hc']; rfl
    refine wpAny_assign_Name (wpAny_storeName_local hx F₁.ns (fun h₂ hn₂ hs₂ => ?_) hp)
    have F₂ := F₁.set hn₂ hs₂
    have N₂ := N₁.set hs₂
    obtain ⟨it, hit, hic, hid⟩ := hst₁
    have hit₂ : h₂.get? I = some it := (hs₂.2 I hI).trans hit
    have N₃ : News h₀ env.locals h₂ ((I, it) :: news) := fun q hq => by
      rcases List.mem_cons.mp hq with rfl | hq
      · exact ⟨hit₂, hI, hI₀⟩
      · exact N₂ q hq
    refine wpAny_mono (turn c u _ h₂ _ it _ (List.mem_of_getElem? hc') (if_pos rfl) (fun y hy => (if_neg hy).trans (hm y hy)) F₂ N₃) (fun f s₃ h₃ => ?_) fun _ _ e => e
    obtain ⟨h₄, tk₄, m₄, rfl, F₄, N₄, hm₄, hf⟩ := h₃
    rcases hf with ⟨rfl, hpc⟩ | ⟨rfl, hpc⟩
    · refine ⟨a.length + 1 - (i + 1), by omega, h₄, tk₄, m₄, i + 1, rfl, ⟨it, (N₄ _ List.mem_cons_self).1, hic, hid⟩, F₄, newsTl N₄, hm₄, ?_, hlt, rfl⟩
      intro c' hc''
      rw [ht] at hc''
      rcases List.mem_append.mp hc'' with q | q
      · exact hall c' q
      · rw [List.mem_singleton.mp q]; exact hpc
    · exact brk h₄ tk₄ m₄ ⟨c, List.mem_of_getElem? hc', hpc⟩ F₄ (newsTl N₄) hm₄
  · have hin : i = a.length := by omega
    subst hin
    rw [List.take_length] at hall
    refine W.done _ _ _ (by rw [hn]; exact hst') fun h₁ tk₁ hk₁ => ?_
    obtain ⟨F₁, N₁⟩ := next h₁ hk₁
    exact done h₁ tk₁ m' _ hall F₁ N₁ hm

theorem for_text {x : PySem.Str} {px pos : Pos} {iter : Expr} {body orelse : List Stmt} (p : Nat → Prop) {Q : Flow → Shared → Prop} (_F₀ : Fr h₀ env.locals s.heap m) (hh : A.handled = none) (hx : env.kindOf x = some .local)
    (hp : (env.scope.kind == .class || (env.scope.kind == .module && env.locals != env.globals)) = false)
    (h : wpAny (model prog w) A (eval iter env) (fun xv s₁ => ∃ a t m news, xv = .str (S a) t ∧ Fr h₀ env.locals s₁.heap m ∧ News h₀ env.locals s₁.heap news ∧
      (∀ c u m₁ h tk I it (E' : Value → Shared → Prop), c ∈ a → m₁ x = some (.str (S [c]) u) → (∀ y, y ≠ x → m₁ y = m y) → Fr h₀ env.locals h m₁ → News h₀ env.locals h ((I, it) :: news) →
        wpAny (model prog w) A (execs body env) (TurnP h₀ env.locals m x ((I, it) :: news) { s₁ with heap := h, toks := tk } (p c)) E' { s₁ with heap := h, toks := tk }) ∧
      (∀ h tk m₁, (∃ c ∈ a, ¬ p c) → Fr h₀ env.locals h m₁ → News h₀ env.locals h news → (∀ y, y ≠ x → m₁ y = m y) → Q .next { s₁ with heap := h, toks := tk }) ∧
      (∀ h tk m₁ (E' : Value → Shared → Prop), (∀ c ∈ a, p c) → Fr h₀ env.locals h m₁ → News h₀ env.locals h news → (∀ y, y ≠ x → m₁ y = m y) → wpAny (model prog w) A (execs orelse env) Q E' { s₁ with heap := h, toks := tk })) E s)
    (hs : ∀ x, foldedSetIterable iter env x = pure x) :
    wpAny (model prog w) A (exec (.For (.Name x px) iter body orelse pos) env) Q E s := by
  refine wpAny_For (wpAny_mono h (fun xv s₁ h₁ => ?_) fun _ _ e => e) hs
  obtain ⟨a, t, m, news, rfl, F, N, turn, brk, done⟩ := h₁
  have up : ∀ (o : Obj) b o', s₁.heap.get? b = some o' → (s₁.heap.push o).get? b = some o' := fun o b o' e => Heap.get?_push_of_some _ e
  cases ha : (S a).cps.all (· < 128)
  · refine wpAny_pyIter_wide ha ?_
    exact loop_text (Walks.strWide hh _ (S a) t) hx hp (Ne.symm (Nat.ne_of_lt F.ns.lt)) (next_is_new F) ⟨_, Heap.get?_push_size _ rfl, rfl, rfl⟩ (F.keeps (up _)) (N.grown (up _)) (fun q hq => Nat.ne_of_lt (Heap.lt_size (N q hq).1))
      (fun c u m₁ h tk it E' a b e f g => turn c u m₁ h tk _ it E' a b e f g) brk done
  · refine wpAny_pyIter_ascii ha ?_
    exact loop_text (Walks.strAscii hh _ (S a) t) hx hp (Ne.symm (Nat.ne_of_lt F.ns.lt)) (next_is_new F) ⟨_, Heap.get?_push_size _ rfl, rfl, rfl⟩ (F.keeps (up _)) (N.grown (up _)) (fun q hq => Nat.ne_of_lt (Heap.lt_size (N q hq).1))
      (fun c u m₁ h tk it E' a b e f g => turn c u m₁ h tk _ it E' a b e f g) brk done

/-- joined texts -/
theorem join_S (l : List Nat) : PySem.Txt.join (S []) (l.map fun c => S [c]) = S l := by
  show Builtin.Str.glued (S []) _ = _
  rw [StrLaws.glued_eq_join]
  induction l with
  | nil => rfl
  | cons c r ih =>
    cases r with
    | nil => rfl
    | cons d r =>
      show S [c] ++ S [] ++ PySem.Str.join (S []) ((d :: r).map fun c => S [c]) = S (c :: d :: r)
      rw [ih, S_app, S_app]; rfl
theorem r_join {D : Addr} {ys : List Value} {l : List Nat} {t : Tok} {Q : Value → Shared → Prop} (hl : s.heap.IsList D ys.toArray) (hc : StrL ys l) (hn : l.length ≤ 1048576) (h : ∀ t' k, Q (.str (S l) t') { s with toks := k }) :
    wpAny (model prog w) A (call (.builtin "str.join") [.str (S []) t, .ref D]) Q E s :=
  KT.join_B 1 hl hc (fun a _ => Nat.le_refl _) hn (by decide) (fun t' k => by rw [join_S]; exact h t' k)
theorem strOk_S {a : List Nat} (h : ∀ c ∈ a, c < 128) : PySem.PyData.strOk (S a) = true := by
  unfold PySem.PyData.strOk
  show a.toArray.all _ = true
  simp only [List.all_toArray, List.all_eq_true, decide_eq_true_eq]
  intro c hc
  have := h c hc
  omega
theorem shaped_strs {l : List Nat} (h : ∀ c ∈ l, c < 128) : SeqAt.shaped (.list (l.map fun c => PyData.str (S [c]))) = true := by
  have h1 : PyData.canLayAll0 (l.map fun c => PyData.str (S [c])) = true := by
    induction l with
    | nil => rfl
    | cons c r ih =>
      have e := strOk_S (a := [c]) (by intro d hd; rw [List.mem_singleton.mp hd]; exact h c List.mem_cons_self)
      simp [PyData.canLayAll0, PyData.canLay0, e, ih fun d hd => h d (List.mem_cons_of_mem _ hd)]
  have h2 : PyData.depthAll (l.map fun c => PyData.str (S [c])) = 0 := by
    clear h h1
    induction l with
    | nil => rfl
    | cons c r ih => simp [PyData.depthAll, PyData.depth, ih]
  simp [SeqAt.shaped, PyData.canLay0, PyData.depth, h1, h2]
theorem eqv_nil (l : List Nat) : PyData.eqv (.list (l.map fun c => PyData.str (S [c]))) (.list []) = decide (l = []) := by
  cases l with
  | nil => rfl
  | cons c r => simp [PyData.eqv, PyData.eqvAll]
theorem r_isnil {D D₀ : Addr} {ys : List Value} {l : List Nat} {Q : Value → Shared → Prop} (hl : s.heap.IsList D ys.toArray) (hc : StrL ys l) (ha : ∀ c ∈ l, c < 128) (h0 : s.heap.IsList D₀ ([] : List Value).toArray) (hu : A.units + 64 < cLine)
    (h : Q (.bool (decide (l = []))) s) : wpAny (model prog w) A (compareOp .Eq (.ref D) (.ref D₀)) Q E s :=
  eq_dataH (reads_newData hl hc) (reads_newData h0 CarriedAll.nil) (shaped_strs ha) rfl hu (by rw [eqv_nil]; exact h)
theorem r_notnil {D D₀ : Addr} {ys : List Value} {l : List Nat} {Q : Value → Shared → Prop} (hl : s.heap.IsList D ys.toArray) (hc : StrL ys l) (ha : ∀ c ∈ l, c < 128) (h0 : s.heap.IsList D₀ ([] : List Value).toArray) (hu : A.units + 64 < cLine)
    (h : Q (.bool (decide (l ≠ []))) s) : wpAny (model prog w) A (compareOp .NotEq (.ref D) (.ref D₀)) Q E s :=
  ne_dataH (reads_newData hl hc) (reads_newData h0 CarriedAll.nil) (shaped_strs ha) rfl hu (by rw [eqv_nil]; rw [decide_not] at h; exact h)
theorem r_ord {a : List Nat} {t : Tok} {Q : Value → Shared → Prop} (hne : a ≠ []) (h : ∀ t' k, Q (.int (a.headD 0 : Nat) t') { s with toks := k }) :
    wpAny (model prog w) A (call (.builtin "ord") [.str (S (a.take 1)) t]) Q E s := by
  cases a with
  | nil => exact absurd rfl hne
  | cons c r => exact P.ord_of_char (c := c) (h _ _)
end

def JVB (h₀ : Heap) (L : Addr) (s : Shared) (m : PySem.Str → Option Value) (news : List (Addr × Obj)) (P : Prop) (v : Value) (s' : Shared) : Prop :=
  ∃ b h' tk, v = .bool b ∧ (b = true ↔ P) ∧ s' = { s with heap := h', toks := tk } ∧ Fr h₀ L h' m ∧ News h₀ L h' news
section
variable {M : Model} {A : Around} {E : Value → Shared → Prop} {s : Shared} {h₀ : Heap} {L : Addr} {m : PySem.Str → Option Value} {news : List (Addr × Obj)}
theorem jvbI {h' : Heap} {tk : Nat} {P : Prop} {b : Bool} (F : Fr h₀ L h' m) (N : News h₀ L h' news) (p : b = true ↔ P) : JVB h₀ L s m news P (.bool b) { s with heap := h', toks := tk } := ⟨b, h', tk, rfl, p, rfl, F, N⟩
theorem cutVB {t : Sem Value} {Q : Value → Shared → Prop} (P : Prop) (F : Fr h₀ L s.heap m) (N : News h₀ L s.heap news) (h : wpAny M A t (JVB h₀ L s m news P) E s)
    (k : ∀ b h' tk, (b = true ↔ P) → Fr h₀ L h' m → News h₀ L h' news → Q (.bool b) { s with heap := h', toks := tk }) : wpAny M A t Q E s :=
  wpAny_mono h (fun v s' x => by obtain ⟨b, h', tk, rfl, p, rfl, F, N⟩ := x; exact k b h' tk p F N) fun _ _ e => e
theorem retT {Q : Value → Shared → Prop} {news' : List (Addr × Obj)} {a : Addr} {o : Obj} {h' : Heap} {tk' : Nat} (hret : ∀ (a : Addr) (h' : Heap) (tk' : Nat), Fr h₀ L h' m → News h₀ L h' ((a, o) :: news) → (∀ p ∈ news, p.1 < a) → Q (.ref a) { s with heap := h', toks := tk' })
    (F : Fr h₀ L h' m) (N : News h₀ L h' news') (hs : ∀ p ∈ (a, o) :: news, p ∈ news') (lt : ∀ p ∈ news, p.1 < a) : Q (.ref a) { s with heap := h', toks := tk' } := hret a h' tk' F (fun p hp => N p (hs p hp)) lt
end

theorem allLt_mem {d : Addr} : ∀ {l : List (Addr × Obj)}, AllLt d l → ∀ p ∈ l, p.1 < d
  | [], _, _, h => nomatch h
  | _ :: _, x, p, h => by
    rcases List.mem_cons.mp h with rfl | h
    · exact x.1
    · exact allLt_mem x.2 p h

theorem whileI {h₀ h' : Heap} {L : Addr} {s : Shared} {J : Nat → (PySem.Str → Option Value) → List (Addr × Obj) → Prop} {Q : Flow → Shared → Prop} {n n' tk : Nat} {m₂ : PySem.Str → Option Value} {news₂ : List (Addr × Obj)}
    (F : Fr h₀ L h' m₂) (N : News h₀ L h' news₂) (hn : n' < n) (hJ : J n' m₂ news₂) : WhileStep2 h₀ L s J Q n .next { s with heap := h', toks := tk } := ⟨h', tk, m₂, news₂, n', rfl, F, N, hn, hJ⟩

def tup5 (a b c d e : List Nat) (ta tb tc td te : Tok) : Obj := { cls := .type "tuple", data := .seq [.str (S a) ta, .str (S b) tb, .str (S c) tc, .str (S d) td, .str (S e) te].toArray }
theorem ret5 {s : Shared} {h₀ : Heap} {L : Addr} {m : PySem.Str → Option Value} {news more : List (Addr × Obj)} {Q : Value → Shared → Prop} {A B C D E : List Nat} {ta tb tc td te : Tok} {a : Addr} {h' : Heap} {tk' : Nat}
    (hret : ∀ ta tb tc td te (a : Addr) (h' : Heap) (tk' : Nat), Fr h₀ L h' m → News h₀ L h' ((a, tup5 A B C D E ta tb tc td te) :: news) → (∀ p ∈ news, p.1 < a) → Q (.ref a) { s with heap := h', toks := tk' })
    (F : Fr h₀ L h' m) (N : News h₀ L h' ((a, { cls := .type "tuple", data := .seq [.str (S A) ta, .str (S B) tb, .str (S C) tc, .str (S D) td, .str (S E) te].toArray }) :: more)) (hs : ∀ p ∈ news, p ∈ more) (lt : ∀ p ∈ news, p.1 < a) :
    Q (.ref a) { s with heap := h', toks := tk' } := hret ta tb tc td te a h' tk' F (fun p hp => N p (by
      rcases List.mem_cons.mp hp with rfl | hp
      · exact List.mem_cons_self
      · exact List.mem_cons_of_mem _ (hs p hp))) lt
end Mine
end

/-! M4 -/
section
open PySem PySem.W PySem.Calls PyProof.Rows PySem.Builtin PySem.Builtin.Str
set_option linter.unusedSimpArgs false
set_option linter.unusedVariables false
set_option maxHeartbeats 2000000
namespace Mine

theorem ws33 : (fun c : Nat => decide (c ∈ [0, 1, 2, 3, 4, 5, 6, 7, 8, 9, 10, 11, 12, 13, 14, 15, 16, 17, 18, 19, 20, 21, 22, 23, 24, 25, 26, 27, 28, 29, 30, 31, 32])) = fun c => decide (c < 33) := by
  funext c
  refine decide_eq_decide.mpr ?_
  simp only [List.mem_cons, List.not_mem_nil, or_false]
  omega

section
variable {prog : Program} {w : World} {A : Around} {E : Value → Shared → Prop} {s : Shared} {h₀ : Heap} {L : Addr} {m : PySem.Str → Option Value} {env : Env} {news : List (Addr × Obj)}

theorem r_litE {x : PySem.Str} {l : List Nat} {k : Nat} {pos : Pos} {Q : Value → Shared → Prop} (e : x = S l) (h : Q (.str (S l) s.toks) { s with toks := s.toks + 1 }) :
    wpAny (model prog w) A (eval (.Constant (.str x) k pos) env) Q E s := by
  subst e
  exact Calls.Constant_str h
theorem r_in1 {a b : List Nat} {t u : Tok} {Q : Value → Shared → Prop} (hne : a ≠ []) (h : Q (.bool (decide (a.headD 0 ∈ b))) s) : wpAny (model prog w) A (compareOp .In (.str (S (a.take 1)) t) (.str (S b) u)) Q E s := by
  cases a with
  | nil => exact absurd rfl hne
  | cons c r => exact r_in (c := c) h

theorem cutNT {M : Model} {t : Sem Flow} {Q : Flow → Shared → Prop} (n : Nat) (Φ : (PySem.Str → Option Value) → Prop) (hn : n ≤ s.toks) (_F : Fr h₀ L s.heap m) (_N : News h₀ L s.heap news) (h : wpAny M A t (JN h₀ L s news Φ) E s)
    (k : ∀ h' tk m', n ≤ tk → Fr h₀ L h' m' → News h₀ L h' news → Φ m' → Q .next { s with heap := h', toks := tk }) : wpAny M A t Q E s :=
  wpAny_with_toks hn (wpAny_mono h (fun fl s' x hk => by obtain ⟨rfl, h', tk, m', rfl, F, N, p⟩ := x; exact k h' tk m' hk F N p) fun _ _ e _ => e)

/-- a turn's end -/
def TurnJ (h₀ : Heap) (L : Addr) (news : List (Addr × Obj)) (s : Shared) (Φ : (PySem.Str → Option Value) → Prop) (f : Flow) (s₂ : Shared) : Prop := JN h₀ L s news Φ f s₂

theorem loop_list {x : PySem.Str} {px : Pos} {body : List Stmt} {vs : List Value} {ax I : Addr} {R : Result → Shared → Prop} (n₀ : Nat) (J : Nat → (PySem.Str → Option Value) → Prop)
    (W : Walks prog w A I [I, ax] [I] vs.toArray.size (fun i v => vs.toArray[i]? = some v) (fun i h => h.IsListIter I ax i ∧ h.IsList ax vs.toArray)) (hx : env.kindOf x = some .local)
    (hp : (env.scope.kind == .class || (env.scope.kind == .module && env.locals != env.globals)) = false)
    (hI : I ≠ env.locals) (hI₀ : h₀.get? I = none) (hst : s.heap.IsListIter I ax 0) (hax : h₀.IsList ax vs.toArray) (F : Fr h₀ env.locals s.heap m) (N : News h₀ env.locals s.heap news) (off : ∀ q ∈ news, q.1 ≠ I) (hn₀ : n₀ ≤ s.toks) (hJ : J 0 m)
    (turn : ∀ i v m₁ h tk it (E' : Value → Shared → Prop), vs[i]? = some v → n₀ ≤ tk → J i m₁ → Fr h₀ env.locals h (fun y => if y = x then some v else m₁ y) → News h₀ env.locals h ((I, it) :: news) →
      wpAny (model prog w) A (execs body env) (TurnJ h₀ env.locals ((I, it) :: news) { s with heap := h, toks := tk } (J (i + 1))) E' { s with heap := h, toks := tk })
    (done : ∀ h tk m₁, n₀ ≤ tk → J vs.length m₁ → Fr h₀ env.locals h m₁ → News h₀ env.locals h news → R (.ok .next) { s with heap := h, toks := tk }) :
    codeAny (model prog w) A (.forLoop (.Name x px) (.ref I) body [] env) R s := by
  have hn : vs.toArray.size = vs.length := List.size_toArray
  have old : ∀ b o, h₀.get? b = some o → b ∉ [I] := fun b o e hb => by rw [List.mem_singleton.mp hb, hI₀] at e; cases e
  refine codeAny_forLoop
    (fun k s' => ∃ h' tk m' i, s' = { s with heap := h', toks := tk } ∧ n₀ ≤ tk ∧ h'.IsListIter I ax i ∧ Fr h₀ env.locals h' m' ∧ News h₀ env.locals h' news ∧ J i m' ∧ i ≤ vs.length ∧ k = vs.length + 1 - i) ?_ (vs.length + 1)
    ⟨s.heap, s.toks, m, 0, rfl, hn₀, hst, F, N, hJ, Nat.zero_le _, rfl⟩
  rintro k s' ⟨h', tk, m', i, rfl, htk, hst', F', N', hJ', hi, rfl⟩
  have hl : h'.IsList ax vs.toArray := by obtain ⟨o, e, r⟩ := hax; exact ⟨o, F'.keep _ _ e, r⟩
  have next : ∀ h₁ : Heap, (∀ b o, b ∉ [I] → h'.get? b = some o → h₁.get? b = some o) → Fr h₀ env.locals h₁ m' ∧ News h₀ env.locals h₁ news := fun h₁ hk₁ =>
    ⟨⟨F'.ns.at' fun o e => hk₁ _ o (by simpa using Ne.symm hI) e, fun b o e => hk₁ b o (old b o e) (F'.keep b o e), F'.above⟩, fun q hq => ⟨hk₁ _ _ (by simpa using off q hq) (N' q hq).1, (N' q hq).2⟩⟩
  by_cases hlt : i < vs.length
  · refine wpAny_with_toks htk (W.item i _ _ _ (by rw [hn]; exact hlt) ⟨hst', hl⟩ fun v h₁ tk₁ hP hst₁ hk₁ htk₁ => ?_)
    obtain ⟨F₁, N₁⟩ := next h₁ hk₁
    have hc' : vs[i]? = some v := by simpa using hP
    refine wpAny_assign_Name (wpAny_storeName_local hx F₁.ns (fun h₂ hn₂ hs₂ => ?_) hp)
    have F₂ := F₁.set hn₂ hs₂
    have N₂ := N₁.set hs₂
    obtain ⟨it, hit, hir⟩ := hst₁.1
    have hit₂ : h₂.get? I = some it := (hs₂.2 I hI).trans hit
    have N₃ : News h₀ env.locals h₂ ((I, it) :: news) := fun q hq => by
      rcases List.mem_cons.mp hq with rfl | hq
      · exact ⟨hit₂, hI, hI₀⟩
      · exact N₂ q hq
    refine wpAny_mono (wpAny_toks_of (n := n₀) (Nat.le_succ_of_le htk₁) (turn i v _ h₂ _ it _ hc' (Nat.le_succ_of_le htk₁) hJ' F₂ N₃)) (fun f s₃ h₃ => ?_) fun _ _ e => e.2
    obtain ⟨ht₃, rfl, h₄, tk₄, m₄, rfl, F₄, N₄, hJ₄⟩ := h₃
    exact ⟨vs.length + 1 - (i + 1), by omega, h₄, tk₄, m₄, i + 1, rfl, ht₃, ⟨it, (N₄ _ List.mem_cons_self).1, hir⟩, F₄, newsTl N₄, hJ₄, hlt, rfl⟩
  · have hin : i = vs.length := by omega
    subst hin
    refine wpAny_with_toks htk (W.done _ _ _ (by rw [hn]; exact ⟨hst', hl⟩) fun h₁ tk₁ hk₁ htk₁ => ?_)
    obtain ⟨F₁, N₁⟩ := next h₁ hk₁
    exact wpAny_execs_nil (done h₁ tk₁ m' htk₁ hJ' F₁ N₁)

theorem for_list {x : PySem.Str} {px pos : Pos} {iter : Expr} {body : List Stmt} {Q : Flow → Shared → Prop} (_F₀ : Fr h₀ env.locals s.heap m) (n₀ : Nat) (J : Nat → (PySem.Str → Option Value) → Prop) (hh : A.handled = none) (hx : env.kindOf x = some .local)
    (hp : (env.scope.kind == .class || (env.scope.kind == .module && env.locals != env.globals)) = false)
    (h : wpAny (model prog w) A (eval iter env) (fun xv s₁ => ∃ (ax : Addr) (vs : List Value) (m : PySem.Str → Option Value) (news : List (Addr × Obj)), xv = .ref ax ∧ h₀.IsList ax vs.toArray ∧ n₀ ≤ s₁.toks ∧ Fr h₀ env.locals s₁.heap m ∧ News h₀ env.locals s₁.heap news ∧ J 0 m ∧
      (∀ i v m₁ h tk I it (E' : Value → Shared → Prop), vs[i]? = some v → n₀ ≤ tk → J i m₁ → Fr h₀ env.locals h (fun y => if y = x then some v else m₁ y) → News h₀ env.locals h ((I, it) :: news) →
        wpAny (model prog w) A (execs body env) (TurnJ h₀ env.locals ((I, it) :: news) { s₁ with heap := h, toks := tk } (J (i + 1))) E' { s₁ with heap := h, toks := tk }) ∧
      (∀ h tk m₁, n₀ ≤ tk → J vs.length m₁ → Fr h₀ env.locals h m₁ → News h₀ env.locals h news → Q .next { s₁ with heap := h, toks := tk })) E s)
    (hs : ∀ x, foldedSetIterable iter env x = pure x) :
    wpAny (model prog w) A (exec (.For (.Name x px) iter body [] pos) env) Q E s := by
  refine wpAny_For (wpAny_mono h (fun xv s₁ h₁ => ?_) fun _ _ e => e) hs
  obtain ⟨ax, vs, m, news, rfl, hax, hn₀, F, N, hJ, turn, done⟩ := h₁
  have hl : s₁.heap.IsList ax vs.toArray := by obtain ⟨o, e, r⟩ := hax; exact ⟨o, F.keep _ _ e, r⟩
  have hlt : ax < s₁.heap.objs.size := by obtain ⟨_, e, _⟩ := hl; exact Heap.lt_size e
  have up : ∀ (o : Obj) b o', s₁.heap.get? b = some o' → (s₁.heap.push o).get? b = some o' := fun o b o' e => Heap.get?_push_of_some _ e
  refine wpAny_pyIter_list hl ?_
  exact loop_list n₀ J (Walks.list hh _ ax (Nat.ne_of_lt hlt) vs.toArray) hx hp (Ne.symm (Nat.ne_of_lt F.ns.lt)) (next_is_new F) ⟨_, Heap.get?_push_size _ rfl, rfl, rfl⟩ hax (F.keeps (up _)) (N.grown (up _)) (fun q hq => Nat.ne_of_lt (Heap.lt_size (N q hq).1)) hn₀ hJ
    (fun i v m₁ h tk it E' a b c e f => turn i v m₁ h tk _ it E' a b c e f) done

theorem loop_textJ {x : PySem.Str} {px : Pos} {body : List Stmt} {a : List Nat} {t : Tok} {I : Addr} {ty : String} {R : Result → Shared → Prop} (J : Nat → (PySem.Str → Option Value) → Prop)
    (W : Walks prog w A I [I] [I] (S a).cps.size (SignAt (S a)) (fun i h => h.IsStrIter I ty (S a) t i)) (hx : env.kindOf x = some .local)
    (hp : (env.scope.kind == .class || (env.scope.kind == .module && env.locals != env.globals)) = false)
    (hI : I ≠ env.locals) (hI₀ : h₀.get? I = none) (hst : s.heap.IsStrIter I ty (S a) t 0) (F : Fr h₀ env.locals s.heap m) (N : News h₀ env.locals s.heap news) (off : ∀ q ∈ news, q.1 ≠ I) (hJ : J 0 m)
    (turn : ∀ i c u m₁ h tk it (E' : Value → Shared → Prop), a[i]? = some c → J i m₁ → Fr h₀ env.locals h (fun y => if y = x then some (.str (S [c]) u) else m₁ y) → News h₀ env.locals h ((I, it) :: news) →
      wpAny (model prog w) A (execs body env) (TurnJ h₀ env.locals ((I, it) :: news) { s with heap := h, toks := tk } (J (i + 1))) E' { s with heap := h, toks := tk })
    (done : ∀ h tk m₁, J a.length m₁ → Fr h₀ env.locals h m₁ → News h₀ env.locals h news → R (.ok .next) { s with heap := h, toks := tk }) :
    codeAny (model prog w) A (.forLoop (.Name x px) (.ref I) body [] env) R s := by
  have hn : (S a).cps.size = a.length := by show a.toArray.size = _; rw [List.size_toArray]
  have old : ∀ b o, h₀.get? b = some o → b ∉ [I] := fun b o e hb => by rw [List.mem_singleton.mp hb, hI₀] at e; cases e
  refine codeAny_forLoop
    (fun k s' => ∃ h' tk m' i, s' = { s with heap := h', toks := tk } ∧ h'.IsStrIter I ty (S a) t i ∧ Fr h₀ env.locals h' m' ∧ News h₀ env.locals h' news ∧ J i m' ∧ i ≤ a.length ∧ k = a.length + 1 - i) ?_ (a.length + 1)
    ⟨s.heap, s.toks, m, 0, rfl, hst, F, N, hJ, Nat.zero_le _, rfl⟩
  rintro k s' ⟨h', tk, m', i, rfl, hst', F', N', hJ', hi, rfl⟩
  have next : ∀ h₁ : Heap, (∀ b o, b ∉ [I] → h'.get? b = some o → h₁.get? b = some o) → Fr h₀ env.locals h₁ m' ∧ News h₀ env.locals h₁ news := fun h₁ hk₁ =>
    ⟨⟨F'.ns.at' fun o e => hk₁ _ o (by simpa using Ne.symm hI) e, fun b o e => hk₁ b o (old b o e) (F'.keep b o e), F'.above⟩, fun q hq => ⟨hk₁ _ _ (by simpa using off q hq) (N' q hq).1, (N' q hq).2⟩⟩
  by_cases hlt : i < a.length
  · refine W.item i _ _ _ (by rw [hn]; exact hlt) hst' fun v h₁ tk₁ hP hst₁ hk₁ => ?_
    obtain ⟨F₁, N₁⟩ := next h₁ hk₁
    obtain ⟨c, u, hc, rfl⟩ := hP
    have hc' : a[i]? = some c := by
      have e : (S a).cps[i]? = a[i]? := by
        show a.toArray[i]? = a[i]?
        simp
      rw [← e]; exact hc
    refine wpAny_assign_Name (wpAny_storeName_local hx F₁.ns (fun h₂ hn₂ hs₂ => ?_) hp)
    have F₂ := F₁.set hn₂ hs₂
    have N₂ := N₁.set hs₂
    obtain ⟨it, hit, hic, hid⟩ := hst₁
    have hit₂ : h₂.get? I = some it := (hs₂.2 I hI).trans hit
    have N₃ : News h₀ env.locals h₂ ((I, it) :: news) := fun q hq => by
      rcases List.mem_cons.mp hq with rfl | hq
      · exact ⟨hit₂, hI, hI₀⟩
      · exact N₂ q hq
    refine wpAny_mono (turn i c u _ h₂ _ it _ hc' hJ' F₂ N₃) (fun f s₃ h₃ => ?_) fun _ _ e => e
    obtain ⟨rfl, h₄, tk₄, m₄, rfl, F₄, N₄, hJ₄⟩ := h₃
    exact ⟨a.length + 1 - (i + 1), by omega, h₄, tk₄, m₄, i + 1, rfl, ⟨it, (N₄ _ List.mem_cons_self).1, hic, hid⟩, F₄, newsTl N₄, hJ₄, hlt, rfl⟩
  · have hin : i = a.length := by omega
    subst hin
    refine W.done _ _ _ (by rw [hn]; exact hst') fun h₁ tk₁ hk₁ => ?_
    obtain ⟨F₁, N₁⟩ := next h₁ hk₁
    exact wpAny_execs_nil (done h₁ tk₁ m' hJ' F₁ N₁)

theorem for_textJ {x : PySem.Str} {px pos : Pos} {iter : Expr} {body : List Stmt} {Q : Flow → Shared → Prop} (_F₀ : Fr h₀ env.locals s.heap m) (J : Nat → (PySem.Str → Option Value) → Prop) (hh : A.handled = none) (hx : env.kindOf x = some .local)
    (hp : (env.scope.kind == .class || (env.scope.kind == .module && env.locals != env.globals)) = false)
    (h : wpAny (model prog w) A (eval iter env) (fun xv s₁ => ∃ (a : List Nat) (t : Tok) (m : PySem.Str → Option Value) (news : List (Addr × Obj)), xv = .str (S a) t ∧ Fr h₀ env.locals s₁.heap m ∧ News h₀ env.locals s₁.heap news ∧ J 0 m ∧
      (∀ i c u m₁ h tk I it (E' : Value → Shared → Prop), a[i]? = some c → J i m₁ → Fr h₀ env.locals h (fun y => if y = x then some (.str (S [c]) u) else m₁ y) → News h₀ env.locals h ((I, it) :: news) →
        wpAny (model prog w) A (execs body env) (TurnJ h₀ env.locals ((I, it) :: news) { s₁ with heap := h, toks := tk } (J (i + 1))) E' { s₁ with heap := h, toks := tk }) ∧
      (∀ h tk m₁, J a.length m₁ → Fr h₀ env.locals h m₁ → News h₀ env.locals h news → Q .next { s₁ with heap := h, toks := tk })) E s)
    (hs : ∀ x, foldedSetIterable iter env x = pure x) :
    wpAny (model prog w) A (exec (.For (.Name x px) iter body [] pos) env) Q E s := by
  refine wpAny_For (wpAny_mono h (fun xv s₁ h₁ => ?_) fun _ _ e => e) hs
  obtain ⟨a, t, m, news, rfl, F, N, hJ, turn, done⟩ := h₁
  have up : ∀ (o : Obj) b o', s₁.heap.get? b = some o' → (s₁.heap.push o).get? b = some o' := fun o b o' e => Heap.get?_push_of_some _ e
  cases ha : (S a).cps.all (· < 128)
  · refine wpAny_pyIter_wide ha ?_
    exact loop_textJ J (Walks.strWide hh _ (S a) t) hx hp (Ne.symm (Nat.ne_of_lt F.ns.lt)) (next_is_new F) ⟨_, Heap.get?_push_size _ rfl, rfl, rfl⟩ (F.keeps (up _)) (N.grown (up _)) (fun q hq => Nat.ne_of_lt (Heap.lt_size (N q hq).1)) hJ
      (fun i c u m₁ h tk it E' a b e f => turn i c u m₁ h tk _ it E' a b e f) done
  · refine wpAny_pyIter_ascii ha ?_
    exact loop_textJ J (Walks.strAscii hh _ (S a) t) hx hp (Ne.symm (Nat.ne_of_lt F.ns.lt)) (next_is_new F) ⟨_, Heap.get?_push_size _ rfl, rfl, rfl⟩ (F.keeps (up _)) (N.grown (up _)) (fun q hq => Nat.ne_of_lt (Heap.lt_size (N q hq).1)) hJ
      (fun i c u m₁ h tk it E' a b e f => turn i c u m₁ h tk _ it E' a b e f) done
end

theorem assign4 {M : Model} {A : Around} {E : Value → Shared → Prop} {s : Shared} {env : Env} {t₁ t₂ t₃ t₄ value : Expr} {pos : Pos} {Q : Flow → Shared → Prop}
    (h : wpAny M A (eval value env) (fun v s₁ => wpAny M A (assign t₁ env v) (fun _ s₂ => wpAny M A (assign t₂ env v) (fun _ s₃ => wpAny M A (assign t₃ env v) (fun _ s₄ => wpAny M A (assign t₄ env v) (fun _ => Q .next) E s₄) E s₃) E s₂) E s₁) E s)
    (he : (assignEach [t₁, t₂, t₃, t₄] env).map (·.2) = [assign t₁ env, assign t₂ env, assign t₃ env, assign t₄ env] := by rfl)
    (hw : swappedStores [t₁, t₂, t₃, t₄] value env = pure none := by rfl) :
    wpAny M A (exec (.Assign [t₁, t₂, t₃, t₄] value pos) env) Q E s := by
  refine wpAny_Assign_stores (wpAny_mono h (fun v s₁ h₁ => ?_) fun _ _ x => x) rfl hw
  rw [he]
  exact wpAny_bind (wpAny_holding (wpAny_mono h₁ (fun _ s₂ h₂ => wpAny_bind (wpAny_holding (wpAny_mono h₂ (fun _ s₃ h₃ => wpAny_bind (wpAny_holding h₃)) fun _ _ x => x))) fun _ _ x => x))
end Mine
end

/-! M5 -/
section
open PySem PySem.W PySem.Calls PyProof.Rows PySem.Builtin PySem.Builtin.Str
set_option linter.unusedSimpArgs false
set_option linter.unusedVariables false
namespace Mine

def rooted (sc pa : List Nat) : List Nat := if sc ∈ hosts ∧ pa ≠ [] ∧ pa.take 1 ≠ [47] then 47 :: pa else pa
def lput (sc au pa q f : List Nat) : List Nat :=
  (if sc ≠ [] then sc ++ [58] else []) ++ (if au ≠ [] ∨ sc ∈ hosts ∨ (rooted sc pa).take 2 = [47, 47] then [47, 47] else []) ++ au ++ rooted sc pa ++ (if q ≠ [] then [63] ++ q else []) ++ (if f ≠ [] then [35] ++ f else [])

def usp1 (sc ne u : List Nat) : List Nat :=
  if ne ≠ [] ∨ (sc ≠ [] ∧ sc ∈ uses) ∨ u.take 2 = [47, 47] then
    (if u ≠ [] ∧ u.take 1 ≠ [47] then (if sc ≠ [] then sc ++ [58, 47, 47] ++ ne ++ [47] ++ u else sc ++ [58] ++ u)
      else (if sc ≠ [] then sc ++ [58, 47, 47] ++ ne ++ u else [47, 47] ++ ne ++ u))
  else if sc ≠ [] then sc ++ [58] ++ u else u
def usp (sc ne u q f : List Nat) : List Nat :=
  if f ≠ [] then (if q ≠ [] then usp1 sc ne u ++ [63] ++ q else usp1 sc ne u) ++ [35] ++ f else (if q ≠ [] then usp1 sc ne u ++ [63] ++ q else usp1 sc ne u)
theorem usp1_le (sc ne u : List Nat) : (usp1 sc ne u).length ≤ sc.length + ne.length + u.length + 5 := by
  unfold usp1
  repeat' split
  all_goals (try simp only [List.length_append, List.length_cons, List.length_nil])
  all_goals omega

def ov : Option (List Nat) → Tok → Value
  | none, _ => .none
  | some l, t => .str (S l) t
def pv : Option Int → Tok → Value
  | none, _ => .none
  | some p, t => .int p t
/-- what make_netloc puts together -/
def mkn (us pw ho : Option (List Nat)) (po : Option Int) : List Nat :=
  match ho with
  | none => []
  | some h =>
    let ret := match po with | none => h | some p => h ++ [58] ++ dig p
    match pw with
    | some x => (us.getD []) ++ [58] ++ x ++ [64] ++ ret
    | none => match us with
      | none => ret
      | some u => u ++ [64] ++ ret

def scs : List Nat := [97, 98, 99, 100, 101, 102, 103, 104, 105, 106, 107, 108, 109, 110, 111, 112, 113, 114, 115, 116, 117, 118, 119, 120, 121, 122, 65, 66, 67, 68, 69, 70, 71, 72, 73, 74, 75, 76, 77, 78, 79, 80, 81, 82, 83, 84, 85, 86, 87, 88, 89, 90, 48, 49, 50, 51, 52, 53, 54, 55, 56, 57, 43, 45, 46]
def clean (u : List Nat) : List Nat := (u.dropWhile fun c => decide (c < 33)).filter fun c => decide (c ∉ [9, 13, 10])
def pF (u : List Nat) : List Nat := aft 35 (clean u)
def pT (u : List Nat) : List Nat := bef 63 (bef 35 (clean u))
def pQ (u : List Nat) : List Nat := aft 63 (bef 35 (clean u))
abbrev Named (t : List Nat) : Prop := 58 ∈ t ∧ bef 58 t ≠ [] ∧ ∀ c ∈ bef 58 t, c ∈ scs
def pS (t : List Nat) : List Nat := if Named t then (bef 58 t).map low else []
def pR (t : List Nat) : List Nat := if Named t then aft 58 t else t
def pA (r : List Nat) : List Nat := if r.take 2 = [47, 47] then bef 47 (r.drop 2) else []
def pP (r : List Nat) : List Nat := if r.take 2 = [47, 47] then (r.drop 2).dropWhile (· != 47) else r

def nA (r : List Nat) : List Nat := if r.take 2 = [47, 47] then (r.drop 2).takeWhile (fun c => decide (c ∉ [47, 63, 35])) else []
def nU (r : List Nat) : List Nat := if r.take 2 = [47, 47] then (r.drop 2).dropWhile (fun c => decide (c ∉ [47, 63, 35])) else r

theorem fold_le : ∀ (cs v : List Nat) {n : Nat}, v.length ≤ n → (cs.foldl (fun l c => l.filter (· != c)) v).length ≤ n
  | [], _, _, h => h
  | c :: cs, v, n, h => fold_le cs (v.filter (· != c)) (le_filter h)
end Mine
end

/-! LS0 -/
section
open PySem PySem.W PySem.Calls PyProof.Rows
namespace Mine
noncomputable abbrev LS : List PySem.Str := looseW hd.view_39
      [PySem.Str.ofString "_Quoter", PySem.Str.ofString "QUOTER", PySem.Str.ofString "UNSAFE_URL_BYTES_TO_REMOVE",
        PySem.Str.ofString "make_netloc", PySem.Str.ofString "_law_pieces"]
end Mine
end

/-! M6 -/
section
open PySem PySem.W PySem.Calls PyProof.Rows PySem.Builtin PySem.Builtin.Str
set_option linter.unusedSimpArgs false
set_option linter.unusedVariables false
namespace Mine
theorem idx_in {c : Nat} {l : List Nat} (h : c ∈ l) : idx c l = ((bef c l).length : Int) := if_pos h
theorem bef_drop (c : Nat) (l : List Nat) : l.drop ((bef c l).length + 1) = aft c l := by
  unfold aft
  rw [dropWhile_eq_drop, List.drop_drop]
  rfl
theorem bef_hd {c : Nat} {l : List Nat} (h : bef c l ≠ []) : l ≠ [] ∧ bef c l = l.headD 0 :: (bef c l).drop 1 := by
  cases l with
  | nil => exact absurd rfl h
  | cons x r =>
    refine ⟨List.cons_ne_nil _ _, ?_⟩
    unfold bef at h ⊢
    rw [List.takeWhile_cons] at h ⊢
    split at h
    · next hx => rw [if_pos hx]; rfl
    · exact absurd rfl h
theorem bef_len_pos {c : Nat} {l : List Nat} (h : bef c l ≠ []) : 1 ≤ (bef c l).length := by
  cases hb : bef c l with
  | nil => exact absurd hb h
  | cons x r => simp
theorem idx_pos {c : Nat} {l : List Nat} (h : 0 < idx c l) : c ∈ l ∧ bef c l ≠ [] := by
  unfold idx at h
  split at h
  · next hc =>
    refine ⟨hc, fun e => ?_⟩
    rw [e] at h
    exact absurd h (by decide)
  · exact absurd h (by decide)
theorem tw_and (p q : Nat → Bool) : ∀ l : List Nat, (l.takeWhile fun x => p x && q x).length = min (l.takeWhile p).length (l.takeWhile q).length
  | [] => rfl
  | x :: r => by
    simp only [List.takeWhile_cons]
    cases hp : p x <;> cases hq : q x <;> simp [tw_and p q r] <;> omega
theorem tw_congr {p q : Nat → Bool} : ∀ {l : List Nat}, (∀ x ∈ l, p x = q x) → l.takeWhile p = l.takeWhile q
  | [], _ => rfl
  | x :: r, h => by
    simp only [List.takeWhile_cons]
    rw [h x List.mem_cons_self, tw_congr fun y hy => h y (List.mem_cons_of_mem _ hy)]
def dl (cs r : List Nat) : Nat := 2 + ((r.drop 2).takeWhile fun x => decide (x ∉ cs)).length
theorem two_le {r : List Nat} (h : r.take 2 = [47, 47]) : 2 ≤ r.length := by
  have := congrArg List.length h
  rw [List.length_take] at this
  simp at this
  omega
theorem dl_nil {r : List Nat} (h : r.take 2 = [47, 47]) : dl [] r = r.length := by
  have := two_le h
  unfold dl
  rw [tw_congr (q := fun _ => true) (fun x _ => by simp)]
  have e : ∀ l : List Nat, l.takeWhile (fun _ => true) = l := fun l => by induction l with | nil => rfl | cons x r ih => rw [List.takeWhile_cons_of_pos rfl, ih]
  rw [e, List.length_drop]
  omega
theorem dl_le {cs r : List Nat} (h : r.take 2 = [47, 47]) : dl cs r ≤ r.length := by
  have h2 := two_le h
  have := (List.takeWhile_sublist (fun x => decide (x ∉ cs)) (l := r.drop 2)).length_le
  rw [List.length_drop] at this
  unfold dl
  omega
theorem dl_snoc (cs r : List Nat) (c : Nat) : dl (cs ++ [c]) r = min (dl cs r) (2 + (bef c (r.drop 2)).length) := by
  unfold dl
  rw [tw_congr (q := fun x => decide (x ∉ cs) && (x != c)) (fun x _ => by by_cases h1 : x ∈ cs <;> by_cases h2 : x = c <;> simp [h1, h2]), tw_and]
  unfold bef
  omega
theorem dl_lt {cs r : List Nat} {c : Nat} (h0 : 0 ≤ idx2 c r) (h1 : idx2 c r < (dl cs r : Int)) : idx2 c r = (dl (cs ++ [c]) r : Int) := by
  rw [dl_snoc]
  unfold idx2 at *
  split at h0
  · next hc => rw [if_pos hc] at h1 ⊢; omega
  · omega
theorem dl_ge {cs r : List Nat} {c : Nat} (h2 : r.take 2 = [47, 47]) (h : ¬ (0 ≤ idx2 c r ∧ idx2 c r < (dl cs r : Int))) : dl (cs ++ [c]) r = dl cs r := by
  rw [dl_snoc]
  unfold idx2 at h
  split at h
  · omega
  · next hc =>
    rw [bef_of_not hc]
    have := dl_le (cs := cs) h2
    have := two_le h2
    rw [List.length_drop]
    omega
theorem nA_dl {cs r : List Nat} (h2 : r.take 2 = [47, 47]) (h : ∀ x ∈ r, x ∈ cs ↔ x ∈ [47, 63, 35]) : (r.take (dl cs r)).drop 2 = nA r ∧ r.drop (dl cs r) = nU r := by
  unfold nA nU
  rw [if_pos h2, if_pos h2]
  have e : (r.drop 2).takeWhile (fun c => decide (c ∉ [47, 63, 35])) = (r.drop 2).takeWhile (fun c => decide (c ∉ cs)) := tw_congr fun x hx => by rw [decide_eq_decide, h x (List.mem_of_mem_drop hx)]
  constructor
  · rw [e, takeWhile_eq_take, List.drop_take]
    unfold dl
    congr 1
    omega
  · rw [dropWhile_eq_drop, e]
    unfold dl
    rw [List.drop_drop]
section
variable {prog : Program} {w : World} {A : Around} {E : Value → Shared → Prop} {s : Shared}
theorem r_in1S {x : PySem.Str} {a b : List Nat} {t u : Tok} {Q : Value → Shared → Prop} (e : x = S b) (hne : a ≠ []) (h : Q (.bool (decide (a.headD 0 ∈ b))) s) : wpAny (model prog w) A (compareOp .In (.str (S (a.take 1)) t) (.str x u)) Q E s := by
  subst e; exact r_in1 hne h
theorem r_notinS {x : PySem.Str} {b : List Nat} {c : Nat} {t u : Tok} {Q : Value → Shared → Prop} (e : x = S b) (h : Q (.bool (decide (c ∉ b))) s) : wpAny (model prog w) A (compareOp .NotIn (.str (S [c]) t) (.str x u)) Q E s := by
  subst e; exact r_notin h
end
end Mine
end

/-! M7 -/
section
open PySem PySem.W PySem.Calls PyProof.Rows PySem.Builtin PySem.Builtin.Str
set_option linter.unusedSimpArgs false
set_option linter.unusedVariables false
namespace Mine
def nz (l : List Nat) : Option (List Nat) := if l ≠ [] then some l else none
def aU (t : List Nat) : Option (List Nat) := nz (bef 58 (rbef 64 t))
def aW (t : List Nat) : Option (List Nat) := if 58 ∈ rbef 64 t then some (aft 58 (rbef 64 t)) else none
def aH (t : List Nat) : Option (List Nat) := nz (bef 58 (raft 64 t))
def aF (t : List Nat) : List Nat := aft 58 (raft 64 t)
def figs : List Nat := [48, 49, 50, 51, 52, 53, 54, 55, 56, 57, 32]
def tup4 (us pw ho : Option (List Nat)) (po : Option Int) (ta tb tc td : Tok) : Obj := { cls := .type "tuple", data := .seq [ov us ta, ov pw tb, ov ho tc, pv po td].toArray }
section
variable {M : Model} {A : Around} {E : Value → Shared → Prop} {s : Shared} {h₀ : Heap} {L : Addr} {m : PySem.Str → Option Value} {news : List (Addr × Obj)}
def JO (h₀ : Heap) (L : Addr) (s : Shared) (m : PySem.Str → Option Value) (news : List (Addr × Obj)) (o : Option (List Nat)) (v : Value) (s' : Shared) : Prop :=
  ∃ t h' tk, v = ov o t ∧ s' = { s with heap := h', toks := tk } ∧ Fr h₀ L h' m ∧ News h₀ L h' news
theorem cutO {t : Sem Value} {Q : Value → Shared → Prop} (o : Option (List Nat)) (F : Fr h₀ L s.heap m) (N : News h₀ L s.heap news) (h : wpAny M A t (JO h₀ L s m news o) E s)
    (k : ∀ t h' tk, Fr h₀ L h' m → News h₀ L h' news → Q (ov o t) { s with heap := h', toks := tk }) : wpAny M A t Q E s :=
  wpAny_mono h (fun v s' x => by obtain ⟨t, h', tk, rfl, rfl, F', N'⟩ := x; exact k t h' tk F' N') fun _ _ e => e
theorem joI {h' : Heap} {tk : Nat} {v : Value} {o : Option (List Nat)} {t : Tok} (F : Fr h₀ L h' m) (N : News h₀ L h' news) (p : v = ov o t) : JO h₀ L s m news o v { s with heap := h', toks := tk } := ⟨t, h', tk, p, rfl, F, N⟩
theorem nz_pos {l : List Nat} {t : Tok} (h : l ≠ []) : Value.str (S l) t = ov (nz l) t := by unfold nz; rw [if_pos h]; rfl
theorem nz_neg {l : List Nat} (h : ¬ l ≠ []) : Value.none = ov (nz l) 0 := by unfold nz; rw [if_neg h]; rfl
theorem if58_pos {c : Prop} [Decidable c] {l : List Nat} {t : Tok} (h : (if c then [58] else []) = [58]) : Value.str (S l) t = ov (if c then some l else none) t := by
  by_cases hc : c
  · rw [if_pos hc]; rfl
  · rw [if_neg hc] at h; cases h
theorem if58_neg {c : Prop} [Decidable c] {l : List Nat} (h : ¬ (if c then [58] else []) = [58]) : Value.none = ov (if c then some l else none) 0 := by
  by_cases hc : c
  · rw [if_pos hc] at h; exact absurd rfl h
  · rw [if_neg hc]; rfl
theorem lit20 : PySem.Str.ofString " " = S [32] := by decide +kernel
theorem ret4 {us pw ho : Option (List Nat)} {po : Option Int} {more : List (Addr × Obj)} {Q : Value → Shared → Prop} {ta tb tc td : Tok} {d : Value} {a : Addr} {h' : Heap} {tk' : Nat}
    (hret : ∀ ta tb tc td (a : Addr) (h' : Heap) (tk' : Nat), Fr h₀ L h' m → News h₀ L h' ((a, tup4 us pw ho po ta tb tc td) :: news) → (∀ p ∈ news, p.1 < a) → Q (.ref a) { s with heap := h', toks := tk' })
    (hd : d = pv po td) (F : Fr h₀ L h' m) (N : News h₀ L h' ((a, { cls := .type "tuple", data := .seq [ov us ta, ov pw tb, ov ho tc, d].toArray }) :: more)) (hs : ∀ p ∈ news, p ∈ more) (lt : ∀ p ∈ news, p.1 < a) :
    Q (.ref a) { s with heap := h', toks := tk' } := by
  subst hd
  exact hret ta tb tc td a h' tk' F (fun p hp => N p (by
      rcases List.mem_cons.mp hp with rfl | hp
      · exact List.mem_cons_self
      · exact List.mem_cons_of_mem _ (hs p hp))) lt
theorem ret4N {us pw ho : Option (List Nat)} {more : List (Addr × Obj)} {Q : Value → Shared → Prop} {ta tb tc : Tok} {a : Addr} {h' : Heap} {tk' : Nat}
    (hret : ∀ ta tb tc td (a : Addr) (h' : Heap) (tk' : Nat), Fr h₀ L h' m → News h₀ L h' ((a, tup4 us pw ho none ta tb tc td) :: news) → (∀ p ∈ news, p.1 < a) → Q (.ref a) { s with heap := h', toks := tk' })
    (F : Fr h₀ L h' m) (N : News h₀ L h' ((a, { cls := .type "tuple", data := .seq [ov us ta, ov pw tb, ov ho tc, .none].toArray }) :: more)) (hs : ∀ p ∈ news, p ∈ more) (lt : ∀ p ∈ news, p.1 < a) :
    Q (.ref a) { s with heap := h', toks := tk' } := ret4 (td := 0) hret rfl F N hs lt
theorem ret4I {us pw ho : Option (List Nat)} {po : Int} {more : List (Addr × Obj)} {Q : Value → Shared → Prop} {ta tb tc td : Tok} {a : Addr} {h' : Heap} {tk' : Nat}
    (hret : ∀ ta tb tc td (a : Addr) (h' : Heap) (tk' : Nat), Fr h₀ L h' m → News h₀ L h' ((a, tup4 us pw ho (some po) ta tb tc td) :: news) → (∀ p ∈ news, p.1 < a) → Q (.ref a) { s with heap := h', toks := tk' })
    (F : Fr h₀ L h' m) (N : News h₀ L h' ((a, { cls := .type "tuple", data := .seq [ov us ta, ov pw tb, ov ho tc, .int po td].toArray }) :: more)) (hs : ∀ p ∈ news, p ∈ more) (lt : ∀ p ∈ news, p.1 < a) :
    Q (.ref a) { s with heap := h', toks := tk' } := ret4 (td := td) hret rfl F N hs lt
theorem figs_dig {fi : List Nat} (hb : ∀ c ∈ fi, c ∈ figs) (h32 : 32 ∉ fi) : ∀ c ∈ fi, 48 ≤ c ∧ c ≤ 57 := by
  intro c hc
  have h := hb c hc
  have h2 : c ≠ 32 := fun e => h32 (e ▸ hc)
  simp only [figs, List.mem_cons, List.not_mem_nil, or_false] at h
  omega
end
end Mine
end

/-! X0 -/
section
open PySem PySem.W PySem.Calls PyProof.Rows PySem.Builtin
open Sem (wp)
set_option linter.unusedSimpArgs false
set_option linter.unusedVariables false
namespace Mine

/-- the claim's caller stands below, or here -/
def HasB (Γ : Ctx) : Prop := ∃ x ∈ Γ.below, x.1.isCaller = true
def HasC (Γ : Ctx) : Prop := Γ.code.isCaller = true ∨ HasB Γ
theorem HasC.enter {Γ : Ctx} (h : HasC Γ) (c : Code) (hd : Option Value) (p : Pos) : HasB (Γ.enter c hd p) := by
  rcases h with h | ⟨x, hx, e⟩
  · exact ⟨(Γ.code, p), List.mem_cons_self, h⟩
  · exact ⟨x, List.mem_cons_of_mem _ hx, e⟩
def wpC {α : Type} (M : Model) (A : Around) (t : Sem α) (Q : α → Shared → Prop) (E : Value → Shared → Prop) (s : Shared) : Prop :=
  ∀ Γ p, Γ.In A → HasC Γ → wp M Γ t (fun a _ s' => Q a s') (fun e _ s' => E e s') p s
def codeC (M : Model) (A : Around) (c : Code) (R : Result → Shared → Prop) (s : Shared) : Prop :=
  ∀ Γ p, Γ.code = c → Γ.Below A → HasB Γ → wpCode M Γ R p s

section
variable {α β : Type} {M : Model} {A : Around} {E : Value → Shared → Prop} {s : Shared}
theorem wpC_of {t : Sem α} {Q : α → Shared → Prop} (h : wpAny M A t Q E s) : wpC M A t Q E s := fun Γ p hΓ _ => h Γ p hΓ
theorem wpC_mono {t : Sem α} {Q Q' : α → Shared → Prop} {E' : Value → Shared → Prop} (h : wpC M A t Q E s) (hQ : ∀ a s, Q a s → Q' a s) (hE : ∀ e s, E e s → E' e s) : wpC M A t Q' E' s :=
  fun Γ p hΓ hc => Sem.wp_mono M Γ t (fun a _ s' => hQ a s') (fun e _ s' => hE e s') p s (h Γ p hΓ hc)
theorem wpC_bind {m : Sem α} {f : α → Sem β} {Q : β → Shared → Prop} (h : wpC M A m (fun a s' => wpC M A (f a) Q E s') E s) : wpC M A (m >>= f) Q E s := fun Γ p hΓ hc => by
  rw [Sem.wp_bind']
  exact Sem.wp_mono M Γ m (fun a p' s' h' => h' Γ p' hΓ hc) (fun _ _ _ h' => h') p s (h Γ p hΓ hc)
theorem wpC_bindA {m : Sem α} {f : α → Sem β} {Q : β → Shared → Prop} (h : wpAny M A m (fun a s' => wpC M A (f a) Q E s') E s) : wpC M A (m >>= f) Q E s := wpC_bind (wpC_of h)
theorem wpC_holding {vs : List Value} {m : Sem α} {Q : α → Shared → Prop} (h : wpC M A m Q E s) : wpC M A (holding vs m) Q E s :=
  fun Γ p hΓ hc => by rw [Sem.wp_holding]; exact h Γ p hΓ hc
theorem wpC_keep {vs : List Value} {m : Sem α} {Q : α → Shared → Prop} (h : wpC M A m Q E s) : wpC M A (m.keep vs) Q E s :=
  fun Γ p hΓ hc => by rw [Sem.wp_keep]; exact h Γ p hΓ hc
theorem wpC_attempt {m : Sem α} {Q : Except Value α → Shared → Prop} (h : wpC M A m (fun a => Q (.ok a)) (fun e => Q (.error e)) s) : wpC M A m.attempt Q E s :=
  fun Γ p hΓ hc => by rw [Sem.wp_attempt]; exact h Γ p hΓ hc
theorem wpC_onRaise {m : Sem α} {k : Value → Sem Unit} {Q : α → Shared → Prop} (h : wpC M A m Q (fun e s' => wpAny M A (k e) (fun _ s'' => E e s'') E s') s) : wpC M A (m.onRaise k) Q E s := fun Γ p hΓ hc => by
  rw [Sem.wp_onRaise]
  exact Sem.wp_mono M Γ m (fun _ _ _ h' => h') (fun e p' s' h' => h' Γ p' hΓ) p s (h Γ p hΓ hc)
theorem wpC_runValue {c : Code} {Q : Value → Shared → Prop} (hc : codeC M A c (fun r s' => match r with | .ok (.ret v) => Q v s' | .ok _ => False | .error e => E e s') s) : wpC M A (runValue c) Q E s :=
  fun Γ p hΓ hh => by rw [Sem.wp_runValue]; exact hc _ p rfl (hΓ.enter c none p (by intro x; cases x)) (hh.enter c none p)
theorem wpC_call {f : Value} {pos : List Value} {kw : List (PySem.Str × Value)} {Q : Value → Shared → Prop}
    (hc : codeC M A (.call f ⟨pos, kw⟩) (fun r s' => match r with | .ok (.ret v) => Q v s' | .ok _ => False | .error e => E e s') s) : wpC M A (call f pos kw) Q E s := wpC_runValue hc
theorem codeC_of {c : Code} {R : Result → Shared → Prop} (h : codeAny M A c R s) : codeC M A c R s := fun Γ p hc hΓ _ => h Γ p hc hΓ
theorem codeC_mono {c : Code} {R R' : Result → Shared → Prop} (h : codeC M A c R s) (hR : ∀ r s, R r s → R' r s) : codeC M A c R' s := fun Γ p hc hΓ hb => wpCode_mono hR (h Γ p hc hΓ hb)
theorem codeC_of_tree {c : Code} {R : Result → Shared → Prop}
    (h : wpC M (A.under c) (M.den c) (fun fin s' => match fin with | .done f => R (.ok f) s' | .again c' => c'.quiet = true ∧ codeC M A c' R s') (fun e s' => R (.error e) s') s) : codeC M A c R s := fun Γ p hc hΓ hb => by
  rw [wpCode_iff_wp, hc]
  refine Sem.wp_mono M Γ _ (fun fin p' s' h' => ?_) (fun _ _ _ h' => h') p s (h Γ p (hc ▸ hΓ.in) (.inr hb))
  cases fin with
  | done f => exact h'
  | again c' => exact ⟨h'.1, h'.2 (Γ.goto c') p' rfl (hΓ.goto c') hb⟩
theorem made_no {own : List String} {l : List Code} (h : l.any Code.isCaller = true) : pythonCodeMadeTheCall own l = false := by
  unfold pythonCodeMadeTheCall
  rw [Bool.and_assoc]
  exact Bool.and_eq_false_iff.mpr (.inl (congrArg Bool.not h))
/-- where the caller stands below, no refusal is marked -/
theorem wpC_mark {own : List String} {e : Value} {Q : Unit → Shared → Prop} (h : Q () s) : wpC M A (markTheRefusal own e) Q E s := fun Γ p hΓ hc => by
  unfold markTheRefusal
  show wp M Γ (stack >>= _) _ _ p s
  rw [Sem.wp_bind']
  show wp M Γ (if pythonCodeMadeTheCall own (((Γ.code, p) :: Γ.below).map (·.1)) = true then _ else _) _ _ p s
  rw [if_neg]
  · exact h
  · rw [made_no ?_]
    · exact Bool.false_ne_true
    rw [List.any_eq_true]
    rcases hc with h | ⟨x, hx, e⟩
    · exact ⟨Γ.code, List.mem_cons_self, h⟩
    · exact ⟨x.1, List.mem_cons_of_mem _ (List.mem_map_of_mem hx), e⟩
end

section
variable {prog : Program} {w : World} {M : Model} {A : Around} {E : Value → Shared → Prop} {R : Result → Shared → Prop} {s : Shared} {env : Env}
theorem wpC_execs_cons {st : Stmt} {rest : List Stmt} {Q : Flow → Shared → Prop}
    (h : wpC M A (exec st env) (fun f s' => match f with | .next => wpC M A (execs rest env) Q E s' | f => Q f s') E s) : wpC M A (execs (st :: rest) env) Q E s := by
  rw [execs_cons]
  refine wpC_bind (wpC_mono h (fun f s' h' => ?_) fun _ _ x => x)
  cases f <;> first | exact h' | exact wpC_of (wpAny_pure h')
theorem wpC_execs_consA {st : Stmt} {rest : List Stmt} {Q : Flow → Shared → Prop}
    (h : wpAny M A (exec st env) (fun f s' => match f with | .next => wpC M A (execs rest env) Q E s' | f => Q f s') E s) : wpC M A (execs (st :: rest) env) Q E s := wpC_execs_cons (wpC_of h)
theorem wpC_Try {body orelse : List Stmt} {h₀ : ExceptHandler} {hs : List ExceptHandler} {pos : Pos} {Q : Flow → Shared → Prop}
    (h : wpC M A (execs body env) (fun f s₁ => match f with | .next => wpC M A (execs orelse env) Q E s₁ | f => Q f s₁)
      (fun e s₁ => wpAny M A (noteFrame e env) (fun _ s₂ => wpAny M A (setFlight e none) (fun _ s₃ => wpAny M A (handleBy e env (h₀ :: hs)) Q E s₃) E s₂) E s₁) s) :
    wpC M A (exec (.Try body (h₀ :: hs) orelse [] pos) env) Q E s := by
  rw [arm_exec_Try]
  refine wpC_bindA (wpAny_standAt ?_)
  unfold tryStmt
  simp only [List.isEmpty_nil, if_true, List.isEmpty_cons, Bool.false_and, Bool.false_eq_true, if_false]
  refine wpC_bind (wpC_attempt (wpC_mono h (fun f s₁ h₁ => ?_) fun e s₁ h₁ => ?_))
  · cases f <;> first | exact h₁ | exact wpC_of (wpAny_pure h₁)
  · exact wpC_of (wpAny_bind (wpAny_mono h₁ (fun _ _ h₂ => wpAny_bind h₂) fun _ _ x => x))
theorem codeC_func {body : List Stmt} 
    (h : wpC (model prog w) (A.deeper env) (execs body env) (fun f s' => R (.ok (.ret (match f with | .ret v => v | _ => .none))) s')
      (fun e s' => wpAny (model prog w) (A.deeper env) (leaving env e) (fun _ s'' => R (.error e) s'') (fun e' s'' => R (.error e') s'') s') s) :
    codeC (model prog w) A (.func body env) R s := by
  refine codeC_of_tree ?_
  show wpC _ (A.deeper env) (do point; match ← (execs body env).onRaise (leaving env) with | .ret v => ret v | _ => ret .none) _ _ s
  refine wpC_bindA (wpAny_point (wpC_bind (wpC_onRaise (wpC_mono h (fun f s' h' => ?_) fun _ _ h' => h'))))
  cases f <;> exact wpC_of (wpAny_pure h')
end
end Mine
end

/-! X1 -/
section
open PySem PySem.W PySem.Calls PyProof.Rows PySem.Builtin PySem.NumText
open Sem (wp)
set_option linter.unusedSimpArgs false
set_option linter.unusedVariables false
set_option maxRecDepth 100000
set_option maxHeartbeats 4000000
namespace Mine
section
variable {prog : Program} {w : World} {M : Model} {A : Around} {E : Value → Shared → Prop} {s : Shared}
theorem wpC_iteT {α : Type} {c : Prop} [Decidable c] {a b : Sem α} {Q : α → Shared → Prop} (hc : c) (h : wpC M A a Q E s) : wpC M A (if c then a else b) Q E s := by rw [if_pos hc]; exact h
theorem wpC_iteF {α : Type} {c : Prop} [Decidable c] {a b : Sem α} {Q : α → Shared → Prop} (hc : ¬ c) (h : wpC M A b Q E s) : wpC M A (if c then a else b) Q E s := by rw [if_neg hc]; exact h

theorem refuse_text {x : PySem.Str} {t : Tok} {text : List Nat} {Q : Value → Shared → Prop} (hs : (text.takeWhile (· != 0)).length ≤ 640)
    (hr : (int_private% "readNumeral") 0 10 (text.takeWhile (· != 0)) = int_private% "Numeral.invalid" ∨ ∃ i, (int_private% "readNumeral") 0 10 (text.takeWhile (· != 0)) = (int_private% "Numeral.value") i ∧ ¬ ((text.takeWhile (· != 0)).length == text.length) = true)
    (hh : A.handled = none) (hz : (reprText x).length ≤ sizeLine)
    (h : ∀ h' tk e, Heap.NewExc s.heap h' e "ValueError" → E (.ref e) { s with heap := h', toks := tk }) : wpC (model prog w) A ((int_private% "intFromText") (.str x t) text 10) Q E s := by
  have tail : ∀ (s : Shared), (∀ h' tk e, Heap.NewExc s.heap h' e "ValueError" → E (.ref e) { s with heap := h', toks := tk }) → ∀ z : PySem.Str, z.length ≤ 400 → wpC (model prog w) A (do
      let m ← mkStr z
      let refusal ← newExc (.type "ValueError") [m]
      markTheRefusal ["int.__new__"] refusal
      raiseNew refusal : Sem Value) Q E s := by
    intro s h z hl
    refine wpC_bindA (wpAny_mkStr ?_ ?_)
    · refine wpC_bindA ?_
      unfold newExc newTuple
      refine wpAny_bind (wpAny_newObj_type ?_)
      refine wpAny_bind (m := firstArgMember _ _) (wpAny_of_eq (a := Value.none) (by simp only [firstArgMember, plainExc_ValueError.first]; rfl) ?_)
      rw [plainExc_ValueError.own]
      refine wpAny_newObj_type ?_
      refine wpC_bind (wpC_mark ?_)
      refine wpC_of (wpAny_raiseNew_none hh ?_)
      exact h _ _ _ ⟨fun b o hb => Heap.get?_push_of_some _ (Heap.get?_push_of_some _ hb), Heap.get?_none_of_le (by simp), _, .ref s.heap.objs.size, Heap.get?_push_size _ rfl, rfl, by simp⟩
    · rw [sizeLine_eq]
      omega
  have rest : ∀ s : Shared, (∀ h' tk e, Heap.NewExc s.heap h' e "ValueError" → E (.ref e) { s with heap := h', toks := tk }) → wpC (model prog w) A (do
      let shown ← pyRepr (.str x t)
      let m ← mkStr (PySem.Str.ofString (toString "invalid literal for int() with base " ++ toString 10 ++ toString ": ") ++ { cps := shown.cps.extract 0 200 })
      let refusal ← newExc (.type "ValueError") [m]
      markTheRefusal ["int.__new__"] refusal
      raiseNew refusal : Sem Value) Q E s := fun s h => by
    refine wpC_bindA (wpAny_pyRepr_str ?_ hz)
    refine tail { s with toks := s.toks + 1 } (fun h' tk e hx => h h' tk e hx) _ ?_
    rw [PySem.Str.length_append]
    have h1 : (PySem.Str.ofString (toString "invalid literal for int() with base " ++ toString 10 ++ toString ": ")).length ≤ 100 := by decide +kernel
    have h2 : ({ cps := (reprText x).cps.extract 0 200 } : PySem.Str).length ≤ 200 := by
      show ((reprText x).cps.extract 0 200).size ≤ 200
      rw [Array.size_extract]
      omega
    omega
  with_unfolding_all refine wpC_iteT (c := (text.takeWhile (· != 0)).length ≤ 640) hs ?_
  refine wpC_bindA (wpAny_pure ?_)
  dsimp only
  rcases hr with hr | ⟨i, hr, hn⟩
  · rw [hr]
    dsimp only
    refine wpC_bindA ?_
    with_unfolding_all refine wpAny_pure (a := none) ?_
    refine wpC_iteF (by simp) ?_
    refine wpC_bindA (wpAny_rule ?_)
    refine wpC_bindA ?_
    with_unfolding_all refine wpAny_pure (a := none) ?_
    exact rest s h
  · rw [hr]
    dsimp only
    refine wpC_iteF hn ?_
    refine wpC_bindA (wpAny_rule ?_)
    refine wpC_bindA ?_
    with_unfolding_all refine wpAny_pure (a := none) ?_
    exact rest s h
end
end Mine
end

/-! X2 -/
section
open PySem PySem.W PySem.Calls PyProof.Rows PySem.Builtin PySem.NumText
open Sem (wp)
set_option linter.unusedSimpArgs false
set_option linter.unusedVariables false
set_option maxRecDepth 100000
set_option maxHeartbeats 4000000
namespace Mine
section
variable {prog : Program} {w : World} {M : Model} {A : Around} {E : Value → Shared → Prop} {s : Shared}
theorem refuse_new {x : PySem.Str} {u : Tok} {Q : Fin → Shared → Prop} (hl : x.length ≤ 640) (hn : PySem.intText? x = none) (hh : A.handled = none) (hz : (reprText x).length ≤ sizeLine)
    (h : ∀ h' tk e, Heap.NewExc s.heap h' e "ValueError" → E (.ref e) { s with heap := h', toks := tk }) : wpC (model prog w) A (Builtin.«int.__new__» ⟨[.type "int", .str x u], []⟩) Q E s := by
  have f1 := F.conv_sub_int
  have f2 := F.madeHere_int
  have f3 := KIN.str_int
  have f4 := KIN.str_idx
  have f5 := KIN.str_trunc
  have f6 : typeOf (.str x u) = pure (.type "str") := rfl
  have hs : (numSeenOf x).length ≤ 640 := Nat.le_trans (seen_length x) hl
  have hr : (int_private% "readNumeral") 0 10 (numSeenOf x) = int_private% "Numeral.invalid" ∨ ∃ i, (int_private% "readNumeral") 0 10 (numSeenOf x) = (int_private% "Numeral.value") i ∧ ¬ ((numSeenOf x).length == (numTextOf x).length) = true := by
    rcases read0 x hs with ⟨m, h1, h2, h3⟩ | ⟨_, h2⟩
    · rw [hn] at h1; cases h1
    · exact h2
  have key : ∀ s : Shared, (∀ h' tk e, Heap.NewExc s.heap h' e "ValueError" → E (.ref e) { s with heap := h', toks := tk }) → ∀ Q, wpC (model prog w) A ((int_private% "intFromText") (.str x u) (numTextOf x) 10) Q E s := fun s h Q => refuse_text hs hr hh hz h
  clear hs hr hl hn hz
  unfold «int.__new__»
  dsimp only
  refine wpC_bindA ?_
  repeat wp_step
  refine wpC_iteF (by simp) ?_
  refine wpC_bindA ?_
  repeat wp_step
  refine wpC_iteF (by simp) ?_
  refine wpC_bindA ?_
  repeat wp_step
  refine wpC_iteF (by simp) ?_
  refine wpC_iteF (by simp) ?_
  refine wpC_bindA ?_
  repeat wp_step
  with_unfolding_all refine wpC_bind ?_
  with_unfolding_all refine wpC_bindA ?_
  repeat wp_step
  with_unfolding_all refine wpC_bindA ?_
  repeat wp_step
  refine wpC_iteF (by simp) ?_
  with_unfolding_all refine wpC_bindA ?_
  repeat wp_step
  with_unfolding_all refine wpC_bindA ?_
  repeat wp_step
  exact key s h _
end
end Mine
end

/-! X3 -/
section
open PySem PySem.W PySem.Calls PyProof.Rows PySem.Builtin PySem.NumText
open Sem (wp)
set_option linter.unusedSimpArgs false
set_option linter.unusedVariables false
set_option maxRecDepth 100000
set_option maxHeartbeats 4000000
namespace Mine
section
variable {prog : Program} {w : World} {M : Model} {A : Around} {E : Value → Shared → Prop} {R : Result → Shared → Prop} {s : Shared}
theorem codeC_builtin {id : String} {args : Args} {b : Builtin} (hb : entryFor table id = some b)
    (h : wpC (model prog w) (A.under (.builtin id args)) (b args) (fun fin s' => match fin with | .done f => R (.ok f) s' | .again c' => c'.quiet = true ∧ codeC (model prog w) A c' R s') (fun e s' => R (.error e) s') s) :
    codeC (model prog w) A (.builtin id args) R s := by
  refine codeC_of_tree ?_
  show wpC _ _ (match entryFor table id with | some b => b args | none => _) _ _ s
  rw [hb]; exact h
theorem codeC_call_builtin {id : String} {args : Args} {b : Builtin} (hq : plainId id = true) (hb : entryFor table id = some b) (hc : checkBuiltinCall id args = pure ())
    (h : wpC (model prog w) A.in1 (b args) (fun fin s' => match fin with | .done f => R (.ok f) s' | .again c' => c'.quiet = true ∧ codeC (model prog w) A c' R s') (fun e s' => R (.error e) s') s) :
    codeC (model prog w) A (.call (.builtin id) args) R s := by
  refine codeC_of_tree ?_
  show wpC _ A.in1 (do checkBuiltinCall id args; again (.builtin id args)) _ _ s
  rw [hc]
  refine wpC_bindA (wpAny_pure (wpC_of (wpAny_pure ⟨plainId_quiet hq args, codeC_builtin hb ?_⟩)))
  rw [Around.under_plainId hq args]
  exact h
theorem refuse_int {x : PySem.Str} {u : Tok} {Q : Value → Shared → Prop} (hl : x.length ≤ 640) (hn : PySem.intText? x = none) (hh : A.handled = none) (hz : (reprText x).length ≤ sizeLine)
    (h : ∀ h' tk e, Heap.NewExc s.heap h' e "ValueError" → E (.ref e) { s with heap := h', toks := tk }) : wpC (model prog w) A (call (.type "int") [.str x u]) Q E s := by
  have ft := F.called_int
  obtain ⟨c, tl, hmro⟩ := ft.mro
  have hmade := ft.made
  have hsub := ft.sub
  have h1 := ft.notType
  have h2 := ft.canCreate
  have hct := F.typeCall_int_1 (.str x u)
  refine wpC_call (codeC_of_tree ?_)
  show wpC _ _ (callAny (.type "int") _) _ _ _
  refine wpC_of (wpAny_pure ⟨Code.quiet_builtin _ (by decide +kernel), codeC_builtin F.entry_type_call ?_⟩)
  rw [Around.under_plain (weight_type_call_type "int" _ []) (units_type_call_type "int" _ [])]
  unfold «type.__call__»
  dsimp only
  refine wpC_iteF (by rw [h1]; exact Bool.false_ne_true) ?_
  refine wpC_iteF (by rw [h2]; exact Bool.false_ne_true) ?_
  refine wpC_bindA ?_
  repeat wp_step
  refine wpC_bindA ?_
  repeat wp_step
  refine wpC_iteF (by simp) ?_
  refine wpC_bindA ?_
  repeat wp_step
  dsimp only
  refine wpC_bindA ?_
  repeat wp_step
  exact wpC_bind (wpC_holding (wpC_call (codeC_call_builtin ft.plain F.entry_int_new (F.newCall_int_1 _) (refuse_new hl hn hh hz fun h' tk e hx => h h' tk e hx))))
end
end Mine
end

/-! X4 -/
section
open PySem PySem.W PySem.Calls PyProof.Rows PySem.Builtin PySem.NumText
open Sem (wp)
set_option linter.unusedSimpArgs false
set_option linter.unusedVariables false
set_option maxRecDepth 100000
set_option maxHeartbeats 4000000
namespace Mine
section
variable {prog : Program} {w : World} {M : Model} {A : Around} {E : Value → Shared → Prop} {R : Result → Shared → Prop} {s : Shared} {env : Env}
theorem entry_unchain : entryFor table "proto.unchain" = some Builtin.«proto.unchain» := entryFor_of_tree (by kernel_rfl)
/-- a new exception raised while another is handled -/
theorem raise_in {cls : String} (F : ExcRaiseFacts cls) {x : Sem Value} {e1 : Addr} {Q : Flow → Shared → Prop} (hh : A.handled = some (.ref e1))
    (h : wpAny (model prog w) A x (fun v s₁ => ∃ e t o1 vs1, v = .ref e ∧ e ≠ e1 ∧ s₁.heap.get? e = some { cls := .type cls, data := .fields #[.ref t, .none, .none, .none, .bool false, .none] } ∧
      s₁.heap.get? e1 = some o1 ∧ o1.data = .fields vs1 ∧ vs1[2]? = some .none ∧ E (.ref e) { s₁ with heap := s₁.heap.update e (Obj.mapFields (·.setIfInBounds 2 (.ref e1))) }) E s) :
    wpAny (model prog w) A (raiseStmt env (some x) none) Q E s := by
  unfold raiseStmt
  refine wpAny_bind (wpAny_mono h (fun v s₁ h₁ => ?_) fun _ _ x => x)
  obtain ⟨e, t, o1, vs1, rfl, hne, he, he1, hd1, h2, hE⟩ := h₁
  obtain ⟨hp, g, d, tk, os⟩ := s₁
  have hsub := F.isExc
  have hmeta := F.plainMeta
  repeat (first | refine wpAny_loadPart he ?_ | wp_step)
  unfold raiseNew
  refine wpAny_bind (wpAny_handled ?_)
  rw [hh]
  dsimp only
  have hne' : (Value.ref e1 != Value.ref e) = true := by simpa using fun q => hne q.symm
  rw [if_pos hne']
  refine wpAny_bind (wpAny_holding (wpAny_runValue (codeAny_builtin entry_unchain ?_)))
  show wpAny _ _ (do
    let context ← field (.ref e1) 2
    if context == .none then return ← ret .none
    _) _ _ _
  refine wpAny_bind (wpAny_field he1 hd1 h2 ?_)
  rw [if_pos (by decide)]
  refine wpAny_bind (wpAny_pure (wpAny_pure ?_))
  show wpAny _ _ (do setField (.ref e) 2 (.ref e1); throw (.ref e)) _ _ _
  refine wpAny_bind (wpAny_setField he rfl (by simp) (wpAny_throw hE))
theorem Raise_in {cls : String} (F : ExcRaiseFacts cls) {x : Expr} {pos : Pos} {e1 : Addr} {Q : Flow → Shared → Prop} (hh : A.handled = some (.ref e1))
    (h : wpAny (model prog w) A (eval x env) (fun v s₁ => ∃ e t o1 vs1, v = .ref e ∧ e ≠ e1 ∧ s₁.heap.get? e = some { cls := .type cls, data := .fields #[.ref t, .none, .none, .none, .bool false, .none] } ∧
      s₁.heap.get? e1 = some o1 ∧ o1.data = .fields vs1 ∧ vs1[2]? = some .none ∧ E (.ref e) { s₁ with heap := s₁.heap.update e (Obj.mapFields (·.setIfInBounds 2 (.ref e1))) }) E s) :
    wpAny (model prog w) A (exec (.Raise (some x) none pos) env) Q E s := by
  rw [arm_exec_Raise]
  first
    | exact wpAny_bind (wpAny_standAt (raise_in F hh (wpAny_bind (wpAny_mono h (fun v s₁ h₁ => wpAny_bind (wpAny_standAt (wpAny_pure h₁))) fun _ _ x => x))))
    | (show wpAny (model prog w) A (do standAt pos; raiseStmt env (some (do let v ← eval x env; standAt pos; pure v)) none) Q E s; exact wpAny_bind (wpAny_standAt (raise_in F hh (wpAny_bind (wpAny_mono h (fun v s₁ h₁ => wpAny_bind (wpAny_standAt (wpAny_pure h₁))) fun _ _ x => x)))))
/-- the exception that stands in flight in a frame, told whole -/
def Mid (base : Heap) (l : List Env) (e T : Addr) (t : Value) (cls : String) (h : Heap) : Prop :=
  base.StaysIn h ∧ h.FunFrames base l ∧ base.get? e = none ∧ base.get? T = none ∧ T ≠ e ∧ (∃ oe, h.get? e = some oe ∧ oe.cls = .type cls ∧ oe.data = .fields #[t, .ref T, .none, .none, .bool false, .none]) ∧
    ∃ oT ts, h.get? T = some oT ∧ oT.data = .fields ts ∧ 3 < ts.size
theorem note_new {base : Heap} {outer : List Env} {L e : Addr} {t : Value} {cls : String} {oe : Obj} {Q : Unit → Shared → Prop} (hfr : A.frames = some (env :: outer)) (hl : s.heap.FunFrames base (env :: outer)) (hf : env.frame = some L)
    (he : s.heap.get? e = some oe) (hc : oe.cls = .type cls) (hd : oe.data = .fields #[t, .none, .none, .none, .bool false, .none]) (hkb : base.StaysIn s.heap) (hen : base.get? e = none)
    (h : ∀ h' T, Mid base (env :: outer) e T t cls h' → s.heap.UpToSlots h' → Q () { s with heap := h' }) : wpAny M A (noteFrame (.ref e) env) Q E s := by
  have hene : e ∉ (env :: outer).filterMap (·.frame) := fun hm => by
    obtain ⟨_, o, ho, hnf⟩ := hl.mem hm
    rw [he] at ho; injection ho with ho; subst ho; exact hnf _ hd
  unfold noteFrame
  simp only [hf]
  refine wpAny_bind (wpAny_field he hd (x := .none) (by simp) ?_)
  rw [if_neg (by decide)]
  refine wpAny_bind (wpAny_frameOf_fun hfr hl hf fun h₁ hs₁ => ?_)
  refine wpAny_bind (wpAny_entryPlaceOf fun pl hpl => ?_)
  unfold EntryCells.newEntry newFields
  refine wpAny_bind (wpAny_newObj_type ?_ (hpl.sizeOk5 _ _ _ _ _))
  generalize hts : ([Value.none, .ref L, .none, rawInt L, .none] ++ (if pl.isEmpty then List.replicate 6 Value.none else pl)).toArray = ts
  have hsz : 3 < ts.size := by subst hts; simp only [List.size_toArray, List.length_append, List.length_cons, List.length_nil]; omega
  have he₁ : h₁.get? e = some oe := (hs₁.2.1 e hene).trans he
  have kb₁ : base.StaysIn h₁ := fun b o hbo => (hs₁.2.1 b fun hm => by rw [(hl.mem hm).1] at hbo; cases hbo).trans (hkb b o hbo)
  have he₂ := Heap.get?_push_of_some (h := h₁) { cls := .type "traceback", dict := none, data := .fields ts } he₁
  refine wpAny_setField he₂ hd (by simp) (h _ h₁.objs.size ?_ ?_)
  · have hTe : h₁.objs.size ≠ e := Nat.ne_of_gt (Heap.lt_size he₁)
    have hd₃ := Obj.data_mapFields hd (·.setIfInBounds 1 (Value.ref h₁.objs.size))
    have he₃ := Heap.get?_update_self (Obj.mapFields (·.setIfInBounds 1 (Value.ref h₁.objs.size))) he₂ (Obj.isFreed_of_fields hd₃)
    have hT₃ := (Heap.get?_update_other (h₁.push { cls := .type "traceback", dict := none, data := .fields ts }) (Obj.mapFields (·.setIfInBounds 1 (Value.ref h₁.objs.size))) (Ne.symm hTe)).trans (Heap.get?_push_size h₁ rfl)
    have keep : ∀ b o, b ≠ e → h₁.get? b = some o → ((h₁.push { cls := .type "traceback", dict := none, data := .fields ts }).update e (Obj.mapFields (·.setIfInBounds 1 (Value.ref h₁.objs.size)))).get? b = some o := fun b o hbe hb => by
      rw [Heap.get?_update_other _ _ (Ne.symm hbe)]
      exact Heap.get?_push_of_some _ hb
    refine ⟨fun b o hbo => keep b o (fun q => by rw [q, hen] at hbo; cases hbo) (kb₁ b o hbo), hl.of_keeps fun b o hb hnf => ?_, hen, kb₁.fresh, hTe, ⟨_, he₃, (Obj.cls_mapFields _ _).trans hc, hd₃⟩, ⟨_, _, hT₃, rfl, hsz⟩⟩
    obtain ⟨sl, hs⟩ := hs₁.2.2 b o hb
    exact ⟨_, keep b _ (fun q => by rw [q, he] at hb; injection hb with hb; subst hb; exact hnf _ hd) hs, rfl⟩
  · intro b o hb hnf
    obtain ⟨sl, hs⟩ := hs₁.2.2 b o hb
    refine ⟨sl, ?_⟩
    rw [Heap.get?_update_other _ _ (fun q => by rw [← q, he] at hb; injection hb with hb; subst hb; exact hnf _ hd)]
    exact Heap.get?_push_of_some _ hs
theorem flight_mid {base : Heap} {l : List Env} {e T : Addr} {t : Value} {cls : String} {Q : Unit → Shared → Prop} (hm : Mid base l e T t cls s.heap)
    (h : ∀ h', Mid base l e T t cls h' → s.heap.UpToSlots h' → Q () { s with heap := h' }) : wpAny M A (setFlight (.ref e) none) Q E s := by
  obtain ⟨k1, k2, k3, k4, hTe, ⟨oe, he, hc, hd⟩, ⟨oT, ts, hT, hdT, hsz⟩⟩ := hm
  have other : ∀ b, b ≠ T → (s.heap.update T (Obj.mapFields (·.setIfInBounds 3 ((none : Option Addr).elim Value.none fun f => rawInt f)))).get? b = s.heap.get? b :=
    fun b hb => Heap.get?_update_other _ _ (Ne.symm hb)
  have noRecord : ∀ b o, s.heap.get? b = some o → (∀ vs, o.data ≠ .fields vs) → b ≠ T := fun b o hb hnf q => by
    rw [q, hT] at hb; injection hb with hb; subst hb; exact hnf ts hdT
  unfold setFlight
  refine wpAny_bind (wpAny_field he hd (x := .ref T) (by simp) ?_)
  rw [if_pos (show (Value.ref T != Value.none) = true from by simp)]
  refine wpAny_setField hT hdT hsz (h _ ⟨fun b o hbo => (other b fun q => by rw [q, k4] at hbo; cases hbo).trans (k1 b o hbo), k2.of_keeps fun b o hb hnf => ⟨o, (other b (noRecord b o hb hnf)).trans hb, rfl⟩, k3, k4, hTe,
    ⟨oe, (other e (Ne.symm hTe)).trans he, hc, hd⟩, ⟨_, _, Heap.get?_update_self _ hT (Obj.isFreed_of_fields (Obj.data_mapFields hdT _)), Obj.data_mapFields hdT _, by simp; exact hsz⟩⟩ fun b o hb hnf => ⟨o.slots, (other b (noRecord b o hb hnf)).trans hb⟩)
end
end Mine
end

/-! X5 -/
section
open PySem PySem.W PySem.Calls PyProof.Rows PySem.Builtin PySem.NumText
open Sem (wp)
set_option linter.unusedSimpArgs false
set_option linter.unusedVariables false
set_option maxRecDepth 100000
set_option maxHeartbeats 4000000
namespace Mine
section
variable {prog : Program} {w : World} {A₁ : Around} {R : Result → Shared → Prop} {s' : Shared} {base g h : Heap} {outer : List Env} {L a e : Addr} {m : PySem.Str → Option Value} {name : PySem.Str} {scope : Scope} {cd : Value}
  {p : Program} {loose : List PySem.Str} {mg mb : PySem.Str → Option Value}
theorem refused_again {msg : PySem.Str} {np np2 p3 cp rp pos : Pos} {k : Nat} {x : PySem.Str} {Q : Flow → Shared → Prop}
    (K : Below A₁ base outer g) (F : Fr g L h m) (hab : base.objs.size ≤ L) (hx : Heap.NewExc h s'.heap e "ValueError") (T : TopRead p loose mg mb base) (hv : bootBuiltins x = some (.type "ValueError"))
    (h1 : x ∉ startupNames) (h2 : x ∉ loose) (h3 : x ∉ (recsOf p).map (·.name)) (h4 : x ∉ (litsOf p).map (·.1)) (h4c : x ∉ (clssOf p loose).map (·.name)) (hn : x ≠ "__name__")
    (hk : scope.kind = .function) (hxk : (envOf name scope L a cd).kindOf x = some .globalImplicit) (hdb : (x == ("__debug__" : PySem.Str)) = false)
    (hR : ∀ h' e t tk, RaisedK base outer e (.type "ValueError") t [.str msg tk] [] h' → g.UpToSlots h' → R (.error (.ref e)) { s' with heap := h', toks := tk + 1 }) :
    wpAny (model prog w) (A₁.deeper (envOf name scope L a cd)) (noteFrame (.ref e) (envOf name scope L a cd))
      (fun _ s₂ => wpAny (model prog w) (A₁.deeper (envOf name scope L a cd)) (setFlight (.ref e) none) (fun _ s₃ =>
        wpAny (model prog w) (A₁.deeper (envOf name scope L a cd)) (handleBy (.ref e) (envOf name scope L a cd) [.ExceptHandler (some (.Name x np)) none [.Raise (some (.Call (.Name x np2) [.Constant (.str msg) k p3] [] cp)) none rp] pos]) Q
          (fun e s' => wpAny (model prog w) (A₁.deeper (envOf name scope L a cd)) (leaving (envOf name scope L a cd) e) (fun _ s'' => R (.error e) s'') (fun e' s'' => R (.error e') s'') s') s₃)
          (fun e s' => wpAny (model prog w) (A₁.deeper (envOf name scope L a cd)) (leaving (envOf name scope L a cd) e) (fun _ s'' => R (.error e) s'') (fun e' s'' => R (.error e') s'') s') s₂)
          (fun e s' => wpAny (model prog w) (A₁.deeper (envOf name scope L a cd)) (leaving (envOf name scope L a cd) e) (fun _ s'' => R (.error e) s'') (fun e' s'' => R (.error e') s'') s') s' := by
  have K' := K.push (name := name) (a := a) (cd := cd) F hk
  have hE : PassesOwnAt (model prog w) ((A₁.deeper (envOf name scope L a cd)).mark (some (.ref e))) (A₁.deeper (envOf name scope L a cd)) (envOf name scope L a cd)
    (fun e s' => wpAny (model prog w) (A₁.deeper (envOf name scope L a cd)) (leaving (envOf name scope L a cd) e) (fun _ s'' => R (.error e) s'') (fun e' s'' => R (.error e') s'') s') := by passes_own
  obtain ⟨oe, t, he, hc, hd⟩ := hx.there
  have kb : base.StaysIn s'.heap := fun b o q => hx.keeps b o (K'.stays b o q)
  have ff : s'.heap.FunFrames base (envOf name scope L a cd :: outer) := K'.frames.of_keeps fun b o q _ => ⟨o, hx.keeps b o q, rfl⟩
  refine note_new K'.stack ff rfl he hc hd kb (fresh_of_stays K'.stays hx.new) fun hp1 T1 M1 U1 => ?_
  refine flight_mid M1 fun hp2 M2 U2 => ?_
  have Fr2 : ∀ h', Mid base (envOf name scope L a cd :: outer) e T1 t "ValueError" h' → h.UpToSlots h' → Fr base L h' m := fun h' M U => ⟨U.ns F.ns, M.1, hab⟩
  have U12 : h.UpToSlots hp2 := ((Heap.UpToSlots.of_keeps hx.keeps).trans U1).trans U2
  have F2 := Fr2 hp2 M2 U12
  obtain ⟨o2, ho2, hoc2, hod2⟩ := M2.2.2.2.2.2.1
  refine wpAny_handleBy_builtin (X := "ValueError") (T := "ValueError") (b := true) PySem.F.isExc_ValueError PySem.F.notTuple_ValueError (by rw [isSubtype_type]; kernel_rfl) (ld_builtin_at F2 T.g (T.free x h1 h2 h3 h4 h4c) T.b ((T.builtins x hn).trans hv) ⟨rfl, ⟨o2, ho2, hoc2⟩, ?_⟩ hk hxk hdb)
  refine flight_mid M2 fun hp3 M3 U3 => ?_
  refine wpAny_passesOwnAt hE ?_
  have U13 := U12.trans U3
  have F3 := Fr2 hp3 M3 U13
  refine wpAny_execs_cons (Raise_in (cls := "ValueError") PySem.F.excRaise_ValueError rfl ?_)
  refine Call_Name rfl (ld_builtin_at F3 T.g (T.free x h1 h2 h3 h4 h4c) T.b ((T.builtins x hn).trans hv) ?_ hk hxk hdb)
  refine callWith_type1 (spliced_more (Calls.Constant_str (spliced_none ?_)))
  refine wpAny_call_exc PySem.F.excCall_ValueError (fun hp4 e2 X4 => ?_)
  obtain ⟨t2, he2, ht2n, ht2⟩ := X4.there
  obtain ⟨o3, ho3, hoc3, hod3⟩ := M3.2.2.2.2.2.1
  have hne : e2 ≠ e := fun q => by have := X4.new; rw [q] at this; exact absurd (this.symm.trans ho3) (by simp)
  refine ⟨e2, t2, o3, _, rfl, hne, he2, X4.keeps _ _ ho3, hod3, by simp, ?_⟩
  have hd5 := Obj.data_mapFields (o := { cls := .type "ValueError", data := .fields #[.ref t2, .none, .none, .none, .bool false, .none] }) rfl (·.setIfInBounds 2 (Value.ref e))
  have he5 := Heap.get?_update_self (Obj.mapFields (·.setIfInBounds 2 (Value.ref e))) he2 (Obj.isFreed_of_fields hd5)
  have oth : ∀ b, b ≠ e2 → (hp4.update e2 (Obj.mapFields (·.setIfInBounds 2 (Value.ref e)))).get? b = hp4.get? b := fun b hb => Heap.get?_update_other _ _ (Ne.symm hb)
  have ne2 : ∀ b o, hp3.get? b = some o → b ≠ e2 := fun b o q r => by have := X4.new; rw [← r] at this; exact absurd (this.symm.trans q) (by simp)
  have kb5 : base.StaysIn (hp4.update e2 (Obj.mapFields (·.setIfInBounds 2 (Value.ref e)))) := fun b o q => by
    have q3 := M3.1 b o q
    rw [oth b (ne2 b o q3)]
    exact X4.keeps b o q3
  have ff5 : (hp4.update e2 (Obj.mapFields (·.setIfInBounds 2 (Value.ref e)))).FunFrames base (envOf name scope L a cd :: outer) := M3.2.1.of_keeps fun b o q _ => ⟨o, (oth b (ne2 b o q)).trans (X4.keeps b o q), rfl⟩
  have U5 : hp3.UpToSlots (hp4.update e2 (Obj.mapFields (·.setIfInBounds 2 (Value.ref e)))) := fun b o q _ => ⟨o.slots, (oth b (ne2 b o q)).trans (X4.keeps b o q)⟩
  have hen2 : base.get? e2 = none := fresh_of_stays M3.1 X4.new
  refine wpAny_leaving_firstW K'.stack ff5 rfl he5 kb5 hen2 hd5 (by simp) (a0 := .ref t2) (by simp) fun hp6 W6 => ?_
  obtain ⟨w1, w2, w3, w4⟩ := W6
  have tt : t2 ≠ e2 := fun q => by rw [q] at ht2; rw [ht2] at he2; exact absurd (congrArg Obj.cls (Option.some.inj he2)) (by simp)
  refine hR hp6 e2 t2 _ ⟨⟨base, fun _ _ q => q, (fun _ q => nomatch q), ⟨w1, hen2, w2.2.2, ?_⟩, fresh_of_stays M3.1 ht2n⟩, ?_⟩ ?_
  · exact w3
  · obtain ⟨sl, q⟩ := w4 t2 _ ((oth t2 tt).trans ht2) (fun vs q => by cases q)
    exact ⟨_, _, q, rfl, rfl⟩
  · exact ((Heap.UpToSlots.of_keeps F.keep).trans U13).trans (U5.trans fun b o q r => w4 b o q r)
end
end Mine
end

/-! X6 -/
section
open PySem PySem.W PySem.Calls PyProof.Rows PySem.Builtin PySem.NumText
open Sem (wp)
set_option linter.unusedSimpArgs false
set_option linter.unusedVariables false
set_option maxRecDepth 100000
set_option maxHeartbeats 4000000
namespace Mine
section
variable {prog : Program} {w : World} {A : Around} {E : Value → Shared → Prop} {R : Result → Shared → Prop} {s : Shared} {env : Env}
theorem codeC_call_def {a : Addr} {o : Obj} {fd : FuncData} {body : List Stmt} {args : Args} {binds : List (PySem.Str × Value)}
    (hroom : A.depth < recursionLimit) (ho : s.heap.get? a = some o) (hd' : o.data = .func fd) (hlim : s.heap.NoLimit) (hcd : s.heap.CodeRec fd.code fd.qualname)
    (hbody : fd.body = .stmts body) (hbind : BindsTo s fd args binds)
    (hcell : ∀ x ∈ fd.scope.names, x.2 ≠ .cell) (hloc : ∀ x ∈ binds, fd.scope.names.lookup x.1 = some .local)
    (h : ∀ h₀, h₀.Ns s.heap.objs.size (fun x => binds.reverse.lookup x) → (∀ b o, s.heap.get? b = some o → h₀.get? b = some o) →
      wpC (model prog w) (A.deeper (callEnv fd s.heap.objs.size a)) (execs body (callEnv fd s.heap.objs.size a)) (fun f s' => R (.ok (.ret (match f with | .ret v => v | _ => .none))) s')
        (fun e s' => wpAny (model prog w) (A.deeper (callEnv fd s.heap.objs.size a)) (leaving (callEnv fd s.heap.objs.size a) e) (fun _ s'' => R (.error e) s'') (fun e' s'' => R (.error e') s'') s')
        { s with heap := h₀, toks := s.toks + binds.length })
    (hco : fd.scope.isCoroutine = false) (hgen : fd.scope.isGenerator = false) (hk : fd.scope.kind = .function) :
    codeC (model prog w) A (.call (.ref a) args) R s := by
  refine codeC_of_tree ?_
  show wpC _ A.in1 (callAny (.ref a) args) _ _ s
  simp only [callAny]
  refine wpC_bindA (wpAny_load ho ?_)
  obtain ⟨c, oc, vs, tq, hc, hoc, hdc, hq⟩ := hcd
  simp only [hd', callFunction, hco, hgen, hbody, hc]
  refine wpC_bindA (m := field (.ref c) 1) (wpAny_field hoc hdc hq (wpC_bindA (wpAny_pure ?_)))
  refine wpC_bindA (hbind _ _ _ _ ?_)
  refine wpC_bindA (wpAny_newFunctionEnv hcell hloc (fun h₀ hns₀ hsb₀ => ?_) hk)
  refine wpC_bindA (wpAny_enterFrame (hlim.fresh _ hsb₀) hroom (wpC_of (wpAny_pure (And.intro rfl ?_))))
  have hh := h h₀ hns₀ fun b o e => hsb₀.extBut b o (Nat.ne_of_lt (Heap.lt_size e)) (Heap.get?_push_of_some _ e)
  unfold callEnv at hh
  rw [hc] at hh
  exact codeC_func hh
end
section
variable {prog : Program} {w : World} {A₀ A : Around} {s : Shared} {base h₀ : Heap} {outer : List Env} {L : Addr} {m : PySem.Str → Option Value} {env : Env} {news : List (Addr × Obj)}
  {R : Result → Shared → Prop} {name qual : PySem.Str} {params : Arguments} {body : List Stmt} {scope : Scope} {dV kV doc pm cdv ct oc : Value} {an od : Option Addr} {osl : Array (Option Value)} {f : Addr} {args : Args} {binds : List (PySem.Str × Value)}
  {K : Frag} {p : Program} {loose : List PySem.Str} {mean : ExcName → Option Value} {mg mb : PySem.Str → Option Value}
/-- a def's call, in contexts that hold the caller -/
theorem code_defC (B : Below A₀ base outer h₀) (F : Fr h₀ L s.heap m) (X₀ : K.In h₀) (N : News h₀ L s.heap news) (T : Top p loose mean mg mb h₀) (hA : A.frames = some (env :: outer)) (hf : env.frame = some L) (hke : env.scope.kind = .function)
    (ho : K.lookup f = some ⟨oc, od, .func (fnOf name qual params body scope dV kV doc pm an cdv ct), osl⟩) (hcd : codeIn K cdv qual = true) (hroom : A.depth < recursionLimit)
    (hbind : BindsTo s (fnOf name qual params body scope dV kV doc pm an cdv ct) args binds) (hloc : ∀ y ∈ binds, scope.names.lookup y.1 = some .local)
    (h : ∀ g L' h₁, Fr h₀ L g m → Fr g L' h₁ (fun y => binds.reverse.lookup y) → News g L' h₁ news → Below A base (env :: outer) g → K.In g → Top p loose mean mg mb g →
      wpC (model prog w) (A.deeper (envOf qual scope L' f cdv)) (execs body (envOf qual scope L' f cdv))
        (fun fl s' => LeaveK h₀ L m g R (match fl with | .ret v => v | _ => .none) s')
        (fun e s' => wpAny (model prog w) (A.deeper (envOf qual scope L' f cdv)) (leaving (envOf qual scope L' f cdv) e) (fun _ s'' => R (.error e) s'') (fun e' s'' => R (.error e') s'') s')
        { s with heap := h₁, toks := s.toks + binds.length })
    (hco : scope.isCoroutine = false) (hgen : scope.isGenerator = false) (hk : scope.kind = .function)
    (hcell : ∀ x ∈ scope.names, x.2 ≠ .cell) : codeC (model prog w) A (.call (.ref f) args) R s := by
  obtain ⟨FG, BG, st, lv⟩ := groundX (R := R) B F N hA hf hke
  refine codeC_call_def (fd := fnOf name qual params body scope dV kV doc pm an cdv ct) (body := body) (binds := binds) hroom ((X₀.keeps F.keep) _ _ ho) rfl (T.nolimit.keeps F.keep) (codeRec_of (X₀.keeps F.keep) hcd) rfl hbind hcell hloc (fun h₁ hns hk₁ => ?_) hco hgen hk
  exact wpC_mono (h _ s.heap.objs.size h₁ FG ⟨hns, fun b o e => hk₁ b o (of_hideAll _ e), Nat.le_of_eq (hideAll_size _ _)⟩
    (fun p hp => ⟨hk₁ _ _ (N p hp).1, Nat.ne_of_lt (Heap.lt_size (N p hp).1), hideAll_none _ (List.mem_map_of_mem hp)⟩) BG (X₀.keeps st) (T.keeps st)) (fun fl s' hl => lv _ _ hl) fun _ _ y => y
end
section
variable {M : Model} {A : Around} {E : Value → Shared → Prop} {s : Shared} {env : Env}
theorem wpC_callWith {pos : Pos} {a : Addr} {o : Obj} {fd : FuncData} {args : List (Bool × Sem Value)} {Q : Value → Shared → Prop} (hargs : args.any (·.1) = false)
    (h : wpAny M A (evalArgs (.ref a) true args []) (fun x s₁ => (s₁.heap.get? a = some o ∧ o.data = .func fd) ∧ wpC M A (call (.ref a) x.pos x.kw) Q E s₁) E s) :
    wpC M A (callWith pos (.ref a) [] args []) Q E s := by
  unfold callWith
  refine wpC_bindA (wpAny_holding (wpAny_mono h (fun x s₁ h₁ => ?_) fun _ _ x => x))
  refine wpC_bindA (wpAny_standAt ?_)
  have tail : ∀ {t : Sem Value}, wpC M A t Q E s₁ → wpC M A (t >>= fun r => holding [r] point >>= fun _ => pure r) Q E s₁ :=
    fun ht => wpC_bind (wpC_mono ht (fun r s₂ hr => wpC_of (wpAny_bind (wpAny_holding (wpAny_point (wpAny_pure hr))))) fun _ _ x => x)
  simp only [hargs, List.any_nil, Bool.or_false]
  refine wpC_bindA (m := keeperOf (.ref a)) ?_
  unfold keeperOf
  refine wpAny_bind (wpAny_load h₁.1.1 ?_)
  rw [h₁.1.2]
  refine wpAny_pure ?_
  dsimp only
  split
  · exact tail h₁.2
  · exact tail (by unfold callMarked; exact wpC_keep h₁.2)
theorem wpC_Call {x : PySem.Str} {np pos : Pos} {args : List Expr} {Q : Value → Shared → Prop}
    (h : wpAny M A (eval (.Name x np) env) (fun f s₁ => wpC M A (callWith pos f [] (backTo pos (starEach args env)) []) Q E s₁) E s) :
    wpC M A (eval (.Call (.Name x np) args [] pos) env) Q E s := by
  rw [arm_eval_Call_Name']
  exact wpC_bindA h
theorem wpC_Assign {x : PySem.Str} {np pos : Pos} {value : Expr} {Q : Flow → Shared → Prop}
    (h : wpC M A (eval value env) (fun v s₁ => wpAny M A (assign (.Name x np) env v) (fun _ => Q .next) E s₁) E s)
    (hs : swapsWithSole [.Name x np] value pos.line env = pure false := by rfl) (hw : swappedStores [.Name x np] value env = pure none := by rfl)
    (he : (assignEach [.Name x np] env).map (·.2) = [assign (.Name x np) env] := by rfl) :
    wpC M A (exec (.Assign [.Name x np] value pos) env) Q E s := by
  rw [arm_exec_Assign]
  refine wpC_bindA (wpAny_standAt ?_)
  rw [hs]
  refine wpC_bindA (wpAny_pure ?_)
  rw [if_neg (by decide)]
  refine wpC_bind (wpC_mono h (fun v s₁ h₁ => ?_) fun _ _ x => x)
  rw [hw]
  refine wpC_bindA (wpAny_pure ?_)
  rw [he]
  refine wpC_of ?_
  show wpAny M A (do assignAll v [assign (.Name x np) env]; pure .next) Q E s₁
  exact wpAny_bind (wpAny_mono h₁ (fun _ _ x => wpAny_pure x) fun _ _ x => x)
end
end Mine
end

/-! X8 -/
section
open PySem PySem.W PySem.Calls PyProof.Rows PySem.Builtin
set_option linter.unusedSimpArgs false
set_option linter.unusedVariables false
namespace Mine
section
variable {M : Model} {A : Around} {E : Value → Shared → Prop} {s : Shared} {env : Env}
theorem wpC_callWith_type {pos : Pos} {T : String} {args : List (Bool × Sem Value)} {Q : Value → Shared → Prop} (hplain : args.any (·.1) = false)
    (h : wpAny M A (evalArgs (.type T) true args []) (fun a s₁ => wpC M A (call (.type T) a.pos a.kw) Q E s₁) E s) : wpC M A (callWith pos (.type T) [] args []) Q E s := by
  unfold callWith
  refine wpC_bindA (wpAny_holding (wpAny_mono h (fun a s₁ h₁ => ?_) fun _ _ x => x))
  refine wpC_bindA (wpAny_standAt ?_)
  simp only [hplain, List.any_nil, Bool.or_false]
  refine wpC_bindA (wpAny_pure ?_)
  exact wpC_bind (wpC_mono h₁ (fun r s₂ hr => wpC_of (wpAny_bind (wpAny_holding (wpAny_point (wpAny_pure hr))))) fun _ _ x => x)
theorem wpC_callWith_type1 {pos : Pos} {T : String} {e : Expr} {rest : List Expr} {Q : Value → Shared → Prop}
    (h : wpAny M A (spliced (backTo pos (starEach (e :: rest) env))) (fun vs s₁ => wpC M A (call (.type T) vs) Q E s₁) E s)
    (he : starEach (e :: rest) env = (false, eval e env) :: starEach rest env := by rfl)
    (hplain : (backTo pos (starEach rest env)).any (·.1) = false := by rfl) :
    wpC M A (callWith pos (.type T) [] (backTo pos (starEach (e :: rest) env)) []) Q E s := by
  rw [he] at h ⊢
  exact wpC_callWith_type (by show (false || (backTo pos (starEach rest env)).any (·.1)) = false; rw [hplain]; rfl) (evalArgs_plain h)
end
end Mine
end

/-! N0 -/
section
open PySem PySem.NumText
set_option linter.unusedSimpArgs false
set_option linter.unusedVariables false
namespace Mine
def Odd (c : Nat) : Prop := c ≠ 95 ∧ c ≠ 43 ∧ c ≠ 45 ∧ c ≠ 32 ∧ ¬ (9 ≤ c ∧ c ≤ 13) ∧ ¬ (48 ≤ c ∧ c ≤ 57)
theorem step_odd {c : Nat} (h : Odd c) (p : Array Nat × Bool) : NumText.step 10 p c = none := by
  obtain ⟨h1, h2, h3, h4, h5, h6⟩ := h
  unfold NumText.step digit?
  rw [if_neg (by simpa using h1), if_neg (by simpa using h6)]
  split
  · next d hd =>
    rw [if_neg]
    split at hd
    · next hc => cases hd; simp at hc; omega
    · split at hd
      · next hc => cases hd; simp at hc; omega
      · cases hd
  · rfl
theorem fold_odd : ∀ (l : List Nat) (p : Array Nat × Bool), (∃ c ∈ l, Odd c) → l.foldlM (NumText.step 10) p = none
  | [], _, ⟨c, hc, _⟩ => nomatch hc
  | x :: r, p, ⟨c, hc, h⟩ => by
    rw [List.foldlM_cons]
    cases hs : NumText.step 10 p x with
    | none => rfl
    | some q =>
      show r.foldlM (NumText.step 10) q = none
      refine fold_odd r q ?_
      rcases List.mem_cons.mp hc with rfl | hc
      · rw [step_odd h] at hs; cases hs
      · exact ⟨c, hc, h⟩
theorem drop_keeps {p : Nat → Bool} {c : Nat} : ∀ {l : List Nat}, c ∈ l → p c = false → c ∈ l.dropWhile p
  | x :: r, hc, hp => by
    rw [List.dropWhile_cons]
    split
    · next hx =>
      rcases List.mem_cons.mp hc with rfl | hc
      · rw [hp] at hx; cases hx
      · exact drop_keeps hc hp
    · exact hc
theorem blank_odd {c : Nat} (h : Odd c) : blank c = false := by
  obtain ⟨h1, h2, h3, h4, h5, h6⟩ := h
  unfold blank
  simp
  omega
theorem core_odd {c : Nat} {t : List Nat} (hc : c ∈ t) (h : Odd c) : c ∈ core t := by
  have h1 := drop_keeps hc (blank_odd h)
  unfold core
  rw [List.mem_reverse]
  refine drop_keeps ?_ (blank_odd h)
  rw [List.mem_reverse]
  unfold sign
  split
  · next r e =>
    rw [e] at h1
    rcases List.mem_cons.mp h1 with rfl | h1
    · exact absurd rfl h.2.2.1
    · exact h1
  · next r e =>
    rw [e] at h1
    rcases List.mem_cons.mp h1 with rfl | h1
    · exact absurd rfl h.2.1
    · exact h1
  · exact h1
theorem int_odd {l : List Nat} (ha : ∀ c ∈ l, c < 128) (h : ∃ c ∈ l, Odd c) : PySem.intText? (S l) = none := by
  have e1 : numTextOf (S l) = l := by
    show (if (S l).cps.all (· < 128) then (S l).cps.toList else _) = l
    rw [if_pos]
    · rfl
    · show l.toArray.all (· < 128) = true
      rw [List.all_toArray, List.all_eq_true]
      intro c hc
      exact decide_eq_true (ha c hc)
  unfold PySem.intText?
  split
  · next hlen =>
    have hs : numSeenOf (S l) = l := by
      unfold numSeenOf at hlen ⊢
      rw [e1] at hlen ⊢
      have := (List.takeWhile_prefix (· != 0) (l := l)).eq_of_length (by simpa using hlen)
      exact this
    rw [hs]
    have hd : digits? 10 (core l) = none := by
      unfold digits?
      obtain ⟨c, hc, ho⟩ := h
      rw [fold_odd _ _ ⟨c, core_odd hc ho, ho⟩]
      rfl
    rw [hd]
  · rfl
end Mine
end

/-! N1 -/
section
set_option linter.unusedSimpArgs false
set_option linter.unusedVariables false
namespace Mine
/-- what stands ahead of the first # and ? -/
def cut (l : List Nat) : List Nat := bef 63 (bef 35 l)
theorem cut_app {a b : List Nat} (h1 : 35 ∉ a) (h2 : 63 ∉ a) : cut (a ++ b) = a ++ cut b := by
  unfold cut; rw [bef_app h1, bef_app h2]
theorem cut_cons {c : Nat} {b : List Nat} (h1 : c ≠ 35) (h2 : c ≠ 63) : cut (c :: b) = c :: cut b :=
  cut_app (a := [c]) (by simpa using h1.symm) (by simpa using h2.symm)
theorem bef_pre (c : Nat) (l : List Nat) : ∃ r, l = bef c l ++ r := ⟨l.dropWhile (· != c), (List.takeWhile_append_dropWhile).symm⟩
theorem cut_pre (l : List Nat) : ∃ r, l = cut l ++ r := by
  obtain ⟨r, h⟩ := bef_pre 35 l
  obtain ⟨q, h2⟩ := bef_pre 63 (bef 35 l)
  refine ⟨q ++ r, ?_⟩
  unfold cut
  rw [← List.append_assoc, ← h2, ← h]
theorem bef_more {c : Nat} {a : List Nat} (b : List Nat) (h : c ∈ a) : bef c (a ++ b) = bef c a ∧ aft c (a ++ b) = aft c a ++ b := by
  have e := split_at h
  constructor
  · conv => lhs; rw [e]
    rw [List.append_assoc, List.cons_append, bef_here (bef_not c a)]
  · conv => lhs; rw [e]
    rw [List.append_assoc, List.cons_append, aft_here (bef_not c a)]
theorem scs_no {l : List Nat} (h : ∀ c ∈ l, c ∈ scs) : 35 ∉ l ∧ 63 ∉ l := ⟨fun q => absurd (h _ q) (by decide), fun q => absurd (h _ q) (by decide)⟩
/-- a name's reading is the same ahead of # and ? -/
theorem named_cut (v : List Nat) : (Named (cut v) ↔ Named v) ∧ pS (cut v) = pS v ∧ pR (cut v) = cut (pR v) := by
  by_cases hn : Named v
  · obtain ⟨h1, h2, h3⟩ := hn
    obtain ⟨n1, n2⟩ := scs_no h3
    have e : cut v = bef 58 v ++ 58 :: cut (aft 58 v) := by
      conv => lhs; rw [split_at h1]
      rw [cut_app n1 n2, cut_cons (by decide) (by decide)]
    have eb : bef 58 (cut v) = bef 58 v := by rw [e, bef_here (bef_not 58 v)]
    have ea : aft 58 (cut v) = cut (aft 58 v) := by rw [e, aft_here (bef_not 58 v)]
    have hn' : Named (cut v) := ⟨by rw [e]; simp, by rw [eb]; exact h2, by rw [eb]; exact h3⟩
    refine ⟨⟨fun _ => ⟨h1, h2, h3⟩, fun _ => hn'⟩, ?_, ?_⟩
    · unfold pS; rw [if_pos hn', if_pos ⟨h1, h2, h3⟩, eb]
    · unfold pR; rw [if_pos hn', if_pos ⟨h1, h2, h3⟩, ea]
  · have hn' : ¬ Named (cut v) := fun ⟨h1, h2, h3⟩ => hn (by
      obtain ⟨r, e⟩ := cut_pre v
      have q := (bef_more r h1).1
      rw [← e] at q
      exact ⟨by rw [e]; exact List.mem_append_left _ h1, by rw [q]; exact h2, by rw [q]; exact h3⟩)
    refine ⟨⟨fun h => absurd h hn', fun h => absurd h hn⟩, ?_, ?_⟩
    · unfold pS; rw [if_neg hn', if_neg hn]
    · unfold pR; rw [if_neg hn', if_neg hn]
theorem tw_tw (p q : Nat → Bool) : ∀ l : List Nat, (l.takeWhile p).takeWhile q = l.takeWhile fun x => p x && q x
  | [] => rfl
  | x :: r => by
    simp only [List.takeWhile_cons]
    cases hp : p x <;> cases hq : q x <;> simp [hp, hq, tw_tw p q r]
theorem take2 {r : List Nat} (h : r.take 2 = [47, 47]) : ∃ w, r = 47 :: 47 :: w := by
  match r, h with
  | a :: b :: w, h => simp at h; obtain ⟨rfl, rfl⟩ := h; exact ⟨w, rfl⟩
theorem cut_take2 (r : List Nat) : (cut r).take 2 = [47, 47] ↔ r.take 2 = [47, 47] := by
  constructor
  · intro h
    obtain ⟨q, e⟩ := cut_pre r
    obtain ⟨w, hw⟩ := take2 h
    rw [e, hw]; rfl
  · intro h
    obtain ⟨w, rfl⟩ := take2 h
    rw [cut_cons (by decide) (by decide), cut_cons (by decide) (by decide)]; rfl
theorem nA_eq (r : List Nat) : nA r = pA (cut r) := by
  unfold nA pA
  by_cases h : r.take 2 = [47, 47]
  · rw [if_pos h, if_pos ((cut_take2 r).mpr h)]
    obtain ⟨w, rfl⟩ := take2 h
    rw [cut_cons (by decide) (by decide), cut_cons (by decide) (by decide)]
    show w.takeWhile _ = bef 47 (cut w)
    unfold cut bef
    rw [tw_tw, tw_tw]
    congr 1
    funext x
    rw [Bool.eq_iff_iff]
    simp
    omega
  · rw [if_neg h, if_neg (fun q => h ((cut_take2 r).mp q))]
theorem drop_head {w : List Nat} : (w.dropWhile fun c => decide (c ∉ [47, 63, 35])) = [] ∨ ∃ x d, (w.dropWhile fun c => decide (c ∉ [47, 63, 35])) = x :: d ∧ x ∈ [47, 63, 35] := by
  cases h : w.dropWhile fun c => decide (c ∉ [47, 63, 35]) with
  | nil => exact .inl rfl
  | cons x d =>
    refine .inr ⟨x, d, rfl, ?_⟩
    have := List.head_dropWhile_not (p := fun c => decide (c ∉ [47, 63, 35])) (l := w) (by rw [h]; exact List.cons_ne_nil _ _)
    simp only [h, List.head_cons] at this
    exact Decidable.of_not_not (of_decide_eq_false this)
theorem nP_eq (r : List Nat) : cut (nU r) = pP (cut r) := by
  unfold nU pP
  by_cases h : r.take 2 = [47, 47]
  · rw [if_pos h, if_pos ((cut_take2 r).mpr h)]
    obtain ⟨w, rfl⟩ := take2 h
    rw [cut_cons (by decide) (by decide), cut_cons (by decide) (by decide)]
    show cut (w.dropWhile _) = (cut w).dropWhile _
    have hw : w = w.takeWhile (fun c => decide (c ∉ [47, 63, 35])) ++ w.dropWhile (fun c => decide (c ∉ [47, 63, 35])) := (List.takeWhile_append_dropWhile).symm
    have ha : ∀ x ∈ w.takeWhile (fun c => decide (c ∉ [47, 63, 35])), x ∉ [47, 63, 35] := fun x hx => of_decide_eq_true (List.all_eq_true.mp (List.all_takeWhile) x hx)
    generalize w.takeWhile (fun c => decide (c ∉ [47, 63, 35])) = a at hw ha
    have hd := drop_head (w := w)
    generalize w.dropWhile (fun c => decide (c ∉ [47, 63, 35])) = d at hw hd
    rw [hw, cut_app (fun q => absurd (ha _ q) (by decide)) (fun q => absurd (ha _ q) (by decide))]
    rw [List.dropWhile_append_of_pos (fun x hx => by have := ha x hx; simp at this ⊢; exact this.1)]
    rcases hd with rfl | ⟨x, d, rfl, hx⟩
    · rfl
    · simp at hx
      rcases hx with rfl | rfl | rfl
      · rw [cut_cons (by decide) (by decide)]; rfl
      · unfold cut; rfl
      · unfold cut; rfl
  · rw [if_neg h, if_neg (fun q => h ((cut_take2 r).mp q))]
theorem tw_no {w : List Nat} {x : Nat} (hx : x ∈ w.takeWhile (fun c => decide (c ∉ [47, 63, 35]))) : x ∉ [47, 63, 35] := of_decide_eq_true (List.all_eq_true.mp (List.all_takeWhile (p := fun c => decide (c ∉ [47, 63, 35]))) x hx)
theorem nU_pre (r : List Nat) : ∃ a, r = a ++ nU r ∧ 35 ∉ a ∧ 63 ∉ a := by
  unfold nU
  by_cases h : r.take 2 = [47, 47]
  · rw [if_pos h]
    obtain ⟨w, rfl⟩ := take2 h
    refine ⟨47 :: 47 :: w.takeWhile (fun c => decide (c ∉ [47, 63, 35])), ?_, ?_, ?_⟩
    · show _ = 47 :: 47 :: (w.takeWhile _ ++ w.dropWhile _)
      rw [List.takeWhile_append_dropWhile]
    · intro q
      rcases List.mem_cons.mp q with q | q
      · exact absurd q (by decide)
      rcases List.mem_cons.mp q with q | q
      · exact absurd q (by decide)
      · exact absurd (tw_no q) (by decide)
    · intro q
      rcases List.mem_cons.mp q with q | q
      · exact absurd q (by decide)
      rcases List.mem_cons.mp q with q | q
      · exact absurd q (by decide)
      · exact absurd (tw_no q) (by decide)
  · rw [if_neg h]; exact ⟨[], rfl, by simp, by simp⟩
theorem pR_pre (v : List Nat) : ∃ a, v = a ++ pR v ∧ 35 ∉ a ∧ 63 ∉ a := by
  unfold pR
  by_cases h : Named v
  · rw [if_pos h]
    obtain ⟨n1, n2⟩ := scs_no h.2.2
    refine ⟨bef 58 v ++ [58], ?_, ?_, ?_⟩
    · rw [List.append_assoc]; exact split_at h.1
    · simp [n1]
    · simp [n2]
  · rw [if_neg h]; exact ⟨[], rfl, by simp, by simp⟩
theorem nQ_eq (v : List Nat) : aft 63 (bef 35 (nU (pR v))) = aft 63 (bef 35 v) ∧ aft 35 (nU (pR v)) = aft 35 v := by
  obtain ⟨a, e1, a1, a2⟩ := pR_pre v
  obtain ⟨b, e2, b1, b2⟩ := nU_pre (pR v)
  have e : v = (a ++ b) ++ nU (pR v) := by rw [List.append_assoc, ← e2, ← e1]
  have n1 : 35 ∉ a ++ b := by simp [a1, b1]
  have n2 : 63 ∉ a ++ b := by simp [a2, b2]
  generalize nU (pR v) = d at e
  subst e
  rw [bef_app n1, aft_app n2, aft_app n1]
  exact ⟨rfl, rfl⟩
end Mine
end

/-! N2 -/
section
set_option linter.unusedSimpArgs false
set_option linter.unusedVariables false
namespace Mine
theorem nil_hosts : [] ∉ hosts := by decide
theorem take2_1 {u : List Nat} (h : u.take 2 = [47, 47]) : u ≠ [] ∧ u.take 1 = [47] := by
  match u, h with
  | a :: b :: w, h => simp at h; exact ⟨List.cons_ne_nil _ _, by simp [h.1]⟩
theorem usp1_eq {sc ne u : List Nat} (h1 : ne ≠ [] → u = [] ∨ u.take 1 = [47]) (h2 : sc ≠ [] → (sc ∈ uses ↔ sc ∈ hosts)) :
    usp1 sc ne u = (if sc ≠ [] then sc ++ [58] else []) ++ (if ne ≠ [] ∨ sc ∈ hosts ∨ (rooted sc u).take 2 = [47, 47] then [47, 47] else []) ++ ne ++ rooted sc u := by
  have hs0 : sc ∈ hosts → sc ≠ [] := fun h e => nil_hosts (e ▸ h)
  by_cases hsc : sc = []
  · subst hsc
    have hr : rooted [] u = u := if_neg fun h => nil_hosts h.1
    rw [hr]
    unfold usp1
    by_cases hn : ne = []
    · subst hn
      by_cases h3 : u.take 2 = [47, 47]
      · have := take2_1 h3
        simp [nil_hosts, h3, this.2]
      · simp [nil_hosts, h3]
    · rcases h1 hn with hu | hu
      · subst hu; simp [nil_hosts, hn]
      · simp [nil_hosts, hn, hu]
  · have h2 := h2 hsc
    by_cases hh : sc ∈ hosts
    · by_cases hu : u ≠ [] ∧ u.take 1 ≠ [47]
      · have hr : rooted sc u = 47 :: u := if_pos ⟨hh, hu⟩
        rw [hr]
        unfold usp1
        simp [hsc, hh, h2, hu]
      · have hr : rooted sc u = u := if_neg fun h => hu h.2
        rw [hr]
        unfold usp1
        rw [if_pos (.inr (.inl ⟨hsc, h2.mpr hh⟩)), if_neg hu]
        simp [hsc, hh]
    · have hr : rooted sc u = u := if_neg fun h => hh h.1
      rw [hr]
      unfold usp1
      by_cases hn : ne = []
      · subst hn
        by_cases h3 : u.take 2 = [47, 47]
        · have := take2_1 h3
          simp [hsc, hh, h2, h3, this.2]
        · simp [hsc, hh, h2, h3]
      · rcases h1 hn with hu | hu
        · subst hu; simp [hsc, hh, hn]
        · simp [hsc, hh, hn, hu]
theorem usp_eq {sc ne u q f : List Nat} (h1 : ne ≠ [] → u = [] ∨ u.take 1 = [47]) (h2 : sc ≠ [] → (sc ∈ uses ↔ sc ∈ hosts)) : usp sc ne u q f = lput sc ne u q f := by
  unfold usp lput
  rw [usp1_eq h1 h2]
  by_cases hq : q = [] <;> by_cases hf : f = [] <;> simp [hq, hf]
theorem pP_root (r : List Nat) : pA r ≠ [] → pP r = [] ∨ (pP r).take 1 = [47] := by
  unfold pA pP
  by_cases h : r.take 2 = [47, 47]
  · rw [if_pos h, if_pos h]
    intro _
    cases hd : (r.drop 2).dropWhile (· != 47) with
    | nil => exact .inl rfl
    | cons x d =>
      refine .inr ?_
      have := List.head_dropWhile_not (p := (· != 47)) (l := r.drop 2) (by rw [hd]; exact List.cons_ne_nil _ _)
      simp only [hd, List.head_cons] at this
      simp at this
      rw [this]; rfl
  · rw [if_neg h]; intro q; exact absurd rfl q
end Mine
end

/-! N3 -/
section
set_option linter.unusedSimpArgs false
set_option linter.unusedVariables false
namespace Mine
def body (sc au pa : List Nat) : List Nat :=
  (if sc ≠ [] then sc ++ [58] else []) ++ (if au ≠ [] ∨ sc ∈ hosts ∨ (rooted sc pa).take 2 = [47, 47] then [47, 47] else []) ++ au ++ rooted sc pa
def Rt (l : List Nat) : Prop := l = [] ∨ l.take 1 = [47]
theorem low_scs {c : Nat} (h : c ∈ scs) : low c ∈ scs ∧ low (low c) = low c ∧ low c ≠ 58 := by
  revert h
  have : ∀ c ∈ scs, low c ∈ scs ∧ low (low c) = low c ∧ low c ≠ 58 := by decide +kernel
  exact this c
theorem sc_facts (t : List Nat) : (∀ c ∈ pS t, c ∈ scs ∧ low c = c ∧ c ≠ 58) := by
  unfold pS
  split
  · next h =>
    intro c hc
    obtain ⟨d, hd, rfl⟩ := List.mem_map.mp hc
    have := low_scs (h.2.2 d hd)
    exact ⟨this.1, this.2.1, this.2.2⟩
  · intro c hc; cases hc
theorem slash_unnamed {b : List Nat} (h : b.take 1 = [47]) : ¬ Named b := by
  rintro ⟨h1, h2, h3⟩
  match b, h with
  | x :: r, h =>
    simp at h
    subst h
    exact absurd (h3 47 (by unfold bef; simp)) (by decide)
theorem nil_unnamed : ¬ Named [] := fun h => by cases h.1
theorem rt_unnamed {b : List Nat} (h : Rt b) : ¬ Named b := by
  rcases h with rfl | h
  · exact nil_unnamed
  · exact slash_unnamed h
theorem sc_body {sc rest : List Nat} (hne : sc ≠ []) (h : ∀ c ∈ sc, c ∈ scs ∧ low c = c ∧ c ≠ 58) : pS (sc ++ 58 :: rest) = sc ∧ pR (sc ++ 58 :: rest) = rest := by
  have h58 : 58 ∉ sc := fun q => (h _ q).2.2 rfl
  have hb : bef 58 (sc ++ 58 :: rest) = sc := bef_here h58
  have hn : Named (sc ++ 58 :: rest) := ⟨by simp, by rw [hb]; exact hne, by rw [hb]; exact fun c hc => (h c hc).1⟩
  constructor
  · unfold pS; rw [if_pos hn, hb]
    have : sc.map low = sc.map id := List.map_congr_left fun c hc => (h c hc).2.1
    rw [this, List.map_id]
  · unfold pR; rw [if_pos hn, aft_here h58]
theorem au_body {au rp : List Nat} (ha : 47 ∉ au) (hr : Rt rp) : pA ([47, 47] ++ (au ++ rp)) = au ∧ pP ([47, 47] ++ (au ++ rp)) = rp := by
  have e1 : bef 47 (au ++ rp) = au := by
    rcases hr with rfl | h
    · rw [List.append_nil, bef_of_not ha]
    · match rp, h with
      | x :: r, h => simp at h; subst h; exact bef_here ha
  have h2 : ([47, 47] ++ (au ++ rp)).take 2 = [47, 47] := rfl
  unfold pA pP
  rw [if_pos h2, if_pos h2]
  refine ⟨e1, ?_⟩
  show (au ++ rp).dropWhile (· != 47) = rp
  rw [dropWhile_eq_drop]
  show (au ++ rp).drop (bef 47 (au ++ rp)).length = rp
  rw [e1, List.drop_left]
theorem pA_no47 (r : List Nat) : 47 ∉ pA r := by
  unfold pA
  split
  · exact bef_not 47 _
  · simp
theorem pP_rt {r : List Nat} (h : r.take 2 = [47, 47]) : Rt (pP r) := by
  unfold pP
  rw [if_pos h]
  cases hd : (r.drop 2).dropWhile (· != 47) with
  | nil => exact .inl rfl
  | cons x d =>
    refine .inr ?_
    have := List.head_dropWhile_not (p := (· != 47)) (l := r.drop 2) (by rw [hd]; exact List.cons_ne_nil _ _)
    simp only [hd, List.head_cons] at this
    simp at this
    rw [this]; rfl
theorem rooted_rt {sc pa : List Nat} (h : sc ∈ hosts) : Rt (rooted sc pa) := by
  unfold rooted
  split
  · exact .inr rfl
  · next hn =>
    by_cases hp : pa = []
    · exact .inl hp
    · refine .inr ?_
      by_cases h1 : pa.take 1 = [47]
      · exact h1
      · exact absurd ⟨h, hp, h1⟩ hn
/-- the put text, read again -/
theorem reparse (t : List Nat) : pS (body (pS t) (pA (pR t)) (pP (pR t))) = pS t ∧ pA (pR (body (pS t) (pA (pR t)) (pP (pR t)))) = pA (pR t) ∧
    pP (pR (body (pS t) (pA (pR t)) (pP (pR t)))) = rooted (pS t) (pP (pR t)) := by
  have hsc := sc_facts t
  have h47 := pA_no47 (pR t)
  have hA : pA (pR t) ≠ [] → (pR t).take 2 = [47, 47] := fun h => by
    unfold pA at h
    split at h
    · assumption
    · exact absurd rfl h
  have hun : pS t = [] → (pR t).take 2 ≠ [47, 47] → ¬ Named (pP (pR t)) := fun h h2 => by
    have hn : ¬ Named t := fun q => by
      unfold pS at h; rw [if_pos q] at h
      exact q.2.1 (List.map_eq_nil_iff.mp h)
    unfold pP; rw [if_neg h2]; unfold pR; rw [if_neg hn]; exact hn
  have hRt : (pR t).take 2 = [47, 47] → Rt (pP (pR t)) := pP_rt
  generalize pS t = sc at *
  generalize pA (pR t) = au at *
  generalize hpa : pP (pR t) = pa at *
  by_cases hs : au ≠ [] ∨ sc ∈ hosts ∨ (rooted sc pa).take 2 = [47, 47]
  · have hr : Rt (rooted sc pa) := by
      rcases hs with h | h | h
      · have := hRt (hA h)
        by_cases hh : sc ∈ hosts
        · exact rooted_rt hh
        · have e : rooted sc pa = pa := if_neg fun q => hh q.1
          rw [e]; exact this
      · exact rooted_rt h
      · exact .inr (take2_1 h).2
    obtain ⟨b1, b2⟩ := au_body h47 hr
    unfold body
    rw [if_pos hs]
    by_cases hsc0 : sc = []
    · rw [if_neg (by simpa using hsc0)]
      have hn : ¬ Named ([] ++ [47, 47] ++ au ++ rooted sc pa) := slash_unnamed rfl
      have e1 : pS ([] ++ [47, 47] ++ au ++ rooted sc pa) = [] := if_neg hn
      have e2 : pR ([] ++ [47, 47] ++ au ++ rooted sc pa) = [47, 47] ++ (au ++ rooted sc pa) := (if_neg hn).trans (by simp)
      rw [e1, e2, b1, b2]
      exact ⟨hsc0.symm, rfl, rfl⟩
    · rw [if_pos hsc0]
      have e : sc ++ [58] ++ [47, 47] ++ au ++ rooted sc pa = sc ++ 58 :: ([47, 47] ++ (au ++ rooted sc pa)) := by simp
      rw [e, (sc_body hsc0 hsc).1, (sc_body hsc0 hsc).2, b1, b2]
      exact ⟨rfl, rfl, rfl⟩
  · have hau : au = [] := Decidable.of_not_not fun h => hs (.inl h)
    have hh : sc ∉ hosts := fun h => hs (.inr (.inl h))
    have hr : rooted sc pa = pa := if_neg fun q => hh q.1
    have h2 : pa.take 2 ≠ [47, 47] := fun h => hs (.inr (.inr (by rw [hr]; exact h)))
    unfold body
    rw [if_neg hs, hr, hau]
    have hq : pA pa = [] ∧ pP pa = pa := by
      constructor
      · unfold pA; rw [if_neg h2]
      · unfold pP; rw [if_neg h2]
    by_cases hsc0 : sc = []
    · rw [if_neg (by simpa using hsc0)]
      have hn : ¬ Named ([] ++ [] ++ [] ++ pa) := by
        show ¬ Named pa
        by_cases ht : (pR t).take 2 = [47, 47]
        · exact rt_unnamed (hRt ht)
        · exact hun hsc0 ht
      have e1 : pS ([] ++ [] ++ [] ++ pa) = [] := if_neg hn
      have e2 : pR ([] ++ [] ++ [] ++ pa) = pa := if_neg hn
      rw [e1, e2, hq.1, hq.2]
      exact ⟨hsc0.symm, rfl, rfl⟩
    · rw [if_pos hsc0]
      have e : sc ++ [58] ++ [] ++ [] ++ pa = sc ++ 58 :: pa := by simp
      rw [e, (sc_body hsc0 hsc).1, (sc_body hsc0 hsc).2, hq.1, hq.2]
      exact ⟨rfl, rfl, rfl⟩
end Mine
end

/-! N4 -/
section
set_option linter.unusedSimpArgs false
set_option linter.unusedVariables false
namespace Mine
theorem cut_no (l : List Nat) : 35 ∉ cut l ∧ 63 ∉ cut l := ⟨fun h => bef_not 35 l (bef_sub h), bef_not 63 _⟩
theorem pR_sub {t : List Nat} {x : Nat} (h : x ∈ pR t) : x ∈ t := by
  unfold pR at h; split at h
  · exact aft_sub h
  · exact h
theorem pA_sub {r : List Nat} {x : Nat} (h : x ∈ pA r) : x ∈ r := by
  unfold pA at h; split at h
  · exact List.mem_of_mem_drop (bef_sub h)
  · cases h
theorem pP_sub {r : List Nat} {x : Nat} (h : x ∈ pP r) : x ∈ r := by
  unfold pP at h; split at h
  · exact List.mem_of_mem_drop ((List.dropWhile_sublist _).subset h)
  · exact h
theorem body_mem {sc au pa : List Nat} {x : Nat} (h : x ∈ body sc au pa) : x ∈ sc ∨ x = 58 ∨ x = 47 ∨ x ∈ au ∨ x ∈ pa := by
  unfold body at h
  rcases List.mem_append.mp h with h | h
  · rcases List.mem_append.mp h with h | h
    · rcases List.mem_append.mp h with h | h
      · split at h
        · rcases List.mem_append.mp h with h | h
          · exact .inl h
          · exact .inr (.inl (List.mem_singleton.mp h))
        · cases h
      · split at h
        · simp at h; exact .inr (.inr (.inl h))
        · cases h
    · exact .inr (.inr (.inr (.inl h)))
  · unfold rooted at h
    split at h
    · rcases List.mem_cons.mp h with h | h
      · exact .inr (.inr (.inl h))
      · exact .inr (.inr (.inr (.inr h)))
    · exact .inr (.inr (.inr (.inr h)))
theorem put_eq (sc au pa q f : List Nat) : lput sc au pa q f = body sc au pa ++ ((if q ≠ [] then [63] ++ q else []) ++ (if f ≠ [] then [35] ++ f else [])) := by
  unfold lput body
  simp only [List.append_assoc]
theorem put_cut {b q f : List Nat} (h1 : 35 ∉ b) (h2 : 63 ∉ b) (h3 : 35 ∉ q) :
    cut (b ++ ((if q ≠ [] then [63] ++ q else []) ++ (if f ≠ [] then [35] ++ f else []))) = b ∧
    aft 63 (bef 35 (b ++ ((if q ≠ [] then [63] ++ q else []) ++ (if f ≠ [] then [35] ++ f else [])))) = q ∧
    aft 35 (b ++ ((if q ≠ [] then [63] ++ q else []) ++ (if f ≠ [] then [35] ++ f else []))) = f := by
  have hq : 35 ∉ (if q ≠ [] then [63] ++ q else []) := by
    split
    · simpa using h3
    · simp
  have e1 : bef 35 (b ++ ((if q ≠ [] then [63] ++ q else []) ++ (if f ≠ [] then [35] ++ f else []))) = b ++ (if q ≠ [] then [63] ++ q else []) := by
    rw [bef_app h1, bef_app hq]
    by_cases hf : f = []
    · subst hf; simp [bef]
    · rw [if_pos hf]; show b ++ (_ ++ bef 35 (35 :: f)) = _; rw [bef_cons, List.append_nil]
  refine ⟨?_, ?_, ?_⟩
  · unfold cut
    rw [e1, bef_app h2]
    by_cases hf : q = []
    · subst hf; simp [bef]
    · rw [if_pos hf]; show b ++ bef 63 (63 :: q) = _; rw [bef_cons, List.append_nil]
  · rw [e1, aft_app h2]
    by_cases hf : q = []
    · subst hf; simp [aft]
    · rw [if_pos hf]; exact aft_cons 63 q
  · rw [aft_app h1, aft_app hq]
    by_cases hf : f = []
    · subst hf; simp [aft]
    · rw [if_pos hf]; exact aft_cons 35 f
/-- the put text's five parts -/
theorem put_parts {u v : List Nat} (hv : v = lput (pS (pT u)) (pA (pR (pT u))) (pP (pR (pT u))) (pQ u) (pF u)) (hc : clean v = v) :
    pS (clean v) = pS (pT u) ∧ nA (pR (clean v)) = pA (pR (pT u)) ∧ cut (nU (pR (clean v))) = rooted (pS (pT u)) (pP (pR (pT u))) ∧ aft 63 (bef 35 (nU (pR (clean v)))) = pQ u ∧ aft 35 (nU (pR (clean v))) = pF u := by
  obtain ⟨n1, n2⟩ := cut_no (clean u)
  have hb : ∀ x ∈ body (pS (pT u)) (pA (pR (pT u))) (pP (pR (pT u))), x ≠ 35 ∧ x ≠ 63 := by
    intro x hx
    have key : ∀ y ∈ pT u, y ≠ 35 ∧ y ≠ 63 := fun y hy => ⟨fun e => n1 (e ▸ hy), fun e => n2 (e ▸ hy)⟩
    rcases body_mem hx with h | h | h | h | h
    · have := (sc_facts (pT u) x h).1
      exact ⟨fun e => absurd (e ▸ this) (by decide), fun e => absurd (e ▸ this) (by decide)⟩
    · subst h; decide
    · subst h; decide
    · exact key x (pR_sub (pA_sub h))
    · exact key x (pR_sub (pP_sub h))
  have h3 : 35 ∉ pQ u := fun h => bef_not 35 (clean u) (aft_sub h)
  obtain ⟨c1, c2, c3⟩ := put_cut (f := pF u) (fun h => (hb _ h).1 rfl) (fun h => (hb _ h).2 rfl) h3
  rw [← put_eq, ← hv] at c1 c2 c3
  obtain ⟨r1, r2, r3⟩ := reparse (pT u)
  obtain ⟨_, s1, s2⟩ := named_cut v
  obtain ⟨t1, t2⟩ := nQ_eq v
  rw [hc, ← s1, nA_eq, nP_eq, ← s2, t1, t2, c1, c2, c3]
  exact ⟨r1, r2, r3, rfl, rfl⟩
end Mine
end

/-! N5 -/
section
set_option linter.unusedSimpArgs false
set_option linter.unusedVariables false
namespace Mine
def Hd (l : List Nat) : Prop := l = [] ∨ ∃ x r, l = x :: r ∧ 33 ≤ x
theorem clean_id {v : List Nat} (h1 : ∀ c ∈ v, c ∉ [9, 13, 10]) (h2 : Hd v) : clean v = v := by
  unfold clean
  have e : (v.dropWhile fun c => decide (c < 33)) = v := by
    rcases h2 with rfl | ⟨x, r, rfl, hx⟩
    · rfl
    · rw [List.dropWhile_cons_of_neg]; simp; omega
  rw [e]
  exact List.filter_eq_self.mpr fun c hc => decide_eq_true (h1 c hc)
theorem clean_no {u : List Nat} {c : Nat} (h : c ∈ clean u) : c ∉ [9, 13, 10] := of_decide_eq_true (List.mem_filter.mp h).2
theorem clean_sub {u : List Nat} {c : Nat} (h : c ∈ clean u) : c ∈ u := (List.dropWhile_sublist _).subset (List.mem_filter.mp h).1
theorem clean_hd (u : List Nat) : Hd (clean u) := by
  unfold clean
  cases hd : u.dropWhile fun c => decide (c < 33) with
  | nil => exact .inl rfl
  | cons x r =>
    have := List.head_dropWhile_not (p := fun c => decide (c < 33)) (l := u) (by rw [hd]; exact List.cons_ne_nil _ _)
    simp only [hd, List.head_cons] at this
    have hx : 33 ≤ x := by have := of_decide_eq_false this; omega
    refine .inr ⟨x, _, List.filter_cons_of_pos ?_, hx⟩
    simp
    omega
theorem cut_hd {v : List Nat} (h : Hd v) : Hd (cut v) := by
  rcases h with rfl | ⟨x, r, rfl, hx⟩
  · exact .inl rfl
  · by_cases h1 : x = 35
    · subst h1; exact .inl rfl
    · by_cases h2 : x = 63
      · subst h2; exact .inl rfl
      · rw [cut_cons h1 h2]; exact .inr ⟨x, _, rfl, hx⟩
theorem hd_app {a b : List Nat} (h : Hd a) (g : Hd b) : Hd (a ++ b) := by
  rcases h with rfl | ⟨x, r, rfl, hx⟩
  · exact g
  · exact .inr ⟨x, r ++ b, rfl, hx⟩
theorem scs_ge {c : Nat} (h : c ∈ scs) : 33 ≤ c ∧ c ∉ [9, 13, 10] ∧ c < 128 := by
  revert h
  have : ∀ c ∈ scs, 33 ≤ c ∧ c ∉ [9, 13, 10] ∧ c < 128 := by decide +kernel
  exact this c
theorem tail_hd (q f : List Nat) : Hd ((if q ≠ [] then [63] ++ q else []) ++ (if f ≠ [] then [35] ++ f else [])) := by
  refine hd_app ?_ ?_
  · split
    · exact .inr ⟨63, q, rfl, by decide⟩
    · exact .inl rfl
  · split
    · exact .inr ⟨35, f, rfl, by decide⟩
    · exact .inl rfl
theorem rt_hd {l : List Nat} (h : Rt l) : Hd l := by
  rcases h with rfl | h
  · exact .inl rfl
  · match l, h with
    | x :: r, h => simp at h; subst h; exact .inr ⟨47, r, rfl, by decide⟩
theorem put_hd (u : List Nat) (q f : List Nat) : Hd (lput (pS (pT u)) (pA (pR (pT u))) (pP (pR (pT u))) q f) := by
  rw [put_eq]
  refine hd_app ?_ (tail_hd q f)
  have hsc := sc_facts (pT u)
  have hth : Hd (pT u) := cut_hd (clean_hd u)
  have hA : pA (pR (pT u)) ≠ [] → (pR (pT u)).take 2 = [47, 47] := fun h => by
    unfold pA at h
    split at h
    · assumption
    · exact absurd rfl h
  have hP : pS (pT u) = [] → Hd (pP (pR (pT u))) := fun h => by
    by_cases ht : (pR (pT u)).take 2 = [47, 47]
    · exact rt_hd (pP_rt ht)
    · have hn : ¬ Named (pT u) := fun q => by
        unfold pS at h; rw [if_pos q] at h
        exact q.2.1 (List.map_eq_nil_iff.mp h)
      have e : pP (pR (pT u)) = pT u := (if_neg ht).trans (if_neg hn)
      rw [e]; exact hth
  generalize pS (pT u) = sc at *
  generalize pA (pR (pT u)) = au at *
  generalize pP (pR (pT u)) = pa at *
  unfold body
  by_cases hsc0 : sc = []
  · subst hsc0
    have hr : rooted [] pa = pa := if_neg fun h => nil_hosts h.1
    rw [if_neg (by simp), hr]
    split
    · exact .inr ⟨47, [47] ++ au ++ pa |>.drop 0, by simp, by decide⟩
    · next hs =>
      have hau : au = [] := Decidable.of_not_not fun h => hs (.inl h)
      rw [hau]; exact hP rfl
  · rw [if_pos hsc0]
    match sc, hsc0, hsc with
    | x :: r, _, hsc =>
      have := (scs_ge (hsc x List.mem_cons_self).1).1
      exact .inr ⟨x, _, by simp only [List.cons_append]; rfl, this⟩
theorem put_mem {sc au pa q f : List Nat} {x : Nat} (h : x ∈ lput sc au pa q f) : x ∈ sc ∨ x ∈ [58, 47, 63, 35] ∨ x ∈ au ∨ x ∈ pa ∨ x ∈ q ∨ x ∈ f := by
  rw [put_eq] at h
  rcases List.mem_append.mp h with h | h
  · rcases body_mem h with h | h | h | h | h
    · exact .inl h
    · subst h; exact .inr (.inl (by decide))
    · subst h; exact .inr (.inl (by decide))
    · exact .inr (.inr (.inl h))
    · exact .inr (.inr (.inr (.inl h)))
  · rcases List.mem_append.mp h with h | h
    · split at h
      · rcases List.mem_cons.mp h with h | h
        · subst h; exact .inr (.inl (by decide))
        · exact .inr (.inr (.inr (.inr (.inl h))))
      · cases h
    · split at h
      · rcases List.mem_cons.mp h with h | h
        · subst h; exact .inr (.inl (by decide))
        · exact .inr (.inr (.inr (.inr (.inr h))))
      · cases h
theorem parts_sub {u : List Nat} {x : Nat} (h : x ∈ pA (pR (pT u)) ∨ x ∈ pP (pR (pT u)) ∨ x ∈ pQ u ∨ x ∈ pF u) : x ∈ clean u := by
  have hT : ∀ y ∈ pT u, y ∈ clean u := fun y hy => bef_sub (bef_sub hy)
  rcases h with h | h | h | h
  · exact hT _ (pR_sub (pA_sub h))
  · exact hT _ (pR_sub (pP_sub h))
  · exact bef_sub (aft_sub h)
  · exact aft_sub h
theorem put_clean (u : List Nat) : clean (lput (pS (pT u)) (pA (pR (pT u))) (pP (pR (pT u))) (pQ u) (pF u)) = lput (pS (pT u)) (pA (pR (pT u))) (pP (pR (pT u))) (pQ u) (pF u) := by
  refine clean_id (fun c hc => ?_) (put_hd u _ _)
  rcases put_mem hc with h | h | h
  · exact (scs_ge (sc_facts _ c h).1).2.1
  · exact (by decide : ∀ c ∈ [58, 47, 63, 35], c ∉ [9, 13, 10]) c h
  · exact clean_no (parts_sub h)
theorem put_asc {u : List Nat} (ha : ∀ c ∈ u, c < 128) : ∀ c ∈ lput (pS (pT u)) (pA (pR (pT u))) (pP (pR (pT u))) (pQ u) (pF u), c < 128 := by
  intro c hc
  rcases put_mem hc with h | h | h
  · exact (scs_ge (sc_facts _ c h).1).2.2
  · exact (by decide : ∀ c ∈ [58, 47, 63, 35], c < 128) c h
  · exact ha c (clean_sub (parts_sub h))
end Mine
end

/-! N6 -/
section
set_option linter.unusedSimpArgs false
set_option linter.unusedVariables false
open PySem PySem.W PySem.NumText PyProof.Rows
namespace Mine
theorem dig_eq (m : Nat) : dig (m : Int) = (Nat.toDigits 10 m).map Char.toNat := KIN.signs_num m
theorem dig_digits (m : Nat) : ∀ c ∈ dig (m : Int), 48 ≤ c ∧ c ≤ 57 := by
  intro c hc
  rw [dig_eq] at hc
  obtain ⟨ch, hch, e⟩ := List.mem_map.mp hc
  have r := digit_range (Nat.isDigit_of_mem_toDigits (by decide) (by decide) hch)
  rw [← e]
  exact r
theorem dig_ne (m : Nat) : dig (m : Int) ≠ [] := by
  rw [dig_eq]
  intro e
  have h := toDigits_len_ge 10 m
  rw [List.map_eq_nil_iff.mp e] at h
  exact absurd h (by decide)
theorem dig_val (m : Nat) : digitsVal (dig (m : Int)) = m := by rw [dig_eq]; exact KIN.val_back m
/-- user and password as they stand ahead of the @ -/
def ahd (us pw : Option (List Nat)) : List Nat := us.getD [] ++ (match pw with | some x => 58 :: x | none => [])
def prt (po : Option Int) : List Nat := match po with | some p => 58 :: dig p | none => []
theorem mkn_eq {us pw : Option (List Nat)} {h : List Nat} {po : Option Int} (hu : us ≠ some []) :
    mkn us pw (some h) po = (if ahd us pw ≠ [] then ahd us pw ++ [64] else []) ++ h ++ prt po := by
  unfold mkn ahd prt
  cases pw with
  | some x => cases us <;> cases po <;> simp
  | none =>
    cases us with
    | none => cases po <;> simp
    | some u =>
      have : u ≠ [] := fun e => hu (e ▸ rfl)
      cases po <;> simp [this]
theorem round {us pw : Option (List Nat)} {h : List Nat} {po : Option Int} (hu : us ≠ some []) (h1 : ∀ l, us = some l → 58 ∉ l) (hh : h ≠ []) (h2 : 58 ∉ h) (h3 : 64 ∉ h) (hp : ∀ p, po = some p → ∃ m : Nat, p = (m : Int)) :
    aU (mkn us pw (some h) po) = us ∧ aW (mkn us pw (some h) po) = pw ∧ aH (mkn us pw (some h) po) = some h ∧ aF (mkn us pw (some h) po) = (prt po).drop 1 := by
  rw [mkn_eq hu]
  have h4 : 64 ∉ h ++ prt po := by
    intro q
    rcases List.mem_append.mp q with q | q
    · exact h3 q
    · unfold prt at q
      cases po with
      | none => cases q
      | some p =>
        obtain ⟨m, rfl⟩ := hp p rfl
        rcases List.mem_cons.mp q with q | q
        · exact absurd q (by decide)
        · have := dig_digits m _ q; omega
  have hR : raft 64 ((if ahd us pw ≠ [] then ahd us pw ++ [64] else []) ++ h ++ prt po) = h ++ prt po ∧ rbef 64 ((if ahd us pw ≠ [] then ahd us pw ++ [64] else []) ++ h ++ prt po) = ahd us pw := by
    by_cases ha : ahd us pw = []
    · rw [if_neg (by simpa using ha), ha, List.nil_append]
      exact ⟨raft_of_not h4, rbef_of_not h4⟩
    · rw [if_pos ha]
      have e : ahd us pw ++ [64] ++ h ++ prt po = ahd us pw ++ 64 :: (h ++ prt po) := by simp
      rw [e]
      exact ⟨raft_here h4, rbef_here h4⟩
  have hB : bef 58 (h ++ prt po) = h ∧ aft 58 (h ++ prt po) = (prt po).drop 1 := by
    unfold prt
    cases po with
    | none => simp only [List.append_nil]; exact ⟨bef_of_not h2, aft_of_not h2⟩
    | some p => exact ⟨bef_here h2, aft_here h2⟩
  have hus : 58 ∉ us.getD [] := by
    cases us with
    | none => simp
    | some l => exact h1 l rfl
  unfold aU aW aH aF
  rw [hR.1, hR.2, hB.1, hB.2]
  refine ⟨?_, ?_, if_pos hh, rfl⟩
  · have e : bef 58 (ahd us pw) = us.getD [] := by
      unfold ahd
      cases pw with
      | some x => exact bef_here hus
      | none => rw [List.append_nil]; exact bef_of_not hus
    rw [e]
    cases us with
    | none => rfl
    | some l => exact if_pos (fun q => hu (congrArg some q))
  · unfold ahd
    cases pw with
    | some x =>
      show (if 58 ∈ us.getD [] ++ 58 :: x then some (aft 58 (us.getD [] ++ 58 :: x)) else none) = some x
      rw [if_pos (by simp), aft_here hus]
    | none =>
      rw [List.append_nil, if_neg hus]
theorem aU_no (a : List Nat) : aU a ≠ some [] ∧ ∀ l, aU a = some l → 58 ∉ l := by
  unfold aU nz
  by_cases h : bef 58 (rbef 64 a) = []
  · rw [if_neg (by simpa using h)]; exact ⟨by simp, fun l q => by cases q⟩
  · rw [if_pos h]; exact ⟨fun q => h (Option.some.inj q), fun l q => by cases q; exact bef_not 58 _⟩
theorem aH_no {a h : List Nat} (e : aH a = some h) : h ≠ [] ∧ 58 ∉ h ∧ 64 ∉ h := by
  unfold aH nz at e
  split at e
  · next hn => cases e; exact ⟨hn, bef_not 58 _, fun q => raft_not 64 a (bef_sub q)⟩
  · cases e
end Mine
end

/-! Y0 -/
section
open PySem PySem.W PySem.Calls PyProof.Rows
set_option linter.unusedVariables false
set_option maxRecDepth 100000
set_option maxHeartbeats 8000000
namespace Mine
section
variable {prog : Program} {w : World} {s : Shared} {K : Frag} {p : Program} {loose : List PySem.Str} {mean : ExcName → Option Value} {mg mb : PySem.Str → Option Value}
  {R : Result → Shared → Prop} {name qual : PySem.Str} {params : Arguments} {body : List Stmt} {scope : Scope} {dV kV doc pm cdv ct oc : Value} {an od : Option Addr} {osl : Array (Option Value)} {f : Addr} {args : Args} {binds : List (PySem.Str × Value)}
/-- the claim's own call -/
theorem code_topC (X : K.In s.heap) (T : Top p loose mean mg mb s.heap)
    (ho : K.lookup f = some ⟨oc, od, .func (fnOf name qual params body scope dV kV doc pm an cdv ct), osl⟩) (hcd : codeIn K cdv qual = true)
    (hbind : BindsTo s (fnOf name qual params body scope dV kV doc pm an cdv ct) args binds) (hloc : ∀ y ∈ binds, scope.names.lookup y.1 = some .local)
    (h : ∀ L h₁, Fr s.heap L h₁ (fun y => binds.reverse.lookup y) → News s.heap L h₁ [] → Below callerA s.heap [] s.heap → 
      wpC (model prog w) (ktrTop (callerA.deeper (envX qual scope L f cdv [])).depth (callerA.deeper (envX qual scope L f cdv [])).units (callerA.deeper (envX qual scope L f cdv [])).guards qual scope L f cdv [] []) (execs body (envX qual scope L f cdv []))
        (fun fl s' => R (.ok (.ret (match fl with | .ret v => v | _ => .none))) s')
        (fun e s' => wpAny (model prog w) (callerA.deeper (envX qual scope L f cdv [])) (leaving (envX qual scope L f cdv []) e) (fun _ s'' => R (.error e) s'') (fun e' s'' => R (.error e') s'') s')
        { s with heap := h₁, toks := s.toks + binds.length })
    (hco : scope.isCoroutine = false) (hgen : scope.isGenerator = false) (hk : scope.kind = .function)
    (hcell : ∀ x ∈ scope.names, x.2 ≠ .cell) : codeC (model prog w) callerA (.call (.ref f) args) R s := by
  refine codeC_call_def (fd := fnOf name qual params body scope dV kV doc pm an cdv ct) (body := body) (binds := binds) (by decide) (X _ _ ho) rfl T.nolimit (codeRec_of X hcd) rfl hbind hcell hloc (fun h₁ hns hk₁ => ?_) hco hgen hk
  exact h s.heap.objs.size h₁ ⟨hns, hk₁, Nat.le_refl _⟩ (fun p hp => nomatch hp) (below_caller _)
end

theorem top_dp {env : Env} : (callerA.deeper env).depth + 2 < recursionLimit := by rw [depth_deeper, depth_caller]; decide
theorem top_un {env : Env} : (callerA.deeper env).units + 200 < cLine := by rw [units_deeper, units_caller]; decide
theorem top_un64 {env : Env} : (callerA.deeper env).units + 64 < cLine := by rw [units_deeper, units_caller]; decide
/-- texts of a made list -/
def TxtL (ys : List Value) (ls : List (List Nat)) : Prop := CarriedAll ys (ls.map fun l => PyData.str (S l))
def PcEl (news : List (Addr × Obj)) (r : List Nat) (y : Value) (news' : List (Addr × Obj)) : Prop := news' = news ∧ ∃ t : Tok, y = .str (S r) t
theorem pcElX {news : List (Addr × Obj)} {r : List Nat} {x : PySem.Str} {t : Tok} (e : x = S r) : PcEl news r (.str x t) news := by subst e; exact ⟨rfl, t, rfl⟩
theorem pcEl {news : List (Addr × Obj)} {r r' : List Nat} {t : Tok} (e : r' = r) : PcEl news r (.str (S r') t) news := by subst e; exact ⟨rfl, t, rfl⟩
section
variable {prog : Program} {w : World} {A : Around} {h₀ : Heap} {L : Addr} {m : PySem.Str → Option Value} {env : Env} {elt : Expr} {x : PySem.Str} {scope : Scope} {cl : List (PySem.Str × Addr)} {s : Shared} {S' : List (Addr × Obj) → Prop} {Fin : List Value → List (Addr × Obj) → Prop} {news : List (Addr × Obj)}
theorem pc_list {vs : List Value} {ns : List Int} (g : Int → List Nat) (hi : IntsAre vs ns)
    (turn : ∀ k t I oI C oC D m₂ ys h tk (E' : Value → Shared → Prop), LCg.NsObj oC m₂ → m₂ x = some (.int k t) → Fr h₀ L h m → News h₀ L h ((I, oI) :: (C, oC) :: (D, LCg.lst ys) :: news) → LCg.Off3 I C D news → ((@Ne Nat I C) ∧ (@Ne Nat I D) ∧ (@Ne Nat C D)) →
      wpAny (model prog w) A (eval elt (compEnvC scope cl C env)) (LCg.CompEnd h₀ L m { s with heap := h, toks := tk } I oI C oC D (LCg.lst ys) S' (fun y news' => PcEl news (g k) y news')) E' { s with heap := h, toks := tk })
    (fin : ∀ ys, TxtL ys (ns.map g) → Fin ys news) : LCg.CompRest prog w A h₀ L m env elt x scope cl s S' (fun i v => vs.toArray[i]? = some v) Fin vs.toArray.size 0 [] news := by
  have hn : vs.toArray.size = ns.length := by rw [List.size_toArray]; exact hi.length
  rw [hn]
  have key : ∀ (j i : Nat) (ys : List Value), i + j = ns.length → TxtL ys ((ns.take i).map g) → LCg.CompRest prog w A h₀ L m env elt x scope cl s S' (fun i v => vs.toArray[i]? = some v) Fin j i ys news := by
    intro j
    induction j with
    | zero =>
      intro i ys hi' hy
      have e : i = ns.length := by omega
      subst e
      rw [List.take_length] at hy
      exact LCg.CompRest.zero (fin ys hy)
    | succ j ih =>
      intro i ys hi' hy
      refine LCg.CompRest.succ ?_
      intro v I oI C oC D m₂ h tk E' hv hC hx F N off ne
      obtain ⟨k, t, e, hk⟩ := IntsAre.at hi i v (by simpa using hv)
      rw [e] at hx
      refine wpAny_mono (turn k t I oI C oC D m₂ ys h tk E' hC hx F N off ne) (fun y s₂ hq => ?_) fun _ _ e => e
      obtain ⟨h', tk', nw, e, F', N', off', hS, hn, t', hy'⟩ := hq
      rw [hn] at N' off' hS
      refine ⟨h', tk', news, e, F', N', off', hS, ?_⟩
      rw [hy']
      refine ih (i + 1) _ (by omega) ?_
      rw [List.take_add_one, hk]
      unfold TxtL at hy ⊢
      rw [List.map_append, List.map_append]
      exact CarriedAll.snoc hy (Carried.str _ _)
  exact key _ 0 [] (by omega) CarriedAll.nil
end

def pcs : List (List Nat) := [[97], [104, 116, 116, 112, 58], [47, 47], [47], [58], [63], [35], [64], [98, 46, 67], [56, 48], [71, 105, 116, 58], [120, 43, 49, 58], [32], [9], [117, 58, 112, 64], [10], [47, 47, 104, 58, 56, 49, 47], [92],
  [109, 97, 105, 108, 116, 111, 58], [37, 52, 49], [54, 53, 53, 51, 53], [54, 53, 53, 51, 54], [48], [13], [0], [87, 115, 58]]
def pc (k : Int) : List Nat := pcs.getD (k.fmod 26).toNat []
theorem pcs_eq : [PySem.Str.ofString "a", PySem.Str.ofString "http:", PySem.Str.ofString "//", PySem.Str.ofString "/", PySem.Str.ofString ":", PySem.Str.ofString "?",
          PySem.Str.ofString "#", PySem.Str.ofString "@", PySem.Str.ofString "b.C", PySem.Str.ofString "80", PySem.Str.ofString "Git:",
          PySem.Str.ofString "x+1:", PySem.Str.ofString " ", PySem.Str.ofString "\t", PySem.Str.ofString "u:p@", PySem.Str.ofString "\n",
          PySem.Str.ofString "//h:81/", PySem.Str.ofString "\\", PySem.Str.ofString "mailto:", PySem.Str.ofString "%41", PySem.Str.ofString "65535",
          PySem.Str.ofString "65536", PySem.Str.ofString "0", PySem.Str.ofString "\x0d", PySem.Str.ofString "\x00", PySem.Str.ofString "Ws:"] = pcs.map S := by decide +kernel
theorem pc_S (k : Int) : (pcs.map S).getD (k.fmod 26).toNat PySem.Str.empty = S (pc k) := by
  unfold pc
  generalize (k.fmod 26).toNat = n
  rw [List.getD_eq_getElem?_getD, List.getD_eq_getElem?_getD, List.getElem?_map]
  cases pcs[n]? <;> rfl
theorem pc_mem (k : Int) : pc k ∈ pcs := by
  have h0 := Int.fmod_nonneg_of_pos k (show (0 : Int) < 26 by decide)
  have h1 := Int.fmod_lt_of_pos k (show (0 : Int) < 26 by decide)
  have h2 : (k.fmod 26).toNat < pcs.length := by
    show (k.fmod 26).toNat < 26
    omega
  unfold pc
  rw [List.getD_eq_getElem?_getD, List.getElem?_eq_getElem h2]
  exact List.getElem_mem h2
theorem pc_le {k : Int} : (pc k).length ≤ 8 := by
  have h : ∀ l ∈ pcs, l.length ≤ 8 := by decide
  exact h _ (pc_mem k)
theorem join_L (ls : List (List Nat)) : PySem.Txt.join (S []) (ls.map S) = S ls.flatten := by
  show Builtin.Str.glued (S []) _ = _
  rw [StrLaws.glued_eq_join]
  induction ls with
  | nil => rfl
  | cons c r ih =>
    cases r with
    | nil =>
      show S c = S (c ++ [])
      rw [List.append_nil]
    | cons d r =>
      show S c ++ S [] ++ PySem.Str.join (S []) ((d :: r).map S) = S (c ++ (d :: r).flatten)
      rw [ih, S_app, S_app, List.append_nil]
theorem flat_le {k : Nat} : ∀ {ls : List (List Nat)}, (∀ l ∈ ls, l.length ≤ k) → ls.flatten.length ≤ k * ls.length
  | [], _ => Nat.zero_le _
  | a :: r, h => by
    have := flat_le (k := k) fun l hl => h l (List.mem_cons_of_mem _ hl)
    have h1 := h a List.mem_cons_self
    rw [List.flatten_cons, List.length_append, List.length_cons, Nat.mul_add]
    omega
section
variable {prog : Program} {w : World} {A : Around} {E : Value → Shared → Prop} {s : Shared}
theorem r_joinL {D : Addr} {ys : List Value} {ls : List (List Nat)} {t : Tok} {Q : Value → Shared → Prop} (hl : s.heap.IsList D ys.toArray) (hc : TxtL ys ls) (h8 : ∀ l ∈ ls, l.length ≤ 8) (hn : ls.length ≤ 14)
    (h : ∀ t' k, Q (.str (S ls.flatten) t') { s with toks := k }) :
    wpAny (model prog w) A (call (.builtin "str.join") [.str (S []) t, .ref D]) Q E s :=
  KT.join_B (l := ls) (g := S) 8 hl hc h8 (by omega) (by decide) (fun t' k => by rw [join_L]; exact h t' k)
end
end Mine
end

/-! Y1 -/
section
open PySem PySem.W PySem.Calls PyProof.Rows
set_option linter.unusedVariables false
namespace Mine
theorem parts_new (u : List Nat) : pS (clean u) = pS (pT u) ∧ nA (pR (clean u)) = pA (pR (pT u)) ∧ bef 63 (bef 35 (nU (pR (clean u)))) = pP (pR (pT u)) ∧ aft 63 (bef 35 (nU (pR (clean u)))) = pQ u ∧ aft 35 (nU (pR (clean u))) = pF u := by
  have h := named_cut (clean u)
  have hT : pT u = cut (clean u) := rfl
  have hr : pR (pT u) = cut (pR (clean u)) := h.2.2
  refine ⟨h.2.1.symm, (nA_eq _).trans (by rw [hr]), (nP_eq _).trans (by rw [hr]), (nQ_eq _).1, (nQ_eq _).2⟩
theorem len_filter_dw (u : List Nat) : (clean u).length ≤ u.length := le_filter (le_dropW (Nat.le_refl _))
theorem pT_le (u : List Nat) : (pT u).length ≤ u.length := le_bef (le_bef (len_filter_dw u))
theorem pR_le (t : List Nat) : (pR t).length ≤ t.length := by unfold pR; split <;> first | exact aft_le _ _ | exact Nat.le_refl _
theorem pA_le (t : List Nat) : (pA t).length ≤ t.length := by unfold pA; split <;> first | exact le_bef (le_drop (Nat.le_refl _)) | exact Nat.zero_le _
theorem pP_le (t : List Nat) : (pP t).length ≤ t.length := by unfold pP; split <;> first | exact le_dropW (le_drop (Nat.le_refl _)) | exact Nat.le_refl _
theorem pS_le (t : List Nat) : (pS t).length ≤ t.length := by unfold pS; split <;> first | exact le_map (bef_le _ _) | exact Nat.zero_le _
theorem lput_le {sc au pa qu fr : List Nat} : (lput sc au pa qu fr).length ≤ sc.length + au.length + pa.length + qu.length + fr.length + 6 := by
  unfold lput rooted
  simp only [List.length_append]
  have a1 : (if sc ≠ [] then sc ++ [58] else []).length ≤ sc.length + 1 := by split <;> simp
  have a3 : (if sc ∈ hosts ∧ pa ≠ [] ∧ pa.take 1 ≠ [47] then 47 :: pa else pa).length ≤ pa.length + 1 := by split <;> simp
  have a4 : (if qu ≠ [] then [63] ++ qu else []).length ≤ qu.length + 1 := by split <;> simp <;> omega
  have a5 : (if fr ≠ [] then [35] ++ fr else []).length ≤ fr.length + 1 := by split <;> simp <;> omega
  have a2 : ∀ (c : Prop) [Decidable c], (if c then [47, 47] else [] : List Nat).length ≤ 2 := by intro c _; split <;> simp
  have := a2 (au ≠ [] ∨ sc ∈ hosts ∨ (if sc ∈ hosts ∧ pa ≠ [] ∧ pa.take 1 ≠ [47] then 47 :: pa else pa).take 2 = [47, 47])
  omega
/-- what the law's walk asks of the five parts -/
structure Facts (sc au pa qu fr : List Nat) : Prop where
  asc : (∀ c ∈ sc, c < 128) ∧ (∀ c ∈ au, c < 128) ∧ (∀ c ∈ pa, c < 128) ∧ (∀ c ∈ qu, c < 128) ∧ (∀ c ∈ fr, c < 128)
  len : sc.length ≤ 112 ∧ au.length ≤ 112 ∧ pa.length ≤ 112 ∧ qu.length ≤ 112 ∧ fr.length ≤ 112
  put : usp sc au pa qu fr = lput sc au pa qu fr
  asc2 : ∀ c ∈ lput sc au pa qu fr, c < 128
  again : pS (clean (lput sc au pa qu fr)) = sc ∧ nA (pR (clean (lput sc au pa qu fr))) = au ∧ bef 63 (bef 35 (nU (pR (clean (lput sc au pa qu fr))))) = rooted sc pa ∧
    aft 63 (bef 35 (nU (pR (clean (lput sc au pa qu fr))))) = qu ∧ aft 35 (nU (pR (clean (lput sc au pa qu fr)))) = fr
  bad : (∃ c ∈ aF au, c ∉ figs) → PySem.intText? (S (aF au)) = none
theorem Facts.put_len {sc au pa qu fr : List Nat} (F : Facts sc au pa qu fr) : (lput sc au pa qu fr).length ≤ 1000 := by
  have := F.len
  have := lput_le (sc := sc) (au := au) (pa := pa) (qu := qu) (fr := fr)
  omega
theorem Facts.ascR {sc au pa qu fr : List Nat} (F : Facts sc au pa qu fr) : (∀ c ∈ sc, c < 128) ∧ (∀ c ∈ au, c < 128) ∧ (∀ c ∈ rooted sc pa, c < 128) ∧ (∀ c ∈ qu, c < 128) ∧ (∀ c ∈ fr, c < 128) := by
  obtain ⟨a1, a2, a3, a4, a5⟩ := F.asc
  refine ⟨a1, a2, fun c hc => ?_, a4, a5⟩
  unfold rooted at hc
  split at hc
  · rcases List.mem_cons.mp hc with rfl | hc
    · decide
    · exact a3 c hc
  · exact a3 c hc
theorem facts_of {u : List Nat} (ha : ∀ c ∈ u, c < 128) (hl : u.length ≤ 112) (hu : pS (pT u) ≠ [] → (pS (pT u) ∈ uses ↔ pS (pT u) ∈ hosts)) (hb : (∃ c ∈ aF (pA (pR (pT u))), c ∉ figs) → ∃ c ∈ aF (pA (pR (pT u))), Odd c) :
    Facts (pS (pT u)) (pA (pR (pT u))) (pP (pR (pT u))) (pQ u) (pF u) := by
  have hsub : ∀ {x}, x ∈ pA (pR (pT u)) ∨ x ∈ pP (pR (pT u)) ∨ x ∈ pQ u ∨ x ∈ pF u → x < 128 := fun h => ha _ (clean_sub (parts_sub h))
  have a2 : ∀ c ∈ pA (pR (pT u)), c < 128 := fun c h => hsub (.inl h)
  refine ⟨⟨fun c h => (scs_ge (sc_facts (pT u) c h).1).2.2, a2, fun c h => hsub (.inr (.inl h)), fun c h => hsub (.inr (.inr (.inl h))), fun c h => hsub (.inr (.inr (.inr h)))⟩, ?_, ?_, put_asc ha, ?_, ?_⟩
  · have := pT_le u
    have := pR_le (pT u)
    have := pA_le (pR (pT u))
    have := pP_le (pR (pT u))
    have := pS_le (pT u)
    have h1 : (pQ u).length ≤ u.length := le_aft (le_bef (len_filter_dw u))
    have h2 : (pF u).length ≤ u.length := le_aft (len_filter_dw u)
    omega
  · exact usp_eq (pP_root _) hu
  · exact put_parts rfl (put_clean u)
  · intro h
    refine int_odd (fun c hc => a2 c ?_) (hb h)
    unfold aF at hc
    exact raft_sub (aft_sub hc)
end Mine
end

/-! Y2 -/
section
open PySem PySem.W PySem.Calls PyProof.Rows
set_option linter.unusedVariables false
set_option maxHeartbeats 1000000
namespace Mine
def d5 (a b c d e : List Nat) : PyData := .tuple [.str (S a), .str (S b), .str (S c), .str (S d), .str (S e)]
def od : Option (List Nat) → PyData
  | none => .none
  | some l => .str (S l)
def pd : Option Int → PyData
  | none => .none
  | some p => .int p
def d4 (us pw ho : Option (List Nat)) (po : Option Int) : PyData := .tuple [od us, od pw, od ho, pd po]
theorem d5_ok {a b c d e : List Nat} (h : (∀ x ∈ a, x < 128) ∧ (∀ x ∈ b, x < 128) ∧ (∀ x ∈ c, x < 128) ∧ (∀ x ∈ d, x < 128) ∧ (∀ x ∈ e, x < 128)) : SeqAt.shaped (d5 a b c d e) = true ∧ PyData.eqv (d5 a b c d e) (d5 a b c d e) = true := by
  obtain ⟨h1, h2, h3, h4, h5⟩ := h
  constructor
  · simp [d5, SeqAt.shaped, PyData.canLay0, PyData.canLayAll0, PyData.depth, PyData.depthAll, strOk_S h1, strOk_S h2, strOk_S h3, strOk_S h4, strOk_S h5]
  · simp [d5, PyData.eqv, PyData.eqvAll]
def oa (o : Option (List Nat)) : Prop := ∀ l, o = some l → ∀ x ∈ l, x < 128
theorem od_ok {o : Option (List Nat)} (h : oa o) : PyData.canLay0 (od o) = true ∧ PyData.depth (od o) = 0 ∧ PyData.eqv (od o) (od o) = true := by
  cases o with
  | none => simp [od, PyData.canLay0, PyData.depth, PyData.eqv]
  | some l => simp [od, PyData.canLay0, PyData.depth, PyData.eqv, strOk_S (h l rfl)]
theorem pd_ok {o : Option Int} : PyData.canLay0 (pd o) = true ∧ PyData.depth (pd o) = 0 ∧ PyData.eqv (pd o) (pd o) = true := by
  cases o <;> simp [pd, PyData.canLay0, PyData.depth, PyData.eqv]
theorem d4_ok {us pw ho : Option (List Nat)} {po : Option Int} (h1 : oa us) (h2 : oa pw) (h3 : oa ho) : SeqAt.shaped (d4 us pw ho po) = true ∧ PyData.eqv (d4 us pw ho po) (d4 us pw ho po) = true := by
  have e1 := od_ok h1
  have e2 := od_ok h2
  have e3 := od_ok h3
  have e4 := pd_ok (o := po)
  constructor
  · simp [d4, SeqAt.shaped, PyData.canLay0, PyData.canLayAll0, PyData.depth, PyData.depthAll, e1, e2, e3, e4]
  · simp [d4, PyData.eqv, PyData.eqvAll, e1, e2, e3, e4]
section
variable {prog : Program} {w : World} {A : Around} {E : Value → Shared → Prop} {s : Shared} {h₀ h : Heap} {L : Addr}
theorem ov_carried (o : Option (List Nat)) (t : Tok) : Carried (ov o t) (od o) := by
  cases o with
  | none => exact Carried.none
  | some l => exact Carried.str _ _
theorem pv_carried (o : Option Int) (t : Tok) : Carried (pv o t) (pd o) := by
  cases o with
  | none => exact Carried.none
  | some l => exact Carried.int _ _
theorem reads_t5 {D : Addr} {a b c d e : List Nat} {ta tb tc td te : Tok} (ht : IsTup h D [Value.str (S a) ta, .str (S b) tb, .str (S c) tc, .str (S d) td, .str (S e) te].toArray) : Reads h (.ref D) (d5 a b c d e) [] :=
  reads_newDataT ht (.cons (.str _ _) (.cons (.str _ _) (.cons (.str _ _) (.cons (.str _ _) (.cons (.str _ _) .nil)))))
theorem reads_t4 {D : Addr} {us pw ho : Option (List Nat)} {po : Option Int} {ta tb tc td : Tok} (ht : IsTup h D [ov us ta, ov pw tb, ov ho tc, pv po td].toArray) : Reads h (.ref D) (d4 us pw ho po) [] :=
  reads_newDataT ht (.cons (ov_carried _ _) (.cons (ov_carried _ _) (.cons (ov_carried _ _) (.cons (pv_carried _ _) .nil))))
theorem ne_t5 {D D' : Addr} {a b c d e : List Nat} {ta tb tc td te ta' tb' tc' td' te' : Tok} {Q : Value → Shared → Prop}
    (h1 : IsTup s.heap D [Value.str (S a) ta, .str (S b) tb, .str (S c) tc, .str (S d) td, .str (S e) te].toArray) (h2 : IsTup s.heap D' [Value.str (S a) ta', .str (S b) tb', .str (S c) tc', .str (S d) td', .str (S e) te'].toArray)
    (hc : (∀ x ∈ a, x < 128) ∧ (∀ x ∈ b, x < 128) ∧ (∀ x ∈ c, x < 128) ∧ (∀ x ∈ d, x < 128) ∧ (∀ x ∈ e, x < 128)) (hu : A.units + 64 < cLine) (hq : Q (.bool false) s) : wpAny (model prog w) A (compareOp .NotEq (.ref D) (.ref D')) Q E s :=
  ne_dataH (reads_t5 h1) (reads_t5 h2) (d5_ok hc).1 (d5_ok hc).1 hu (by rw [(d5_ok hc).2]; exact hq)
theorem ne_t4 {D D' : Addr} {us pw ho : Option (List Nat)} {po : Option Int} {ta tb tc td ta' tb' tc' td' : Tok} {Q : Value → Shared → Prop}
    (h1 : IsTup s.heap D [ov us ta, ov pw tb, ov ho tc, pv po td].toArray) (h2 : IsTup s.heap D' [ov us ta', ov pw tb', ov ho tc', pv po td'].toArray) (a1 : oa us) (a2 : oa pw) (a3 : oa ho) (hu : A.units + 64 < cLine) (hq : Q (.bool false) s) :
    wpAny (model prog w) A (compareOp .NotEq (.ref D) (.ref D')) Q E s :=
  ne_dataH (reads_t4 h1) (reads_t4 h2) (d4_ok a1 a2 a3).1 (d4_ok a1 a2 a3).1 hu (by rw [(d4_ok a1 a2 a3).2]; exact hq)
theorem eq_t4 {D D' : Addr} {us pw ho : Option (List Nat)} {po : Option Int} {ta tb tc td ta' tb' tc' td' : Tok} {Q : Value → Shared → Prop}
    (h1 : IsTup s.heap D [ov us ta, ov pw tb, ov ho tc, pv po td].toArray) (h2 : IsTup s.heap D' [ov us ta', ov pw tb', ov ho tc', pv po td'].toArray) (a1 : oa us) (a2 : oa pw) (a3 : oa ho) (hu : A.units + 64 < cLine) (hq : Q (.bool true) s) :
    wpAny (model prog w) A (compareOp .Eq (.ref D) (.ref D')) Q E s :=
  eq_dataH (reads_t4 h1) (reads_t4 h2) (d4_ok a1 a2 a3).1 (d4_ok a1 a2 a3).1 hu (by rw [(d4_ok a1 a2 a3).2]; exact hq)
theorem eq_t4s {D : Addr} {us pw ho : Option (List Nat)} {po : Option Int} {ta tb tc td t' : Tok} {x : List Nat} {Q : Value → Shared → Prop}
    (h1 : IsTup s.heap D [ov us ta, ov pw tb, ov ho tc, pv po td].toArray) (a1 : oa us) (a2 : oa pw) (a3 : oa ho) (ax : ∀ c ∈ x, c < 128) (hu : A.units + 64 < cLine) (hq : Q (.bool false) s) :
    wpAny (model prog w) A (compareOp .Eq (.ref D) (.str (S x) t')) Q E s :=
  eq_dataH (reads_t4 h1) (Reads.str _ _) (d4_ok a1 a2 a3).1 (by simp [SeqAt.shaped, PyData.canLay0, PyData.depth, strOk_S ax]) hu (by simpa [d4, PyData.eqv] using hq)
end
theorem tup5_in {h₀ h : Heap} {L D : Addr} {news : List (Addr × Obj)} {a b c d e : List Nat} {ta tb tc td te : Tok} (N : News h₀ L h news) (hm : (D, tup5 a b c d e ta tb tc td te) ∈ news) :
    IsTup h D [Value.str (S a) ta, .str (S b) tb, .str (S c) tc, .str (S d) td, .str (S e) te].toArray := News.isTup N hm
theorem tup4_in {h₀ h : Heap} {L D : Addr} {news : List (Addr × Obj)} {us pw ho : Option (List Nat)} {po : Option Int} {ta tb tc td : Tok} (N : News h₀ L h news) (hm : (D, tup4 us pw ho po ta tb tc td) ∈ news) :
    IsTup h D [ov us ta, ov pw tb, ov ho tc, pv po td].toArray := News.isTup N hm
section
variable {M : Model} {A : Around} {E : Value → Shared → Prop} {s : Shared} {env : Env} {h₀ : Heap} {L : Addr} {m : PySem.Str → Option Value} {K : Frag}
theorem wpC_callWith_def1 {pos : Pos} {a : Addr} {oc : Value} {odd : Option Addr} {fd : FuncData} {osl : Array (Option Value)} {e : Expr} {rest : List Expr} {Q : Value → Shared → Prop} (X₀ : K.In h₀) (ho : K.lookup a = some ⟨oc, odd, .func fd, osl⟩)
    (h : wpAny M A (spliced (backTo pos (starEach (e :: rest) env))) (fun vs s₁ => (∃ m, Fr h₀ L s₁.heap m) ∧ wpC M A (call (.ref a) vs) Q E s₁) E s)
    (he : starEach (e :: rest) env = (false, eval e env) :: starEach rest env := by rfl)
    (hplain : (backTo pos (starEach rest env)).any (·.1) = false := by rfl) :
    wpC M A (callWith pos (.ref a) [] (backTo pos (starEach (e :: rest) env)) []) Q E s := by
  rw [he] at h ⊢
  refine wpC_callWith (o := ⟨oc, odd, .func fd, osl⟩) (fd := fd) (by show (false || (backTo pos (starEach rest env)).any (·.1)) = false; rw [hplain]; rfl) (wpAny_mono (evalArgs_plain (Q := fun x s₁ => (∃ m, Fr h₀ L s₁.heap m) ∧ wpC M A (call (.ref a) x.pos x.kw) Q E s₁) h) (fun x s₁ hx => ?_) fun _ _ x => x)
  obtain ⟨⟨m, F⟩, hc⟩ := hx
  exact ⟨⟨F.keep _ _ (X₀ _ _ ho), rfl⟩, hc⟩
end
theorem asc_nz {l : List Nat} (h : ∀ x ∈ l, x < 128) : oa (nz l) := by
  unfold nz oa
  split
  · intro k e; cases e; exact h
  · intro k e; cases e
theorem oaU {a : List Nat} (h : ∀ x ∈ a, x < 128) : oa (aU a) := asc_nz fun x hx => h x (rbef_sub (bef_sub hx))
theorem oaH {a : List Nat} (h : ∀ x ∈ a, x < 128) : oa (aH a) := asc_nz fun x hx => h x (raft_sub (bef_sub hx))
theorem oaW {a : List Nat} (h : ∀ x ∈ a, x < 128) : oa (aW a) := by
  unfold aW oa
  split
  · intro k e; cases e; exact fun x hx => h x (rbef_sub (aft_sub hx))
  · intro k e; cases e
end Mine
end

/-! Y3 -/
section
open PySem PySem.W PySem.Calls PyProof.Rows PySem.NumText
set_option linter.unusedVariables false
namespace Mine
def afx : Option (List Nat) → List Nat
  | some x => 58 :: x
  | none => []
theorem ahd_eq (us pw : Option (List Nat)) : us.getD [] ++ afx pw = ahd us pw := by cases pw <;> rfl
structure F4 (us pw ho : Option (List Nat)) (po : Option Int) : Prop where
  ue : us ≠ some []
  leU : ∀ l, us = some l → l.length ≤ 112
  leW : ∀ l, pw = some l → l.length ≤ 112
  leH : ∀ l, ho = some l → l.length ≤ 112
  asc : oa us ∧ oa pw ∧ oa ho
  pob : ∀ p, po = some p → 0 ≤ p ∧ p < 65536
  lenA : (ahd us pw).length ≤ 225
  lenP : (prt po).length ≤ 11
  lenB : (us.getD []).length ≤ 112 ∧ (afx pw).length ≤ 113
  mke : ∀ h, ho = some h → mkn us pw (some h) po = (if ahd us pw ≠ [] then ahd us pw ++ [64] else []) ++ h ++ prt po
  len : ∀ h, ho = some h → (mkn us pw (some h) po).length ≤ 600
  back : ∀ h, ho = some h → aU (mkn us pw (some h) po) = us ∧ aW (mkn us pw (some h) po) = pw ∧ aH (mkn us pw (some h) po) = some h ∧
    (aF (mkn us pw (some h) po) = [] ∨ ∀ c ∈ aF (mkn us pw (some h) po), 48 ≤ c ∧ c ≤ 57) ∧ (aF (mkn us pw (some h) po) = [] ∨ digitsVal (aF (mkn us pw (some h) po)) < 65536) ∧
    (if aF (mkn us pw (some h) po) = [] then none else some (digitsVal (aF (mkn us pw (some h) po)) : Int)) = po
theorem f4_of {au : List Nat} (hl : au.length ≤ 112) (hc : ∀ c ∈ au, c < 128) (hok : aF au = [] ∨ ((∀ c ∈ aF au, 48 ≤ c ∧ c ≤ 57) ∧ digitsVal (aF au) < 65536)) :
    F4 (aU au) (aW au) (aH au) (if aF au = [] then none else some (digitsVal (aF au) : Int)) := by
  obtain ⟨hu1, hu2⟩ := aU_no au
  have hpo : ∀ p, (if aF au = [] then none else some (digitsVal (aF au) : Int)) = some p → ∃ m : Nat, p = (m : Int) ∧ m < 65536 := by
    intro p hp
    split at hp
    · cases hp
    · rename_i hne
      exact ⟨_, (Option.some.inj hp).symm, (hok.resolve_left hne).2⟩
  generalize hpe : (if aF au = [] then none else some (digitsVal (aF au) : Int)) = po at *
  have lU : ∀ l, aU au = some l → l.length ≤ 112 := by
    intro l e
    unfold aU nz at e
    split at e
    · cases e; exact le_bef (le_rbef hl)
    · cases e
  have lW : ∀ l, aW au = some l → l.length ≤ 112 := by
    intro l e
    unfold aW at e
    split at e
    · cases e; exact le_aft (le_rbef hl)
    · cases e
  have lH : ∀ l, aH au = some l → l.length ≤ 112 := by
    intro l e
    unfold aH nz at e
    split at e
    · cases e; exact le_bef (le_raft hl)
    · cases e
  have lP : (prt po).length ≤ 11 := by
    unfold prt
    cases po with
    | none => exact Nat.zero_le _
    | some p =>
      obtain ⟨m, rfl, hm⟩ := hpo _ rfl
      have := dig_len (n := (m : Int)) (by omega) (by omega)
      show (dig (m : Int)).length + 1 ≤ 11
      omega
  have lA : (ahd (aU au) (aW au)).length ≤ 225 := by
    unfold ahd
    cases hU : aU au with
    | none =>
      cases hW : aW au with
      | none => exact Nat.zero_le _
      | some x =>
        have := lW x hW
        show x.length + 1 ≤ 225
        omega
    | some l =>
      have := lU l hU
      cases hW : aW au with
      | none =>
        show (l ++ []).length ≤ 225
        rw [List.append_nil]; omega
      | some x =>
        have := lW x hW
        show (l ++ 58 :: x).length ≤ 225
        rw [List.length_append, List.length_cons]; omega
  refine ⟨hu1, lU, lW, lH, ⟨oaU hc, oaW hc, oaH hc⟩, ?_, lA, lP, ⟨?_, ?_⟩, fun h _ => mkn_eq hu1, ?_, ?_⟩
  · intro p hp
    obtain ⟨m, rfl, hm⟩ := hpo p hp
    omega
  · cases e : aU au with
    | none => exact Nat.zero_le _
    | some l => exact lU l e
  · cases e : aW au with
    | none => exact Nat.zero_le _
    | some l => exact Nat.succ_le_succ (lW l e)
  · intro h hh
    rw [mkn_eq hu1]
    have := lH h hh
    have h1 : (if ahd (aU au) (aW au) ≠ [] then ahd (aU au) (aW au) ++ [64] else []).length ≤ 226 := by
      split
      · rw [List.length_append]; show _ + 1 ≤ _; omega
      · exact Nat.zero_le _
    simp only [List.length_append]
    omega
  · intro h hh
    obtain ⟨n1, n2, n3⟩ := aH_no hh
    obtain ⟨r1, r2, r3, r4⟩ := round (us := aU au) (pw := aW au) (h := h) (po := po) hu1 hu2 n1 n2 n3 (fun p hp => by obtain ⟨m, e, _⟩ := hpo p hp; exact ⟨m, e⟩)
    refine ⟨r1, r2, r3, ?_⟩
    rw [r4]
    cases po with
    | none => exact ⟨.inl rfl, .inl rfl, if_pos rfl⟩
    | some p =>
      obtain ⟨m, rfl, hm⟩ := hpo p rfl
      have e : (prt (some (m : Int))).drop 1 = dig (m : Int) := rfl
      rw [e]
      exact ⟨.inr (dig_digits m), .inr (by rw [dig_val]; exact hm), by rw [if_neg (dig_ne m), dig_val]⟩
end Mine
end

/-! Y4 -/
section
open PySem PySem.W PySem.Calls PyProof.Rows
set_option linter.unusedVariables false
namespace Mine
/-- which sign may stand behind which, in a text of the pieces -/
def Rel (x y : Nat) : Bool := (x != 115 || y == 58) && (x != 109 || y == 97) && (x != 105 || (y == 116 || y == 108)) && (x != 112 || (y == 58 || y == 64)) && (y != 43 || x == 120)
def adj : List Nat → Bool
  | x :: y :: r => Rel x y && adj (y :: r)
  | _ => true
def al : List Nat := [97, 104, 116, 112, 58, 47, 63, 35, 64, 98, 46, 67, 56, 48, 71, 105, 120, 43, 49, 32, 9, 117, 10, 92, 109, 108, 111, 37, 52, 54, 53, 51, 13, 0, 87, 115]
theorem adj_cons {x : Nat} {r : List Nat} (h : adj (x :: r) = true) : adj r = true := by
  cases r with
  | nil => rfl
  | cons y r => exact (Bool.and_eq_true_iff.mp h).2
theorem adj_right : ∀ {a b : List Nat}, adj (a ++ b) = true → adj b = true
  | [], _, h => h
  | _ :: a, _, h => adj_right (a := a) (adj_cons h)
theorem adj_left : ∀ {a b : List Nat}, adj (a ++ b) = true → adj a = true
  | [], _, _ => rfl
  | [_], _, _ => rfl
  | x :: y :: a, b, h => by
    have h := Bool.and_eq_true_iff.mp h
    exact Bool.and_eq_true_iff.mpr ⟨h.1, adj_left (a := y :: a) h.2⟩
theorem adj_at : ∀ {a b : List Nat} {x y : Nat}, adj (a ++ x :: y :: b) = true → Rel x y = true := by
  intro a b x y h
  exact (Bool.and_eq_true_iff.mp (adj_right (a := a) h)).1
theorem adj_app : ∀ {a b : List Nat}, adj a = true → adj b = true → (∀ x y, a.getLast? = some x → b.head? = some y → Rel x y = true) → adj (a ++ b) = true
  | [], _, _, h, _ => h
  | [x], b, _, h, g => by
    cases b with
    | nil => rfl
    | cons y b => exact Bool.and_eq_true_iff.mpr ⟨g x y rfl rfl, h⟩
  | x :: y :: a, b, h1, h2, g => by
    have h := Bool.and_eq_true_iff.mp h1
    refine Bool.and_eq_true_iff.mpr ⟨h.1, adj_app (a := y :: a) h.2 h2 fun x' y' e1 e2 => g x' y' ?_ e2⟩
    rw [List.getLast?_cons_cons]; exact e1
theorem rel_end {x y : Nat} (hx : x ∉ [115, 109, 105, 112]) (hy : y ≠ 43) : Rel x y = true := by
  simp only [List.mem_cons, List.not_mem_nil, or_false, not_or] at hx
  simp [Rel, hx, hy]
theorem pcs_adj : ∀ l ∈ pcs, l ≠ [] ∧ adj l = true ∧ l.getLast?.all (fun x => decide (x ∉ [115, 109, 105, 112])) = true ∧ l.head?.all (fun y => decide (y ≠ 43)) = true ∧ ∀ c ∈ l, c ∈ al := by decide
theorem flat_adj : ∀ {ls : List (List Nat)}, (∀ l ∈ ls, l ∈ pcs) → adj ls.flatten = true ∧ (∀ y, ls.flatten.head? = some y → y ≠ 43) ∧ ∀ c ∈ ls.flatten, c ∈ al
  | [], _ => ⟨rfl, (fun _ (h : none = some _) => by cases h), (fun _ (h : _ ∈ []) => nomatch h)⟩
  | p :: ls, h => by
    obtain ⟨i1, i2, i3⟩ := flat_adj (ls := ls) fun l hl => h l (List.mem_cons_of_mem _ hl)
    obtain ⟨q1, q2, q3, q4, q5⟩ := pcs_adj p (h p List.mem_cons_self)
    rw [List.flatten_cons]
    refine ⟨adj_app q2 i1 fun x y e1 e2 => rel_end ?_ (i2 y e2), fun y e => ?_, fun c hc => ?_⟩
    · rw [e1] at q3
      exact of_decide_eq_true q3
    · cases p with
      | nil => exact absurd rfl q1
      | cons z p =>
        have e : z = y := Option.some.inj e
        subst e
        exact of_decide_eq_true q4
    · rcases List.mem_append.mp hc with hc | hc
      · exact q5 c hc
      · exact i3 c hc
def kept (c : Nat) : Bool := decide (c ∉ [9, 13, 10])
theorem rel_del {x d : Nat} (h : Rel x d = true) (hd : kept d = false) : x ∉ [115, 109, 105, 112] := by
  have hd' : d ∈ [9, 13, 10] := Decidable.of_not_not (of_decide_eq_false hd)
  simp only [List.mem_cons, List.not_mem_nil, or_false] at hd'
  intro hx
  simp only [List.mem_cons, List.not_mem_nil, or_false] at hx
  rcases hd' with rfl | rfl | rfl <;> rcases hx with rfl | rfl | rfl | rfl <;> cases h
theorem del_head : ∀ {r : List Nat} {d : Nat}, adj (d :: r) = true → kept d = false → ∀ y, (r.filter kept).head? = some y → y ≠ 43
  | [], _, _, _, _, h => nomatch h
  | z :: r, d, h, hd, y, e => by
    have h := Bool.and_eq_true_iff.mp h
    cases hz : kept z with
    | true =>
      rw [List.filter_cons_of_pos hz] at e
      have e : z = y := Option.some.inj e
      subst e
      rintro rfl
      have hd' : d ∈ [9, 13, 10] := Decidable.of_not_not (of_decide_eq_false hd)
      simp only [List.mem_cons, List.not_mem_nil, or_false] at hd'
      have h1 := h.1
      rcases hd' with rfl | rfl | rfl <;> cases h1
    | false =>
      rw [List.filter_cons_of_neg (by rw [hz]; exact Bool.false_ne_true)] at e
      exact del_head h.2 hz y e
theorem filter_adj : ∀ {l : List Nat}, adj l = true → adj (l.filter kept) = true
  | [], _ => rfl
  | x :: r, h => by
    have ih := filter_adj (adj_cons h)
    cases hx : kept x with
    | false => rw [List.filter_cons_of_neg (by rw [hx]; exact Bool.false_ne_true)]; exact ih
    | true =>
      rw [List.filter_cons_of_pos hx]
      refine adj_app (a := [x]) rfl ih fun x' y e1 e2 => ?_
      obtain rfl : x = x' := Option.some.inj e1
      cases r with
      | nil => cases e2
      | cons z r =>
        have h := Bool.and_eq_true_iff.mp h
        cases hz : kept z with
        | true =>
          rw [List.filter_cons_of_pos hz] at e2
          obtain rfl : z = y := Option.some.inj e2
          exact h.1
        | false =>
          rw [List.filter_cons_of_neg (by rw [hz]; exact Bool.false_ne_true)] at e2
          exact rel_end (rel_del h.1 hz) (del_head h.2 hz y e2)
theorem clean_adj {u : List Nat} (h : adj u = true) : adj (clean u) = true := by
  obtain ⟨t, e⟩ := List.dropWhile_suffix (l := u) fun c => decide (c < 33)
  exact filter_adj (adj_right (a := t) (by rw [e]; exact h))
theorem bef_adj {c : Nat} {l : List Nat} (h : adj l = true) : adj (bef c l) = true := by
  obtain ⟨r, e⟩ := bef_pre c l
  rw [e] at h
  exact adj_left h
theorem aft_adj {c : Nat} {l : List Nat} (h : adj l = true) : adj (aft c l) = true := by
  by_cases hc : c ∈ l
  · rw [split_at hc] at h
    exact adj_cons (adj_right h)
  · rw [aft_of_not hc]; rfl
theorem pT_adj {u : List Nat} (h : adj u = true) : adj (pT u) = true := bef_adj (bef_adj (clean_adj h))
theorem pR_adj {t : List Nat} (h : adj t = true) : adj (pR t) = true := by
  unfold pR; split
  · exact aft_adj h
  · exact h
theorem drop_adj {n : Nat} {l : List Nat} (h : adj l = true) : adj (l.drop n) = true := adj_right (a := l.take n) (by rw [List.take_append_drop]; exact h)
theorem pA_adj {t : List Nat} (h : adj t = true) : adj (pA t) = true := by
  unfold pA; split
  · exact bef_adj (drop_adj h)
  · rfl
/-- the same, in small letters -/
def Rel2 (x y : Nat) : Bool := (x != 115 || y == 58) && (x != 109 || y == 97) && (x != 105 || (y == 116 || y == 108)) && (x != 112 || (y == 58 || y == 64))
def adj2 : List Nat → Bool
  | x :: y :: r => Rel2 x y && adj2 (y :: r)
  | _ => true
theorem rel_low : ∀ x ∈ al, ∀ y ∈ al, Rel x y = true → Rel2 (low x) (low y) = true := by decide +kernel
theorem low_adj : ∀ {l : List Nat}, (∀ c ∈ l, c ∈ al) → adj l = true → adj2 (l.map low) = true
  | [], _, _ => rfl
  | [_], _, _ => rfl
  | x :: y :: r, ha, h => by
    have h := Bool.and_eq_true_iff.mp h
    exact Bool.and_eq_true_iff.mpr ⟨rel_low x (ha x List.mem_cons_self) y (ha y (List.mem_cons_of_mem _ List.mem_cons_self)) h.1, low_adj (l := y :: r) (fun c hc => ha c (List.mem_cons_of_mem _ hc)) h.2⟩
theorem uses_al : ∀ w ∈ uses, (w.all fun c => decide (c ∈ al.map low)) = true → adj2 w = true → w = [] ∨ w ∈ hosts := by decide +kernel
theorem hosts_uses : ∀ w ∈ hosts, w ∈ uses := by decide +kernel
theorem uh_of {t : List Nat} (ha : ∀ c ∈ t, c ∈ al) (h : adj t = true) (hne : pS t ≠ []) : pS t ∈ uses ↔ pS t ∈ hosts := by
  refine ⟨fun hu => ?_, fun hh => hosts_uses _ hh⟩
  unfold pS at hne hu ⊢
  split at hne
  · rename_i hn
    rw [if_pos hn] at hu ⊢
    have hb : ∀ c ∈ bef 58 t, c ∈ al := fun c hc => ha c (bef_sub hc)
    refine (uses_al _ hu ?_ (low_adj hb (bef_adj h))).resolve_left hne
    rw [List.all_eq_true]
    intro c hc
    obtain ⟨d, hd, rfl⟩ := List.mem_map.mp hc
    exact decide_eq_true (List.mem_map_of_mem (hb d hd))
  · exact absurd rfl hne
theorem al_odd : ∀ c ∈ al, c ∉ [9, 13, 10] → c ∉ figs → c ≠ 43 → c ≠ 95 ∧ c ≠ 43 ∧ c ≠ 45 ∧ c ≠ 32 ∧ ¬ (9 ≤ c ∧ c ≤ 13) ∧ ¬ (48 ≤ c ∧ c ≤ 57) := by decide +kernel
theorem aF_split {au : List Nat} (hne : aF au ≠ []) : ∃ p, au = p ++ 58 :: aF au := by
  unfold aF at hne ⊢
  have h58 : 58 ∈ raft 64 au := by
    by_cases h : 58 ∈ raft 64 au
    · exact h
    · exact absurd (aft_of_not h) hne
  have e := split_at h58
  by_cases h64 : 64 ∈ au
  · have e2 := rsplit_at h64
    refine ⟨rbef 64 au ++ 64 :: bef 58 (raft 64 au), ?_⟩
    rw [List.append_assoc, List.cons_append, ← e]
    exact e2
  · refine ⟨bef 58 (raft 64 au), ?_⟩
    rw [← e]
    exact (raft_of_not h64).symm
theorem odd_of {au : List Nat} (ha : ∀ c ∈ au, c ∈ al ∧ c ∉ [9, 13, 10]) (h : adj au = true) (hx : ∃ c ∈ aF au, c ∉ figs) : ∃ c ∈ aF au, Odd c := by
  obtain ⟨c, hc, hf⟩ := hx
  have hsub : ∀ x ∈ aF au, x ∈ au := fun x hx => raft_sub (aft_sub hx)
  by_cases h43 : c = 43
  · subst h43
    obtain ⟨p, e⟩ := aF_split (List.ne_nil_of_mem hc)
    obtain ⟨a, b, e2⟩ := List.append_of_mem hc
    rw [e] at h
    have h2 : adj (58 :: aF au) = true := adj_right h
    refine ⟨120, ?_, by unfold Odd; decide⟩
    rw [e2] at h2 ⊢
    -- the sign ahead of +
    rcases List.eq_nil_or_concat a with rfl | ⟨a', x, rfl⟩
    · exact absurd (adj_at (a := []) h2) (by decide)
    · have h3 : adj ((58 :: a') ++ x :: 43 :: b) = true := by
        rw [List.concat_eq_append, List.append_assoc] at h2
        exact h2
      have h4 := adj_at h3
      have h5 : x = 120 := by simpa [Rel] using (Bool.and_eq_true_iff.mp h4).2
      rw [h5, List.concat_eq_append]
      simp
  · have := ha c (hsub c hc)
    exact ⟨c, hc, al_odd c this.1 this.2 hf h43⟩

structure Inv (u : List Nat) : Prop where
  asc : ∀ c ∈ u, c < 128
  uh : pS (pT u) ≠ [] → (pS (pT u) ∈ uses ↔ pS (pT u) ∈ hosts)
  odd : (∃ c ∈ aF (pA (pR (pT u))), c ∉ figs) → ∃ c ∈ aF (pA (pR (pT u))), Odd c
theorem inv_text (ks : List Int) : Inv ((ks.map pc).flatten) := by
  obtain ⟨h1, _, h3⟩ := flat_adj (ls := ks.map pc) fun l hl => by
    obtain ⟨k, _, rfl⟩ := List.mem_map.mp hl
    exact pc_mem k
  generalize (ks.map pc).flatten = u at *
  have h4 : ∀ c ∈ al, c < 128 := by decide
  have hT : ∀ c ∈ pT u, c ∈ clean u := fun c hc => bef_sub (bef_sub hc)
  refine ⟨fun c hc => h4 c (h3 c hc), uh_of (fun c hc => h3 c (clean_sub (hT c hc))) (pT_adj h1), odd_of (fun c hc => ?_) (pA_adj (pR_adj (pT_adj h1)))⟩
  have hq := hT c (pR_sub (pA_sub hc))
  exact ⟨h3 c (clean_sub hq), clean_no hq⟩
end Mine
end

section
open PySem PySem.W PySem.Calls PyProof.Rows
set_option linter.unusedVariables false
set_option maxRecDepth 100000
set_option maxHeartbeats 8000000
namespace Mine
local macro_rules | `(tactic| walk_at "M le") => `(tactic| first
  | omega
  | ((with_reducible refine le_bef ?_); walk_at "M le")
  | ((with_reducible refine le_aft ?_); walk_at "M le")
  | ((with_reducible refine le_rbef ?_); walk_at "M le")
  | ((with_reducible refine le_raft ?_); walk_at "M le")
  | ((with_reducible refine le_take ?_); walk_at "M le")
  | ((with_reducible refine le_drop ?_); walk_at "M le")
  | ((with_reducible refine le_map ?_); walk_at "M le")
  | ((with_reducible refine le_filter ?_); walk_at "M le")
  | ((with_reducible refine le_dropW ?_); walk_at "M le")
  | ((with_reducible refine le_app ?_ ?_) <;> walk_at "M le")
  | ((with_reducible refine le_ite ?_ ?_) <;> walk_at "M le")
  | exact Nat.le_of_ble_eq_true rfl
  | ((with_reducible refine le_cons ?_ (by omega)); walk_at "M le"))
local macro_rules | `(tactic| walk_at "eval Constant str") => `(tactic| (k_here; (with_reducible refine r_mk ?_); intro _ _))
local macro_rules | `(tactic| walk_at "eval Constant str") => `(tactic| (k_here; (first | (with_reducible refine r_lit lit0 ?_) | (with_reducible refine r_lit lit1 ?_) | (with_reducible refine r_lit lit2 ?_) | (with_reducible refine r_lit lit3 ?_) | (with_reducible refine r_lit lit4 ?_) | (with_reducible refine r_lit lit5 ?_) | (with_reducible refine r_lit lit6 ?_) | (with_reducible refine r_lit lit7 ?_) | (with_reducible refine r_lit lit8 ?_) | (with_reducible refine r_lit lit9 ?_) | (with_reducible refine r_lit lit10 ?_) | (with_reducible refine r_lit lit11 ?_) | (with_reducible refine r_lit lit12 ?_) | (with_reducible refine r_lit lit13 ?_) | (with_reducible refine r_lit lit14 ?_) | (with_reducible refine r_lit lit15 ?_) | (with_reducible refine r_lit lit16 ?_) | (with_reducible refine r_lit lit17 ?_) | (with_reducible refine r_lit lit18 ?_) | (with_reducible refine r_lit lit19 ?_)); intro _ _))
local macro_rules | `(tactic| walk_at "eval Name") => `(tactic| (k_here; k_dflt (refine' r_name ?k1 ?k2 ?_ ?k3 ?k4 ?k5; (case k1 => k_asm); (case k2 => first | exact rfl | assumption); (case k3 => exact rfl); (case k4 => exact rfl); (case k5 => decide); k_whole)))
local macro_rules | `(tactic| walk_at "truthy str") => `(tactic| (k_here; (with_reducible refine r_truthy (by walk_at "M le") ?_); intro _))
local macro_rules | `(tactic| walk_at "binaryOp Add str str") => `(tactic| (k_here; (with_reducible refine r_add (by walk_at "M le") ?_); intro _ _))
local macro_rules | `(tactic| walk_at "compareOp Eq str str") => `(tactic| (k_here; with_reducible refine r_eq ?_))
local macro_rules | `(tactic| walk_at "compareOp NotEq str str") => `(tactic| (k_here; with_reducible refine r_ne ?_))
local macro_rules | `(tactic| walk_at "compareOp In str str") => `(tactic| (k_here; with_reducible refine r_in ?_))
local macro_rules | `(tactic| walk_at "compareOp NotIn str str") => `(tactic| (k_here; with_reducible refine r_notin ?_))
local macro_rules | `(tactic| walk_at "formatField str") => `(tactic| (k_here; (refine r_fstr (by walk_at "M le") ?_); intro _ _))
local macro_rules | `(tactic| walk_at "call builtin:len") => `(tactic| (k_here; (with_reducible refine r_len (by walk_at "M le") ?_); intro _ _))
local macro_rules | `(tactic| walk_at "call builtin:str.find") => `(tactic| (k_here; (first | (with_reducible refine r_find ?_) | (with_reducible refine r_find2 ?_)); intro _ _))
local macro_rules | `(tactic| walk_at "call builtin:str.partition") => `(tactic| (k_here; (with_reducible refine r_part (by k_asm) (by k_asm) (by walk_at "M le") ?_); intro D' _ _ _ _ _ F' N' l1; (try k_lt l1); (try k_sweep)))
local macro_rules | `(tactic| walk_at "call builtin:str.rpartition") => `(tactic| (k_here; (with_reducible refine r_rpart (by k_asm) (by k_asm) (by walk_at "M le") ?_); intro D' _ _ _ _ _ F' N' l1; (try k_lt l1); (try k_sweep)))
local macro_rules | `(tactic| walk_at "subscriptTail") => `(tactic| (k_here; (with_reducible show wpAny _ _ (subscriptTail _ (Expr.Slice _ _ _ _) (Value.str _ _) (Value.ref _)) _ _ _); (first | ((with_reducible show wpAny _ _ (subscriptTail _ (Expr.Slice none (some _) none _) _ _) _ _ _); (refine r_slice_to (s := ⟨_, _, _, _, _⟩) (by k_asm) (by k_asm) ?ka ?kz ?_); (case ka => omega); (case kz => walk_at "M le")) | ((with_reducible show wpAny _ _ (subscriptTail _ (Expr.Slice (some _) none none _) _ _) _ _ _); (refine r_slice_from (s := ⟨_, _, _, _, _⟩) (by k_asm) (by k_asm) ?ka ?kz ?_); (case ka => omega); (case kz => walk_at "M le"))); intro h' _ _ F' N'; (try k_sweep)))
local macro_rules | `(tactic| walk_at "subscriptTail") => `(tactic| (k_here; (with_reducible show wpAny _ _ (subscriptTail _ _ (Value.str (S _) _) (Value.int 0 _)) _ _ _); (refine r_item ?kn ?kz ?_); (case kn => walk_at "M ne"); (case kz => walk_at "M le"); intro _ _))
local macro_rules | `(tactic| walk_at "M ne") => `(tactic| first | assumption | (simp_all; done))
local macro_rules | `(tactic| walk_at "M news") => `(tactic| first | assumption | (refine newsTl (x := ?_) ?_; rotate_left; walk_at "M news"))
local macro_rules | `(tactic| walk_at "M step") => `(tactic| first | (k_unfold; (try dsimp only)) | walk1 | (dsimp only; walk1) | (leave1; try dsimp only))
local macro_rules | `(tactic| walk_at "M run") => `(tactic| repeat' (walk_at "M step"))
local macro_rules | `(tactic| walk_at "M stop") => `(tactic| first
  | (with_reducible show wpAny _ _ (exec (Stmt.If _ _ _ _) _) _ _ _)
  | (with_reducible show wpAny _ _ (exec (Stmt.For _ _ _ _ _) _) _ _ _)
  | (with_reducible show wpAny _ _ (exec (Stmt.While _ _ _ _) _) _ _ _)
  | (with_reducible show wpAny _ _ (exec (Stmt.Try _ _ _ _ _) _) _ _ _)
  | (with_reducible show wpAny _ _ (eval (Expr.IfExp _ _ _ _) _) _ _ _)
  | (with_reducible show wpAny _ _ (eval (Expr.BoolOp _ _ _) _) _ _ _)
  | (with_reducible show wpAny _ _ (isTrue (Expr.BoolOp _ _ _) _ _) _ _ _))
local macro_rules | `(tactic| walk_at "M go") => `(tactic| repeat' ((fail_if_success (walk_at "M stop")); walk_at "M step"))
local macro_rules | `(tactic| walk_at "M fact") => `(tactic| first | exact rfl | assumption | (refine (if_neg (by decide)).trans ?_; walk_at "M fact"))
local macro_rules | `(tactic| walk_at "M prop") => `(tactic| first
  | assumption
  | trivial
  | ((refine And.intro ?_ ?_) <;> walk_at "M prop")
  | (refine Or.inl ?_; walk_at "M prop")
  | (refine Or.inr ?_; walk_at "M prop")
  | (intro hP; first | contradiction | (obtain ⟨h1, h2⟩ := hP; contradiction) | (obtain ⟨h1, h2, h3⟩ := hP; contradiction) | (obtain h1 | h1 := hP <;> contradiction) | (obtain h1 | h1 | h1 := hP <;> contradiction)))
local macro_rules | `(tactic| walk_at "M ifv") => `(tactic| first | rfl | exact (if_pos (by walk_at "M prop")).symm | exact (if_neg (by walk_at "M prop")).symm)
local macro_rules | `(tactic| walk_at "M jv") => `(tactic| (refine' jvI ?jvf ?jvn ?jve; (case jvf => assumption); (case jvn => walk_at "M news"); (case jve => walk_at "M ifv")))
local macro_rules | `(tactic| walk_at "M jb") => `(tactic| (refine' jbI ?jvf ?jvn ?_; (case jvf => assumption); (case jvn => walk_at "M news")))
local macro_rules | `(tactic| walk_at "M jn") => `(tactic| (refine' jnI ?jvf ?jvn ?_; (case jvf => assumption); (case jvn => walk_at "M news")))
local macro_rules | `(tactic| walk_at "M has") => `(tactic| (refine' hasI ?hsh ?hse; (case hsh => walk_at "M fact"); (case hse => walk_at "M ifv")))
local macro_rules | `(tactic| walk_at "eval JoinedStr") => `(tactic| (k_here; with_reducible refine r_joined ?_))
local macro_rules | `(tactic| walk_at "joinParts") => `(tactic| (k_here; first | (with_reducible refine r_parts ?_) | (with_reducible refine r_partsE ?_) | ((with_reducible refine r_partsN (by walk_at "M le") ?_); intro _ _) | ((with_reducible refine r_partsNE (by walk_at "M le") ?_); intro _ _)))
local macro_rules | `(tactic| walk_at "PartP") => `(tactic| (with_reducible refine partI (by walk_at "M le") ?_))
local macro_rules | `(tactic| walk_at "compareOp In str ref") => `(tactic| (k_here; k_dflt (refine' r_hosts ?kt ?ks ?_; (case kt => exact News.isTup (by k_asm) (by k_mem)); (case ks => kde_strs); k_whole)))
local macro_rules | `(tactic| walk_at "compareOp In str ref") => `(tactic| (k_here; k_dflt (refine' r_uses ?kf ?kx ?kl ?ks ?_; (case kf => k_asm); (case kx => k_asm); (case kl => k_is); (case ks => kde_strs); k_whole)))
local macro_rules | `(tactic| walk_at "M iff") => `(tactic| (simp only [decide_eq_true_eq, decide_eq_false_iff_not, ne_eq, Bool.true_eq_false, Bool.false_eq_true, eq_self, true_iff, false_iff]; first | walk_at "M prop" | (constructor <;> (intro hQ; walk_at "M prop")) | (simp_all; done)))
local macro_rules | `(tactic| walk_at "M if2") => `(tactic| first | rfl | (rw [if_pos (by walk_at "M prop")]; walk_at "M ifv") | (rw [if_neg (by walk_at "M prop")]; walk_at "M ifv"))
local macro_rules | `(tactic| walk_at "formatField int") => `(tactic| (k_here; (refine r_fint (by omega) (by omega) ?_); intro _ _ _))
local macro_rules | `(tactic| walk_at "call type:str") => `(tactic| (k_here; (with_reducible show wpAny _ _ (call (Value.type "str") [Value.int _ _]) _ _ _); (refine r_str (by omega) (by omega) ?_); intro _ _ _))
local macro_rules | `(tactic| walk_at "M lit") => `(tactic| first | exact rfl | with_reducible exact lit8 | with_reducible exact lit9 | with_reducible exact lit10)
local macro_rules | `(tactic| walk_at "eval ListComp") => `(tactic| (k_here; k_dflt (refine comp_notin (by k_asm) (by walk_at "M lit") (by rfl) (by with_unfolding_all rfl) (by decide) (by rfl) (by decide) (by rfl) (fun C => rfl) (fun C => rfl) (by decide) ?_ (by intro _; rfl))))
local macro_rules | `(tactic| walk_at "CompS") => `(tactic| (k_here; (refine compS_I (by k_asm) (by k_asm) (by walk_at "M le") ?_); intro D' ys' h' tk' hy' F' N' off'; (try k_sweep)))
local macro_rules | `(tactic| walk_at "call builtin:str.join") => `(tactic| (k_here; (refine r_join (News.isList (by k_asm) (by k_mem)) (by assumption) (by walk_at "M le") ?_); intro _ _))
local macro_rules | `(tactic| walk_at "call builtin:ord") => `(tactic| (k_here; (with_reducible refine r_ord (by walk_at "M ne") ?_); intro _ _))
local macro_rules | `(tactic| walk_at "M units") => `(tactic| (show _ + 3 + 64 < cLine; (try dsimp only [ktrTop]); omega))
local macro_rules | `(tactic| walk_at "compareOp Eq ref ref") => `(tactic| (k_here; k_dflt (refine' r_isnil (News.isList ?n1 ?m1) ?c ?a (News.isList ?n2 ?m2) ?u ?_; (case c => assumption); (case n1 => k_asm); (case m1 => k_mem); (case n2 => k_asm); (case m2 => k_mem); (case a => walk_at "M asc"); (case u => walk_at "M units"); k_whole)))
local macro_rules | `(tactic| walk_at "compareOp NotEq ref ref") => `(tactic| (k_here; k_dflt (refine' r_notnil (News.isList ?n1 ?m1) ?c ?a (News.isList ?n2 ?m2) ?u ?_; (case c => assumption); (case n1 => k_asm); (case m1 => k_mem); (case n2 => k_asm); (case m2 => k_mem); (case a => walk_at "M asc"); (case u => walk_at "M units"); k_whole)))
local macro_rules | `(tactic| walk_at "M asc") => `(tactic| first
  | assumption
  | decide
  | ((with_reducible refine asc_bef ?_); walk_at "M asc")
  | ((with_reducible refine asc_aft ?_); walk_at "M asc")
  | ((with_reducible refine asc_rbef ?_); walk_at "M asc")
  | ((with_reducible refine asc_raft ?_); walk_at "M asc")
  | ((with_reducible refine asc_take ?_); walk_at "M asc")
  | ((with_reducible refine asc_drop ?_); walk_at "M asc")
  | ((with_reducible refine asc_filter ?_); walk_at "M asc")
  | ((with_reducible refine asc_dropW ?_); walk_at "M asc")
  | ((with_reducible refine asc_low ?_); walk_at "M asc")
  | ((with_reducible refine asc_app ?_ ?_) <;> walk_at "M asc"))
local macro_rules | `(tactic| walk_at "call builtin:str.lower") => `(tactic| (k_here; (with_reducible refine r_lower (by walk_at "M asc") (by walk_at "M le") ?_); intro _ _))
local macro_rules | `(tactic| walk_at "M jvb") => `(tactic| (refine' jvbI ?jvf ?jvn ?_; (case jvf => assumption); (case jvn => walk_at "M news")))
local macro_rules | `(tactic| walk_at "M sub") => `(tactic| (intro p hp; first | assumption | exact List.mem_cons_of_mem _ hp | exact List.mem_cons_of_mem _ (List.mem_cons_of_mem _ hp) | exact List.mem_cons_of_mem _ (List.mem_cons_of_mem _ (List.mem_cons_of_mem _ hp))))
local macro_rules | `(tactic| walk_at "M lt") => `(tactic| first | assumption | exact allLt_mem (by assumption) | exact allLt_mem (And.right (by assumption)) | exact allLt_mem (And.right (And.right (by assumption))) | exact allLt_mem (And.right (And.right (And.right (by assumption)))))
local macro_rules | `(tactic| walk_at "M ret5") => `(tactic| (refine' ret5 (by assumption) ?rF ?rN ?rS ?rL; (case rN => assumption); (case rF => assumption); (case rS => walk_at "M sub"); (case rL => walk_at "M lt")))
local macro_rules | `(tactic| walk_at "call builtin:str.lstrip") => `(tactic| (k_here; (with_reducible refine r_lstrip (by walk_at "M le") ?_); intro _ _))
local macro_rules | `(tactic| walk_at "eval Constant str") => `(tactic| (k_here; (with_reducible refine r_litE lit0 ?_)))
local macro_rules | `(tactic| walk_at "exec Assign cons") => `(tactic| (k_here; (with_reducible refine assign4 ?_)))

local macro_rules | `(tactic| walk_at "call builtin:str.replace") => `(tactic| (k_here; (refine r_replace ‹_› (Nat.ne_of_gt (Nat.lt_of_lt_of_le (by decide : 0 < 429) ‹_›)) (Nat.ne_of_lt (Nat.lt_of_lt_of_le ‹_› ‹_›)) (by walk_at "M le") ?_); intro _ _))

local macro_rules | `(tactic| walk_at "M runk") => `(tactic| repeat' (first | (with_reducible refine wpAny_execs_cons ?_) | walk_at "M step"))

local macro_rules | `(tactic| walk_at "compareOp In str str") => `(tactic| (k_here; (with_reducible refine r_in1S lit9 ‹_› ?_)))
local macro_rules | `(tactic| walk_at "compareOp NotIn str str") => `(tactic| (k_here; (with_reducible refine r_notinS lit9 ?_)))
local macro_rules | `(tactic| walk_at "subscriptTail") => `(tactic| (k_here; (with_reducible show wpAny _ _ (subscriptTail _ (Expr.Slice (some _) (some _) none _) (Value.str _ _) (Value.ref _)) _ _ _); (refine r_slice_mid (s := ⟨_, _, _, _, _⟩) (by k_asm) (by k_asm) ?ka ?kb ?kc ?kz ?_); (case ka => omega); (case kb => omega); (case kc => omega); (case kz => walk_at "M le"); intro h' _ _ F' N'; (try k_sweep)))
local macro_rules | `(tactic| walk_at "M gof") => `(tactic| repeat' ((fail_if_success (with_reducible show wpAny _ _ (exec (Stmt.For _ _ _ _ _) _) _ _ _)); walk_at "M step"))

local macro_rules | `(tactic| walk_at "M goe") => `(tactic| repeat' ((with_reducible show wpAny _ _ _ _ _ _); walk_at "M step"))

local macro_rules | `(tactic| walk_at "M ret4") => `(tactic| (first | refine' ret4N (by assumption) ?rF ?rN ?rS ?rL | refine' ret4I (by assumption) ?rF ?rN ?rS ?rL); (case rN => assumption); (case rF => assumption); (case rS => walk_at "M sub"); (case rL => walk_at "M lt"))
local macro_rules | `(tactic| walk_at "eval Constant str") => `(tactic| (k_here; (with_reducible refine r_lit lit20 ?_); intro _ _))
local macro_rules | `(tactic| walk_at "call type:int") => `(tactic| (k_here; (with_reducible show wpAny _ _ (call (Value.type "int") [Value.str _ _]) _ _ _); (refine KIN.call_text (by assumption) (by rw [S_len]; omega) ?_)))
local macro_rules | `(tactic| walk_at "M subg") => `(tactic| first | assumption | (refine List.mem_cons_of_mem _ ?_; walk_at "M subg"))
local macro_rules | `(tactic| walk_at "M sub") => `(tactic| (intro p hp; walk_at "M subg"))
local macro_rules | `(tactic| walk_at "M lt") => `(tactic| first | assumption | exact allLt_mem (by assumption) | exact allLt_mem (And.right (by assumption)) | exact allLt_mem (And.right (And.right (by assumption))) | exact allLt_mem (And.right (And.right (And.right (by assumption)))) | exact allLt_mem (And.right (And.right (And.right (And.right (by assumption))))) | exact allLt_mem (And.right (And.right (And.right (And.right (And.right (by assumption)))))) | exact allLt_mem (And.right (And.right (And.right (And.right (And.right (And.right (by assumption))))))))

theorem c_lput : ∀ (w : World) (mean : ExcName → Option Value) (mg mb : PySem.Str → Option Value) (news : List (Addr × Obj)) (sc au pa q f : List Nat) (t1 t2 t3 t4 t5 : Tok)
  (dp un : Nat) (gd : Option (List Code)) (cn : PySem.Str) (cs : Scope) (ad : Addr) (ccd : Value) (cl : List (PySem.Str × Addr)) (outer : List Env) (A₀ : Around) (base h₀ : Heap) (L : Addr) (m : PySem.Str → Option Value) (s : Shared) (Q E : Value → Shared → Prop)
  (B : Below A₀ base outer h₀) (F : Fr h₀ L s.heap m) (K : (hd.heap_39 w.params).In h₀) (N : News h₀ L s.heap news) (T : Top hd.view_39 LS mean mg mb h₀)
  (hk : cs.kind = .function) (hdp : dp + 2 < recursionLimit) (hun : un + 200 < cLine)
  (l1 : sc.length ≤ 1000) (l2 : au.length ≤ 1000) (l3 : pa.length ≤ 1000) (l4 : q.length ≤ 1000) (l5 : f.length ≤ 1000)
  (hret : ∀ (t : Tok) (h' : Heap) (tk' : Nat), Fr h₀ L h' m → News h₀ L h' news → Q (.str (S (lput sc au pa q f)) t) { s with heap := h', toks := tk' }),
  wpAny (model PySem.Challenge.rw_fe0372_01.row.prog w) (ktrTop dp un gd cn cs L ad ccd cl outer) (call (.ref 90) [.str (S sc) t1, .str (S au) t2, .str (S pa) t3, .str (S q) t4, .str (S f) t5]) Q E s := by
  k_fill
  w_top off
  intro w mean mg mb news sc au pa q f t1 t2 t3 t4 t5 dp un gd cn cs ad ccd cl outer A₀ base h₀ L m s Q E B F K N T hk hdp hun l1 l2 l3 l4 l5 hret
  refine wpAny_call ?_
  k_dflt cell_enter
  rename Fr _ _ _ _ => Fx
  obtain ⟨m1, F1, n1, n2, n3, n4, n5⟩ := frAbs Fx (fun m => m (PySem.Str.ofString "scheme") = some (.str (S sc) t1) ∧ m (PySem.Str.ofString "authority") = some (.str (S au) t2) ∧ m (PySem.Str.ofString "path") = some (.str (S pa) t3) ∧ m (PySem.Str.ofString "query") = some (.str (S q) t4) ∧ m (PySem.Str.ofString "fragment") = some (.str (S f) t5)) ⟨rfl, rfl, rfl, rfl, rfl⟩
  clear Fx
  walk_at "M go"
  rename Fr _ _ _ _ => Fx
  rename News _ _ _ _ => Nx
  obtain ⟨m2, F2, b1, b2, b3, b4, b5, b6⟩ := frAbs Fx (fun m => m (PySem.Str.ofString "hosted") = some (.bool (decide (sc ∈ hosts))) ∧ m (PySem.Str.ofString "scheme") = some (.str (S sc) t1) ∧ m (PySem.Str.ofString "authority") = some (.str (S au) t2) ∧ m (PySem.Str.ofString "path") = some (.str (S pa) t3) ∧ m (PySem.Str.ofString "query") = some (.str (S q) t4) ∧ m (PySem.Str.ofString "fragment") = some (.str (S f) t5))
    ⟨by walk_at "M fact", by walk_at "M fact", by walk_at "M fact", by walk_at "M fact", by walk_at "M fact", by walk_at "M fact"⟩
  clear Fx
  (try dsimp only)
  refine cutNF (fun m => m (PySem.Str.ofString "hosted") = some (.bool (decide (sc ∈ hosts))) ∧ m (PySem.Str.ofString "scheme") = some (.str (S sc) t1) ∧ m (PySem.Str.ofString "authority") = some (.str (S au) t2) ∧ Has m (PySem.Str.ofString "path") (rooted sc pa) ∧ m (PySem.Str.ofString "query") = some (.str (S q) t4) ∧ m (PySem.Str.ofString "fragment") = some (.str (S f) t5)) F2 Nx ?_ ?_
  · walk_at "M run"
    all_goals (walk_at "M jn"; refine ⟨by walk_at "M fact", by walk_at "M fact", by walk_at "M fact", ?_, by walk_at "M fact", by walk_at "M fact"⟩; walk_at "M has")
  · intro h3 k3 m3 F3 N3 ⟨c1, c2, c3, ⟨t6, c4⟩, c5, c6⟩
    clear F2 Nx b1 b2 b3 b4 b5 b6 n1 n2 n3 n4 n5
    have l6 : (rooted sc pa).length ≤ 1001 := by unfold rooted; split <;> (try rw [List.length_cons]) <;> omega
    generalize hr : rooted sc pa = ro at c4 l6
    walk_at "M go"
    refine cutV (if au ≠ [] ∨ sc ∈ hosts ∨ ro.take 2 = [47, 47] then [47, 47] else []) (by assumption) (by assumption) ?_ ?_
    · walk_at "M run"
      all_goals walk_at "M jv"
    · intro _ _ _ F4 N4
      walk_at "M go"
      refine cutV (if sc ≠ [] then sc ++ [58] else []) (by assumption) (by assumption) ?_ ?_
      · walk_at "M run"
        all_goals walk_at "M jv"
      · intro _ _ _ F5 N5
        walk_at "M go"
        refine cutV (if q ≠ [] then [63] ++ q else []) (by assumption) (by assumption) ?_ ?_
        · walk_at "M run"
          all_goals walk_at "M jv"
        · intro _ _ _ F6 N6
          walk_at "M go"
          refine cutV (if f ≠ [] then [35] ++ f else []) (by assumption) (by assumption) ?_ ?_
          · walk_at "M run"
            all_goals walk_at "M jv"
          · intro _ _ _ F7 N7
            walk_at "M go"
            subst hr
            exact hret _ _ _ (by assumption) (by walk_at "M news")


theorem c_usp : ∀ (w : World) (mean : ExcName → Option Value) (mg mb : PySem.Str → Option Value) (news : List (Addr × Obj)) (sc ne u q f : List Nat) (t1 t2 t3 t4 t5 : Tok)
  (dp un : Nat) (gd : Option (List Code)) (cn : PySem.Str) (cs : Scope) (ad : Addr) (ccd : Value) (cl : List (PySem.Str × Addr)) (outer : List Env) (A₀ : Around) (base h₀ : Heap) (L : Addr) (m : PySem.Str → Option Value) (s : Shared) (Q E : Value → Shared → Prop)
  (B : Below A₀ base outer h₀) (F : Fr h₀ L s.heap m) (K : (hd.heap_39 w.params).In h₀) (N : News h₀ L s.heap news) (T : Top hd.view_39 LS mean mg mb h₀)
  (hk : cs.kind = .function) (hdp : dp + 2 < recursionLimit) (hun : un + 200 < cLine)
  (l1 : sc.length ≤ 1000) (l2 : ne.length ≤ 1000) (l3 : u.length ≤ 1000) (l4 : q.length ≤ 1000) (l5 : f.length ≤ 1000)
  (hret : ∀ (t : Tok) (h' : Heap) (tk' : Nat), Fr h₀ L h' m → News h₀ L h' news → Q (.str (S (usp sc ne u q f)) t) { s with heap := h', toks := tk' }),
  wpAny (model PySem.Challenge.rw_fe0372_01.row.prog w) (ktrTop dp un gd cn cs L ad ccd cl outer) (call (.ref 69) [.str (S sc) t1, .str (S ne) t2, .str (S u) t3, .str (S q) t4, .str (S f) t5]) Q E s := by
  k_fill
  w_top off
  intro w mean mg mb news sc ne u q f t1 t2 t3 t4 t5 dp un gd cn cs ad ccd cl outer A₀ base h₀ L m s Q E B F K N T hk hdp hun l1 l2 l3 l4 l5 hret
  refine wpAny_call ?_
  k_dflt cell_enter
  rename Fr _ _ _ _ => Fx
  rename News _ _ _ _ => Nx
  obtain ⟨m1, F1, n1, n2, n3, n4, n5⟩ := frAbs Fx (fun m => m (PySem.Str.ofString "scheme") = some (.str (S sc) t1) ∧ m (PySem.Str.ofString "netloc") = some (.str (S ne) t2) ∧ m (PySem.Str.ofString "url") = some (.str (S u) t3) ∧ m (PySem.Str.ofString "query") = some (.str (S q) t4) ∧ m (PySem.Str.ofString "fragment") = some (.str (S f) t5)) ⟨rfl, rfl, rfl, rfl, rfl⟩
  clear Fx
  (try dsimp only)
  walk_at "M go"
  refine cutNF (fun m => m (PySem.Str.ofString "query") = some (.str (S q) t4) ∧ m (PySem.Str.ofString "fragment") = some (.str (S f) t5) ∧ Has m (PySem.Str.ofString "url") (usp1 sc ne u)) F1 Nx ?_ ?_
  · unfold usp1
    walk1
    refine cutBF (ne ≠ [] ∨ (sc ≠ [] ∧ sc ∈ uses) ∨ u.take 2 = [47, 47]) (by assumption) (by assumption) ?_ ?_
    · walk_at "M run"
      all_goals walk_at "M jb"
      all_goals walk_at "M iff"
    · intro b h2 k2 hb F2 N2
      clear F1 Nx
      by_cases hP : ne ≠ [] ∨ (sc ≠ [] ∧ sc ∈ uses) ∨ u.take 2 = [47, 47]
      · rw [if_pos (hb.mpr hP)]
        rw [if_pos hP]
        walk_at "M run"
        all_goals walk_at "M jn"
        all_goals refine ⟨by walk_at "M fact", by walk_at "M fact", ?_⟩
        all_goals (refine' hasI ?hsh ?hse; (case hsh => walk_at "M fact"); (case hse => walk_at "M if2"))
      · rw [if_neg (fun e => hP (hb.mp e))]
        rw [if_neg hP]
        walk_at "M run"
        all_goals walk_at "M jn"
        all_goals refine ⟨by walk_at "M fact", by walk_at "M fact", ?_⟩
        all_goals walk_at "M has"
  · intro h3 k3 m3 F3 N3 ⟨c1, c2, t6, c3⟩
    clear F1 Nx n1 n2 n3 n4 n5
    have l6 := usp1_le sc ne u
    have l6 : (usp1 sc ne u).length ≤ 3005 := by omega
    generalize hr : usp1 sc ne u = v at c3 l6
    walk_at "M go"
    refine cutNF (fun m => m (PySem.Str.ofString "fragment") = some (.str (S f) t5) ∧ Has m (PySem.Str.ofString "url") (if q ≠ [] then v ++ [63] ++ q else v)) F3 N3 ?_ ?_
    · walk_at "M run"
      all_goals walk_at "M jn"
      all_goals refine ⟨by walk_at "M fact", ?_⟩
      all_goals walk_at "M has"
    · intro h4 k4 m4 F4 N4 ⟨d1, t7, d2⟩
      clear F3 N3
      walk_at "M go"
      refine cutV (if f ≠ [] then (if q ≠ [] then v ++ [63] ++ q else v) ++ [35] ++ f else (if q ≠ [] then v ++ [63] ++ q else v)) (by assumption) (by assumption) ?_ ?_
      · walk_at "M run"
        all_goals walk_at "M jv"
      · intro _ _ _ F5 N5
        walk_at "M run"
        subst hr
        exact hret _ _ _ (by assumption) (by walk_at "M news")


theorem c_mk : ∀ (w : World) (mean : ExcName → Option Value) (mg mb : PySem.Str → Option Value) (news : List (Addr × Obj)) (us pw ho : Option (List Nat)) (po : Option Int) (t1 t2 t3 t4 : Tok)
  (dp un : Nat) (gd : Option (List Code)) (cn : PySem.Str) (cs : Scope) (ad : Addr) (ccd : Value) (cl : List (PySem.Str × Addr)) (outer : List Env) (A₀ : Around) (base h₀ : Heap) (L : Addr) (m : PySem.Str → Option Value) (s : Shared) (Q E : Value → Shared → Prop)
  (B : Below A₀ base outer h₀) (F : Fr h₀ L s.heap m) (K : (hd.heap_39 w.params).In h₀) (N : News h₀ L s.heap news) (T : Top hd.view_39 LS mean mg mb h₀)
  (hk : cs.kind = .function) (hdp : dp + 2 < recursionLimit) (hun : un + 200 < cLine)
  (l1 : ∀ l, us = some l → l.length ≤ 1000) (l2 : ∀ l, pw = some l → l.length ≤ 1000) (l3 : ∀ l, ho = some l → l.length ≤ 1000) (l4 : ∀ p, po = some p → 0 ≤ p ∧ p < 65536) (lne : us ≠ some [])
  (hret : ∀ (t : Tok) (h' : Heap) (tk' : Nat), Fr h₀ L h' m → News h₀ L h' news → Q (.str (S (mkn us pw ho po)) t) { s with heap := h', toks := tk' }),
  wpAny (model PySem.Challenge.rw_fe0372_01.row.prog w) (ktrTop dp un gd cn cs L ad ccd cl outer) (call (.ref 77) [ov us t1, ov pw t2, ov ho t3, pv po t4]) Q E s := by
  k_fill
  w_top off
  intro w mean mg mb news us pw ho po t1 t2 t3 t4 dp un gd cn cs ad ccd cl outer A₀ base h₀ L m s Q E B F K N T hk hdp hun l1 l2 l3 l4 lne hret
  refine wpAny_call ?_
  refine' code_def ?k1 ?k2 ?k3 ?k4 ?k5 ?kA ?kF ?kK ?k6 ?k7 ?k8 ?k9 ?kB ?_ ?c2 ?c3 ?c4 ?c5
  case k1 => exact B
  case k2 => exact F
  case k3 => exact K
  case k4 => exact N
  case k5 => exact T
  case kA => exact rfl
  case kF => exact rfl
  case kK => exact hk
  case k6 => k_is
  case k7 => k_is
  case k8 => ktr_room
  case k9 => exact binds_K (by k_in) rfl (by k_is) rfl rfl rfl
  case kB => exact locs rfl
  case c2 => exact rfl
  case c3 => exact rfl
  case c4 => exact rfl
  case c5 => decide
  intro g' L' h' FG' F' N' B' X' T'
  (try dsimp only)
  (try k_lift B')
  (try k_fold)
  obtain ⟨m1, F1, n1, n2, n3, n4, n5⟩ := frAbs F' (fun m => m (PySem.Str.ofString "user") = some (ov us t1) ∧ m (PySem.Str.ofString "password") = some (ov pw t2) ∧ m (PySem.Str.ofString "host") = some (ov ho t3) ∧ m (PySem.Str.ofString "port") = some (pv po t4) ∧ m (PySem.Str.ofString "encode") = some (.bool false)) ⟨rfl, rfl, rfl, rfl, rfl⟩
  clear F'
  rcases ho with _ | h
  · simp only [ov] at n3
    walk_at "M run"
    exact hret _ _ _ (by assumption) (by walk_at "M news")
  · have l3 := l3 h rfl
    simp only [ov] at n3
    refine wpAny_execs_cons ?_
    refine cutNF (fun m => m (PySem.Str.ofString "user") = some (ov us t1) ∧ m (PySem.Str.ofString "password") = some (ov pw t2) ∧ m (PySem.Str.ofString "host") = some (.str (S h) t3) ∧ m (PySem.Str.ofString "port") = some (pv po t4) ∧ m (PySem.Str.ofString "encode") = some (.bool false)) F1 N' ?_ ?_
    · walk_at "M run"
      walk_at "M jn"
      exact ⟨n1, n2, n3, n4, n5⟩
    intro h2 k2 m2 F2 N2 ⟨n1, n2, n3, n4, n5⟩
    clear F1 N'
    (try dsimp only)
    walk_at "M go"
    rename Fr _ _ _ _ => Fx
    rename News _ _ _ _ => Nx
    obtain ⟨m3, F3, n1, n2, n4, n5, n6⟩ := frAbs Fx (fun m => m (PySem.Str.ofString "user") = some (ov us t1) ∧ m (PySem.Str.ofString "password") = some (ov pw t2) ∧ m (PySem.Str.ofString "port") = some (pv po t4) ∧ m (PySem.Str.ofString "encode") = some (.bool false) ∧ m (PySem.Str.ofString "ret") = some (.str (S h) t3)) ⟨n1, n2, n4, n5, rfl⟩
    clear Fx n3
    (try dsimp only)
    refine cutNF (fun m => m (PySem.Str.ofString "user") = some (ov us t1) ∧ m (PySem.Str.ofString "password") = some (ov pw t2) ∧ m (PySem.Str.ofString "encode") = some (.bool false) ∧ Has m (PySem.Str.ofString "ret") (mkn none none (some h) po)) F3 Nx ?_ ?_
    · rcases po with _ | po
      all_goals simp only [pv] at n4
      all_goals (try (have l4 := l4 _ rfl))
      all_goals (try (have l5 := dig_len l4.1 l4.2))
      all_goals walk_at "M run"
      all_goals walk_at "M jn"
      all_goals exact ⟨n1, n2, n5, hasI (by walk_at "M fact") (by simp [mkn])⟩
    intro h3 k3 m4 F4 N4 ⟨n1, n2, n5, tr, n6⟩
    clear F3 Nx n4
    (try dsimp only)
    have l6 : (mkn none none (some h) po).length ≤ 1100 := by
      rcases po with _ | po
      · exact Nat.le_trans l3 (by decide)
      · have l4 := l4 _ rfl
        have l5 := dig_len l4.1 l4.2
        show (h ++ [58] ++ dig po).length ≤ 1100
        simp only [List.length_append, List.length_cons, List.length_nil]
        omega
    obtain ⟨R, hR⟩ : ∃ R, R = mkn none none (some h) po := ⟨_, rfl⟩
    rw [← hR] at n6 l6
    rcases us with _ | us <;> rcases pw with _ | pw
    all_goals simp only [ov] at n1 n2
    all_goals (try (have l1 := l1 _ rfl))
    all_goals (try (have l2 := l2 _ rfl))
    all_goals walk_at "M run"
    all_goals first
      | (refine retS hret ?_ (by assumption) (by walk_at "M news"); subst hR; simp [mkn]; done)
      | (exfalso; simp_all; done)


theorem c_lp : ∀ (w : World) (mean : ExcName → Option Value) (mg mb : PySem.Str → Option Value) (news : List (Addr × Obj)) (u : List Nat) (t1 : Tok)
  (dp un : Nat) (gd : Option (List Code)) (cn : PySem.Str) (cs : Scope) (ad : Addr) (ccd : Value) (cl : List (PySem.Str × Addr)) (outer : List Env) (A₀ : Around) (base h₀ : Heap) (L : Addr) (m : PySem.Str → Option Value) (s : Shared) (Q E : Value → Shared → Prop)
  (B : Below A₀ base outer h₀) (F : Fr h₀ L s.heap m) (K : (hd.heap_39 w.params).In h₀) (N : News h₀ L s.heap news) (T : Top hd.view_39 LS mean mg mb h₀)
  (hk : cs.kind = .function) (hdp : dp + 2 < recursionLimit) (hun : un + 200 < cLine)
  (l1 : u.length ≤ 1000) (a1 : ∀ c ∈ u, c < 128)
  (hret : ∀ ta tb tc td te (a : Addr) (h' : Heap) (tk' : Nat), Fr h₀ L h' m → News h₀ L h' ((a, tup5 (pS (pT u)) (pA (pR (pT u))) (pP (pR (pT u))) (pQ u) (pF u) ta tb tc td te) :: news) → (∀ p ∈ news, p.1 < a) → Q (.ref a) { s with heap := h', toks := tk' }),
  wpAny (model PySem.Challenge.rw_fe0372_01.row.prog w) (ktrTop dp un gd cn cs L ad ccd cl outer) (call (.ref 83) [.str (S u) t1]) Q E s := by
  k_fill
  w_top off
  intro w mean mg mb news u t1 dp un gd cn cs ad ccd cl outer A₀ base h₀ L m s Q E B F K N T hk hdp hun l1 a1 hret
  refine wpAny_call ?_
  k_dflt cell_enter
  rename Fr _ _ _ _ => Fx
  rename News _ _ _ _ => Nx
  obtain ⟨m1, F1, n1⟩ := frAbs Fx (fun m => m (PySem.Str.ofString "text") = some (.str (S u) t1)) rfl
  clear Fx
  (try dsimp only)
  walk_at "M go"
  refine cutNF0 (fun m => Has m (PySem.Str.ofString "text") (u.dropWhile fun c => decide (c < 33))) F1 Nx ?_ ?_
  · refine While_inv2 (fun n m nx => nx = news ∧ ∃ a t, m (PySem.Str.ofString "text") = some (.str (S a) t) ∧ a.length = n ∧ a.length ≤ 1000 ∧ (a.dropWhile fun c => decide (c < 33)) = (u.dropWhile fun c => decide (c < 33))) F1 Nx ⟨rfl, u, t1, n1, rfl, l1, rfl⟩ ?_
    clear F1 Nx n1
    rintro n m2 nx h2 k2 F2 N2 ⟨rfl, a, t2, n2, rfl, l2, e2⟩
    walk_at "M run"
    · have hne : a ≠ [] := by assumption
      have hlt : ((a.headD 0 : Nat) : Int) < 33 := by assumption
      cases a with
      | nil => exact absurd rfl hne
      | cons c r =>
        have hlt' : c < 33 := by have q : ((c : Nat) : Int) < 33 := hlt; omega
        refine whileI (n' := r.length) (by assumption) (by assumption) (by simp) ⟨rfl, r, _, by walk_at "M fact", rfl, by simp at l2; omega, ?_⟩
        rw [← e2, List.dropWhile_cons_of_pos (by simpa using hlt')]
    · walk_at "M jn"
      refine hasI n2 ?_
      rw [← e2]
      have hne : a ≠ [] := by assumption
      have hlt : ¬ ((a.headD 0 : Nat) : Int) < 33 := by assumption
      cases a with
      | nil => exact absurd rfl hne
      | cons c r =>
        have hlt' : ¬ c < 33 := by have q : ¬ ((c : Nat) : Int) < 33 := hlt; omega
        rw [List.dropWhile_cons_of_neg (by simpa using hlt')]
    · walk_at "M jn"
      refine hasI n2 ?_
      rw [← e2]
      have hne : a = [] := Decidable.of_not_not (by assumption)
      subst hne; rfl
  · intro h3 k3 m3 F3 N3 ⟨t3, c1⟩
    clear F1 Nx n1
    walk_at "M go"
    rename Fr _ _ _ _ => Fx
    obtain ⟨m4, F4, ⟨q1, d1⟩, ⟨q2, d2⟩, ⟨q3, d3⟩, ⟨q4, d4⟩, ⟨q5, d5⟩, ⟨q6, d6⟩⟩ := frAbs Fx (fun m => Has m (PySem.Str.ofString "text") (pT u) ∧ Has m (PySem.Str.ofString "query") (pQ u) ∧ Has m (PySem.Str.ofString "fragment") (pF u) ∧ Has m (PySem.Str.ofString "head") (bef 58 (pT u)) ∧ Has m (PySem.Str.ofString "mark") (if 58 ∈ pT u then [58] else []) ∧ Has m (PySem.Str.ofString "rest") (aft 58 (pT u))) ⟨⟨_, rfl⟩, ⟨_, rfl⟩, ⟨_, rfl⟩, ⟨_, rfl⟩, ⟨_, rfl⟩, ⟨_, rfl⟩⟩
    rename News _ _ _ _ => Nx
    have N4 := newsTl (newsTl (newsTl (newsTl Nx)))
    clear Fx Nx
    have e1 : (pT u).length ≤ 1000 := by unfold pT clean; walk_at "M le"
    have e2 : (pQ u).length ≤ 1000 := by unfold pQ clean; walk_at "M le"
    have e3 : (pF u).length ≤ 1000 := by unfold pF clean; walk_at "M le"
    have b1 : ∀ c ∈ pT u, c < 128 := by unfold pT clean; walk_at "M asc"
    generalize pT u = t at *
    generalize pQ u = qq at *
    generalize pF u = ff at *
    (try dsimp only)
    refine cutVB (Named t) F4 N4 ?_ ?_
    · walk_at "M run"
      all_goals walk_at "M jvb"
      · have ha : (if 58 ∈ t then [58] else []) = [58] := by assumption
        have hc : 58 ∈ t := by
          by_cases h : 58 ∈ t
          · exact h
          · rw [if_neg h] at ha; cases ha
        have hn : bef 58 t ≠ [] := by assumption
        rw [decide_eq_true_iff, List.filter_eq_nil_iff]
        constructor
        · intro h
          exact ⟨hc, hn, fun c hm => Decidable.of_not_not fun hx => h c hm (decide_eq_true hx)⟩
        · intro h c hm
          exact fun hx => absurd (h.2.2 c hm) (of_decide_eq_true hx)
      · have hn : ¬ bef 58 t ≠ [] := by assumption
        rw [decide_eq_true_iff]
        exact ⟨fun h => absurd h hn, fun h => absurd h.2.1 hn⟩
      · have ha : ¬ (if 58 ∈ t then [58] else []) = [58] := by assumption
        rw [decide_eq_true_iff]
        exact ⟨fun h => absurd h ha, fun h => absurd (if_pos h.1) ha⟩
    · intro b h5 k5 hb F5 N5
      clear F4 N4
      by_cases hN : Named t
      · obtain rfl : b = true := hb.mpr hN
        unfold pS pR at hret
        rw [if_pos hN, if_pos hN] at hret
        walk_at "M run"
        · have h2 : (aft 58 t).take 2 = [47, 47] := by assumption
          unfold pA pP at hret
          rw [if_pos h2, if_pos h2, ← mark_rest 47] at hret
          walk_at "M ret5"
        · have h2 : ¬ (aft 58 t).take 2 = [47, 47] := by assumption
          unfold pA pP at hret
          rw [if_neg h2, if_neg h2] at hret
          walk_at "M ret5"
      · obtain rfl : b = false := by cases b with | false => rfl | true => exact absurd (hb.mp rfl) hN
        unfold pS pR at hret
        rw [if_neg hN, if_neg hN] at hret
        walk_at "M run"
        · have h2 : t.take 2 = [47, 47] := by assumption
          unfold pA pP at hret
          rw [if_pos h2, if_pos h2, ← mark_rest 47] at hret
          walk_at "M ret5"
        · have h2 : ¬ t.take 2 = [47, 47] := by assumption
          unfold pA pP at hret
          rw [if_neg h2, if_neg h2] at hret
          walk_at "M ret5"


theorem c_su : ∀ (w : World) (mean : ExcName → Option Value) (mg mb : PySem.Str → Option Value) (news : List (Addr × Obj)) (u : List Nat) (t1 : Tok)
  (dp un : Nat) (gd : Option (List Code)) (cn : PySem.Str) (cs : Scope) (ad : Addr) (ccd : Value) (cl : List (PySem.Str × Addr)) (outer : List Env) (A₀ : Around) (base h₀ : Heap) (L : Addr) (m : PySem.Str → Option Value) (s : Shared) (Q E : Value → Shared → Prop)
  (B : Below A₀ base outer h₀) (F : Fr h₀ L s.heap m) (K : (hd.heap_39 w.params).In h₀) (N : News h₀ L s.heap news) (T : Top hd.view_39 LS mean mg mb h₀)
  (hk : cs.kind = .function) (hdp : dp + 2 < recursionLimit) (hun : un + 200 < cLine)
  (l1 : u.length ≤ 1000) (a1 : ∀ c ∈ u, c < 128) (htk : 429 ≤ s.toks)
  (hret : 92 ∉ nA (pR (clean u)) → ∀ ta tb tc td te (a : Addr) (h' : Heap) (tk' : Nat), Fr h₀ L h' m → News h₀ L h' ((a, tup5 (pS (clean u)) (nA (pR (clean u))) (bef 63 (bef 35 (nU (pR (clean u))))) (aft 63 (bef 35 (nU (pR (clean u))))) (aft 35 (nU (pR (clean u)))) ta tb tc td te) :: news) → (∀ p ∈ news, p.1 < a) → Q (.ref a) { s with heap := h', toks := tk' })
  (hraise : 92 ∈ nA (pR (clean u)) → ∀ (e t : Addr) (vs : List Value) (g h' : Heap) (tk' : Nat), Fr h₀ L g m → g.UpToSlots h' → RaisedK base (envX cn cs L ad ccd cl :: outer) e (.type "ValueError") t vs news h' → E (.ref e) { s with heap := h', toks := tk' }),
  wpAny (model PySem.Challenge.rw_fe0372_01.row.prog w) (ktrTop dp un gd cn cs L ad ccd cl outer) (call (.ref 55) [.str (S u) t1]) Q E s := by
  k_fill
  w_top off
  intro w mean mg mb news u t1 dp un gd cn cs ad ccd cl outer A₀ base h₀ L m s Q E B F K N T hk hdp hun l1 a1 htk hret hraise
  refine wpAny_call ?_
  k_dflt cell_enter
  rename Fr _ _ _ _ => Fx
  rename News _ _ _ _ => Nx
  obtain ⟨m1, F1, n1⟩ := frAbs Fx (fun m => m (PySem.Str.ofString "url") = some (.str (S u) t1)) rfl
  clear Fx
  (try dsimp only)
  refine wpAny_execs_cons ?_
  refine cutNT 429 (fun m => Has m (PySem.Str.ofString "url") (u.dropWhile fun c => decide (c < 33))) (Nat.le_succ_of_le htk) F1 Nx ?_ ?_
  · walk_at "M run"
    walk_at "M jn"
    refine' hasI ?hsh ?hse
    case hsh => walk_at "M fact"
    case hse => exact congrArg (fun f => List.dropWhile f u) ws33
  · intro h2 k2 m2 hk2 F2 N2 ⟨t2, n2⟩
    clear F1 Nx n1
    have l2 : (u.dropWhile fun c => decide (c < 33)).length ≤ 1000 := by walk_at "M le"
    have a2 : ∀ c ∈ (u.dropWhile fun c => decide (c < 33)), c < 128 := by walk_at "M asc"
    have hcl : clean u = (u.dropWhile fun c => decide (c < 33)).filter fun c => decide (c ∉ [9, 13, 10]) := rfl
    generalize (u.dropWhile fun c => decide (c < 33)) = v at *
    (try dsimp only)
    refine wpAny_execs_cons ?_
    refine cutNF (fun m => Has m (PySem.Str.ofString "url") (clean u)) F2 N2 ?_ ?_
    · refine for_list F2 429 (fun i m => Has m (PySem.Str.ofString "url") (([9, 13, 10].take i).foldl (fun l c => l.filter (· != c)) v)) rfl rfl rfl ?_ (by intro _; rfl)
      walk1
      have h48 : ∃ n, (hd.heap_39 w.params).lookup 48 = some ⟨.type "list", none, .seq [.str (S [9]) 306, .str (S [13]) 307, .str (S [10]) 308].toArray n, #[]⟩ := ⟨_, rfl⟩
      obtain ⟨n48, h48⟩ := h48
      refine ⟨48, [.str (S [9]) 306, .str (S [13]) 307, .str (S [10]) 308], _, _, rfl, lstK (by assumption) h48, hk2, F2, N2, ⟨t2, n2⟩, ?_, ?_⟩
      · rintro i b m4 h4 k4 I it E' hb hk4 ⟨t4, n4⟩ F4 N4
        have hb' : ∃ c t, b = .str (S [c]) t ∧ t ≠ 0 ∧ t < 429 ∧ [9, 13, 10][i]? = some c := by
          match i, hb with
          | 0, hb => cases hb; exact ⟨9, 306, rfl, by decide, by decide, rfl⟩
          | 1, hb => cases hb; exact ⟨13, 307, rfl, by decide, by decide, rfl⟩
          | 2, hb => cases hb; exact ⟨10, 308, rfl, by decide, by decide, rfl⟩
          | n + 3, hb => simp at hb
        obtain ⟨c, tb, rfl, ht0, ht1, hc⟩ := hb'
        have e4 : (([9, 13, 10].take (i + 1)).foldl (fun l c => l.filter (· != c)) v) = (([9, 13, 10].take i).foldl (fun l c => l.filter (· != c)) v).filter (· != c) := by
          rw [List.take_add_one, hc]; simp
        have l4 : (([9, 13, 10].take i).foldl (fun l c => l.filter (· != c)) v).length ≤ 1000 := fold_le _ v l2
        rw [e4]
        generalize (([9, 13, 10].take i).foldl (fun l c => l.filter (· != c)) v) = x at *
        walk_at "M runk"
        all_goals unfold TurnJ
        all_goals walk_at "M jn"
        · refine hasI (by walk_at "M fact") rfl
        · refine hasI n4 ?_
          refine (List.filter_eq_self.mpr ?_).symm
          intro y hy
          simp only [bne_iff_ne, ne_eq]
          rintro rfl
          simp_all
      · rintro h4 k4 m4 hk4 ⟨t4, n4⟩ F4 N4
        refine jnI F4 N4 (hasI n4 ?_)
        rw [hcl]
        simp only [List.length_cons, List.length_nil, List.take_succ_cons, List.take_zero, List.foldl_cons, List.foldl_nil, List.filter_filter]
        congr 1
        funext c
        rw [Bool.eq_iff_iff]
        simp only [Bool.and_eq_true, bne_iff_ne, ne_eq, decide_eq_true_eq, List.mem_cons, List.not_mem_nil, or_false, not_or]
        constructor
        · rintro ⟨h1, h2, h3⟩
          exact ⟨h3, h2, h1⟩
        · rintro ⟨h1, h2, h3⟩
          exact ⟨h3, h2, h1⟩
    · intro h3 k3 m3 F3 N3 ⟨t3, n3⟩
      clear F2 N2
      have l3 : (clean u).length ≤ 1000 := by unfold clean; walk_at "M le"
      have a3 : ∀ c ∈ clean u, c < 128 := by unfold clean; walk_at "M asc"
      generalize clean u = v at *
      clear htk hk2 n2 l2 a2 l1 a1
      (try dsimp only)
      refine wpAny_execs_cons ?_
      refine assign4 ?_
      walk_at "M go"
      rename Fr _ _ _ _ => Fx
      obtain ⟨m4, F4, n4, ⟨q1, d1⟩, ⟨q2, d2⟩, ⟨q3, d3⟩, ⟨q4, d4⟩, ⟨q5, d5⟩⟩ := frAbs Fx (fun m => m (PySem.Str.ofString "url") = some (.str (S v) t3) ∧ Has m (PySem.Str.ofString "scheme") [] ∧ Has m (PySem.Str.ofString "netloc") [] ∧ Has m (PySem.Str.ofString "query") [] ∧ Has m (PySem.Str.ofString "fragment") [] ∧ ∃ t, m (PySem.Str.ofString "i") = some (.int (idx 58 v) t)) ⟨n3, ⟨_, rfl⟩, ⟨_, rfl⟩, ⟨_, rfl⟩, ⟨_, rfl⟩, ⟨_, rfl⟩⟩
      rename News _ _ _ _ => N4
      clear Fx n3
      (try dsimp only)
      refine cutNF (fun m => Has m (PySem.Str.ofString "url") (pR v) ∧ Has m (PySem.Str.ofString "scheme") (pS v) ∧ Has m (PySem.Str.ofString "netloc") [] ∧ Has m (PySem.Str.ofString "query") [] ∧ Has m (PySem.Str.ofString "fragment") []) F4 N4 ?_ ?_
      · by_cases hP : 58 ∈ v ∧ bef 58 v ≠ []
        · have hi : idx 58 v = ((bef 58 v).length : Int) := idx_in hP.1
          have hp := bef_len_pos hP.2
          rw [hi] at d5
          obtain ⟨hv, hbe⟩ := bef_hd hP.2
          have hbl := bef_le 58 v
          walk_at "M gof"
          · refine for_text (· ∈ scs) (by assumption) rfl rfl rfl ?_ (by intro _; rfl)
            walk_at "M goe"
            refine ⟨_, _, m4, _, rfl, by assumption, by assumption, ?_, ?_, ?_⟩
            · rintro c u5 m5 h5 k5 I it E' hc n5 e5 F5 N5
              walk_at "M run"
              · refine turnB F5 N5 e5 (by assumption)
              · refine turnN F5 N5 e5 (Decidable.of_not_not (by assumption))
            · rintro h5 k5 m5 ⟨c, hc, hcn⟩ F5 N5 e5
              have hN : ¬ Named v := fun h => hcn (h.2.2 c (by rw [bef_take]; exact List.mem_of_mem_drop hc))
              refine wpAny_execs_nil ?_
              refine jnI F5 N5 ?_
              exact ⟨hasI ((e5 _ (by decide)).trans n4) (if_neg hN).symm, hasI ((e5 _ (by decide)).trans d1) (if_neg hN).symm, ⟨_, (e5 _ (by decide)).trans d2⟩, ⟨_, (e5 _ (by decide)).trans d3⟩, ⟨_, (e5 _ (by decide)).trans d4⟩⟩
            · rintro h5 k5 m5 E' hall F5 N5 e5
              have hN : Named v := by
                refine ⟨hP.1, hP.2, fun c hc => ?_⟩
                rw [hbe] at hc
                rcases List.mem_cons.mp hc with rfl | hc
                · assumption
                · exact hall c (by rw [bef_take] at hc; exact hc)
              replace n4 := (e5 _ (by decide)).trans n4
              replace d1 := (e5 _ (by decide)).trans d1
              replace d2 := (e5 _ (by decide)).trans d2
              replace d3 := (e5 _ (by decide)).trans d3
              replace d4 := (e5 _ (by decide)).trans d4
              replace d5 := (e5 _ (by decide)).trans d5
              walk_at "M run"
              walk_at "M jn"
              refine ⟨hasI (by walk_at "M fact") ?_, hasI (by walk_at "M fact") ?_, hasI (by walk_at "M fact") rfl, hasI (by walk_at "M fact") rfl, hasI (by walk_at "M fact") rfl⟩
              · rw [pR, if_pos hN, ← bef_drop]; rfl
              · rw [pS, if_pos hN]
                exact congrArg (List.map low) (bef_take 58 v).symm
          · have hx : ¬ v.headD 0 ∈ scs := by assumption
            have hN : ¬ Named v := fun h => hx (h.2.2 _ (by rw [hbe]; exact List.mem_cons_self))
            walk_at "M jn"
            exact ⟨hasI n4 (if_neg hN).symm, hasI d1 (if_neg hN).symm, ⟨_, d2⟩, ⟨_, d3⟩, ⟨_, d4⟩⟩
        · have hni : ¬ 0 < idx 58 v := fun h => hP (idx_pos h)
          have hN : ¬ Named v := fun h => hP ⟨h.1, h.2.1⟩
          walk_at "M gof"
          walk_at "M jn"
          exact ⟨hasI n4 (if_neg hN).symm, hasI d1 (if_neg hN).symm, ⟨_, d2⟩, ⟨_, d3⟩, ⟨_, d4⟩⟩
      · intro h5 k5 m5 F5 N5 ⟨⟨q6, d6⟩, ⟨q7, d7⟩, ⟨q8, d8⟩, ⟨q9, d9⟩, ⟨q10, d10⟩⟩
        clear F4 N4 n4 d1 d2 d3 d4 d5
        walk_at "M go"
        rename Fr _ _ _ _ => Fx
        obtain ⟨m6, F6, g1, g2, g3, g4, g5, g6, g7⟩ := frAbs Fx (fun m => m (PySem.Str.ofString "url") = some (.str (S (pR v)) q6) ∧ m (PySem.Str.ofString "scheme") = some (.str (S (pS v)) q7) ∧ m (PySem.Str.ofString "netloc") = some (.str (S []) q8) ∧ m (PySem.Str.ofString "query") = some (.str (S []) q9) ∧ m (PySem.Str.ofString "fragment") = some (.str (S []) q10) ∧ m (PySem.Str.ofString "has_hash") = some (.bool (decide (35 ∈ pR v))) ∧ m (PySem.Str.ofString "has_question_mark") = some (.bool (decide (63 ∈ pR v)))) ⟨d6, d7, d8, d9, d10, rfl, rfl⟩
        rename News _ _ _ _ => N6
        clear Fx d6 d7 d8 d9 d10
        have l6 : (pR v).length ≤ 1000 := by unfold pR; walk_at "M le"
        have a6 : ∀ c ∈ pR v, c < 128 := by unfold pR; split; exact asc_aft a3; exact a3
        have l7 : (pS v).length ≤ 1000 := by unfold pS; walk_at "M le"
        generalize pR v = r at *
        generalize pS v = sc at *
        (try dsimp only)
        refine cutNF (fun m => 92 ∉ nA r ∧ Has m (PySem.Str.ofString "url") (nU r) ∧ Has m (PySem.Str.ofString "scheme") sc ∧ Has m (PySem.Str.ofString "netloc") (nA r) ∧ Has m (PySem.Str.ofString "query") [] ∧ Has m (PySem.Str.ofString "fragment") [] ∧ m (PySem.Str.ofString "has_hash") = some (.bool (decide (35 ∈ r))) ∧ m (PySem.Str.ofString "has_question_mark") = some (.bool (decide (63 ∈ r)))) F6 N6 ?_ ?_
        · by_cases h2 : r.take 2 = [47, 47]
          · walk_at "M step"
            walk_at "M go"
            · rename Fr _ _ _ _ => Fx
              rename News _ _ _ _ => N7
              refine cutNF (fun m => ∃ cs, Has m (PySem.Str.ofString "delim_chars") cs ∧ (∀ x ∈ r, x ∈ cs ↔ x ∈ [47, 63, 35]) ∧ m (PySem.Str.ofString "url") = some (.str (S r) q6) ∧ m (PySem.Str.ofString "scheme") = some (.str (S sc) q7) ∧ m (PySem.Str.ofString "netloc") = some (.str (S []) q8) ∧ m (PySem.Str.ofString "query") = some (.str (S []) q9) ∧ m (PySem.Str.ofString "fragment") = some (.str (S []) q10) ∧ m (PySem.Str.ofString "has_hash") = some (.bool (decide (35 ∈ r))) ∧ m (PySem.Str.ofString "has_question_mark") = some (.bool (decide (63 ∈ r))) ∧ ∃ t, m (PySem.Str.ofString "delim") = some (.int (r.length : Int) t)) Fx N7 ?_ ?_
              · walk_at "M run"
                all_goals walk_at "M jn"
                all_goals refine ⟨_, ⟨_, rfl⟩, ?_, by walk_at "M fact", by walk_at "M fact", by walk_at "M fact", by walk_at "M fact", by walk_at "M fact", by walk_at "M fact", by walk_at "M fact", _, rfl⟩
                all_goals intro x hx
                all_goals have e63 : x = 63 → 63 ∈ r := fun e => e ▸ hx
                all_goals have e35 : x = 35 → 35 ∈ r := fun e => e ▸ hx
                all_goals simp only [List.mem_cons, List.not_mem_nil, or_false]
                all_goals by_cases y63 : x = 63 <;> by_cases y35 : x = 35 <;> simp_all
              · intro h8 k8 m8 F8 N8 ⟨cs, ⟨u8, p1⟩, hcs, p2, p3, p4, p5, p6, p7, p8, u9, p9⟩
                clear Fx N7 g1 g2 g3 g4 g5 g6 g7
                refine wpAny_execs_cons ?_
                refine cutNF (fun m => m (PySem.Str.ofString "url") = some (.str (S r) q6) ∧ m (PySem.Str.ofString "scheme") = some (.str (S sc) q7) ∧ m (PySem.Str.ofString "query") = some (.str (S []) q9) ∧ m (PySem.Str.ofString "fragment") = some (.str (S []) q10) ∧ m (PySem.Str.ofString "has_hash") = some (.bool (decide (35 ∈ r))) ∧ m (PySem.Str.ofString "has_question_mark") = some (.bool (decide (63 ∈ r))) ∧ ∃ t, m (PySem.Str.ofString "delim") = some (.int (dl cs r : Int) t)) F8 N8 ?_ ?_
                · refine for_textJ F8 (fun i m => m (PySem.Str.ofString "url") = some (.str (S r) q6) ∧ m (PySem.Str.ofString "scheme") = some (.str (S sc) q7) ∧ m (PySem.Str.ofString "query") = some (.str (S []) q9) ∧ m (PySem.Str.ofString "fragment") = some (.str (S []) q10) ∧ m (PySem.Str.ofString "has_hash") = some (.bool (decide (35 ∈ r))) ∧ m (PySem.Str.ofString "has_question_mark") = some (.bool (decide (63 ∈ r))) ∧ ∃ t, m (PySem.Str.ofString "delim") = some (.int (dl (cs.take i) r : Int) t)) rfl rfl rfl ?_ (by intro _; rfl)
                  walk_at "M goe"
                  refine ⟨cs, _, m8, _, rfl, by assumption, by assumption, ⟨p2, p3, p5, p6, p7, p8, _, by rw [List.take_zero, dl_nil h2]; exact p9⟩, ?_, ?_⟩
                  · rintro i c u9 m9 h9 k9 I it E' hc ⟨c1, c2, c3, c4, c5, c6, u10, c7⟩ F9 N9
                    have et : cs.take (i + 1) = cs.take i ++ [c] := by rw [List.take_add_one, hc]; rfl
                    rw [et]
                    generalize cs.take i = ci at *
                    walk_at "M run"
                    all_goals unfold TurnJ
                    all_goals walk_at "M jn"
                    · refine ⟨by walk_at "M fact", by walk_at "M fact", by walk_at "M fact", by walk_at "M fact", by walk_at "M fact", by walk_at "M fact", Exists.intro ?pt0 ?pf0⟩
                      case pf0 => rw [← dl_lt (by assumption) (by assumption)]; walk_at "M fact"
                    · refine ⟨by walk_at "M fact", by walk_at "M fact", by walk_at "M fact", by walk_at "M fact", by walk_at "M fact", by walk_at "M fact", Exists.intro ?pt1 ?pf1⟩
                      case pf1 => rw [dl_ge h2 (fun h => absurd h.2 (by assumption))]; walk_at "M fact"
                    · refine ⟨by walk_at "M fact", by walk_at "M fact", by walk_at "M fact", by walk_at "M fact", by walk_at "M fact", by walk_at "M fact", Exists.intro ?pt2 ?pf2⟩
                      case pf2 => rw [dl_ge h2 (fun h => absurd h.1 (by assumption))]; walk_at "M fact"
                  · rintro h9 k9 m9 ⟨c1, c2, c3, c4, c5, c6, u10, c7⟩ F9 N9
                    rw [List.take_length] at c7
                    exact jnI F9 N9 ⟨c1, c2, c3, c4, c5, c6, _, c7⟩
                · rintro h9 k9 m9 F9 N9 ⟨c1, c2, c3, c4, c5, c6, u10, c7⟩
                  clear F8 N8 p1 p2 p3 p4 p5 p6 p7 p8 p9
                  obtain ⟨eA, eU⟩ := nA_dl h2 hcs
                  have hdl := dl_le (cs := cs) h2
                  have hd2 : 2 ≤ dl cs r := Nat.le_add_right _ _
                  generalize dl cs r = d at *
                  walk_at "M run"
                  · rename RaisedK _ _ _ _ _ _ _ _ => R
                    rename Heap.UpToSlots _ _ => U
                    have h92 : 92 ∈ List.drop 2 (List.take d r) := by assumption
                    rw [eA] at h92
                    exact hraise h92 _ _ _ _ _ _ (by assumption) U R
                  · walk_at "M jn"
                    rw [show List.drop (Int.toNat 2) (List.take (Int.toNat (d : Int)) r) = nA r from eA] at *
                    refine ⟨by assumption, hasI (by walk_at "M fact") eU, ⟨_, by walk_at "M fact"⟩, hasI (by walk_at "M fact") rfl, ⟨_, by walk_at "M fact"⟩, ⟨_, by walk_at "M fact"⟩, by walk_at "M fact", by walk_at "M fact"⟩
            · exact absurd h2 (by assumption)
          · have eA : nA r = [] := if_neg h2
            have eU : nU r = r := if_neg h2
            walk_at "M step"
            walk_at "M go"
            · exact absurd (by assumption) h2
            walk_at "M jn"
            refine ⟨by rw [eA]; exact List.not_mem_nil, hasI (by walk_at "M fact") eU.symm, hasI (by walk_at "M fact") rfl, hasI (by walk_at "M fact") eA.symm, hasI (by walk_at "M fact") rfl, hasI (by walk_at "M fact") rfl, by walk_at "M fact", by walk_at "M fact"⟩
        · intro h7 k7 m7 F7 N7 ⟨hb, ⟨u1, g1⟩, ⟨u2, g2⟩, ⟨u3, g3⟩, ⟨u4, g4⟩, ⟨u5, g5⟩, g6, g7⟩
          replace hret := hret hb
          have l8 : (nA r).length ≤ 1000 := by unfold nA; split; exact Nat.le_trans (List.takeWhile_sublist _).length_le (le_drop l6); exact Nat.zero_le _
          have l9 : (nU r).length ≤ 1000 := by unfold nU; split; exact Nat.le_trans (List.dropWhile_sublist _).length_le (le_drop l6); exact l6
          have hsub : ∀ c ∈ nU r, c ∈ r := by unfold nU; split; exact fun c hc => List.mem_of_mem_drop ((List.dropWhile_sublist _).subset hc); exact fun c hc => hc
          have n35 : 35 ∉ r → 35 ∉ nU r := fun h hx => h (hsub _ hx)
          have n63 : 63 ∉ r → 63 ∉ bef 35 (nU r) := fun h hx => h (hsub _ (bef_sub hx))
          generalize nU r = x at *
          generalize nA r = ne at *
          walk_at "M run"
          · walk_at "M ret5"
          · rw [bef_of_not (n63 (by assumption)), aft_of_not (n63 (by assumption))] at hret
            walk_at "M ret5"
          · have q := n35 (by assumption)
            rw [bef_of_not q, aft_of_not q] at hret
            walk_at "M ret5"
          · have q := n35 (by assumption)
            rw [bef_of_not (n63 (by assumption)), aft_of_not (n63 (by assumption))] at hret
            rw [bef_of_not q, aft_of_not q] at hret
            walk_at "M ret5"


theorem c_auth : ∀ (w : World) (mean : ExcName → Option Value) (mg mb : PySem.Str → Option Value) (news : List (Addr × Obj)) (u : List Nat) (t1 : Tok)
  (dp un : Nat) (gd : Option (List Code)) (cn : PySem.Str) (cs : Scope) (ad : Addr) (ccd : Value) (cl : List (PySem.Str × Addr)) (outer : List Env) (A₀ : Around) (base h₀ : Heap) (L : Addr) (m : PySem.Str → Option Value) (s : Shared) (Q E : Value → Shared → Prop)
  (B : Below A₀ base outer h₀) (F : Fr h₀ L s.heap m) (K : (hd.heap_39 w.params).In h₀) (N : News h₀ L s.heap news) (T : Top hd.view_39 LS mean mg mb h₀)
  (hk : cs.kind = .function) (hdp : dp + 2 < recursionLimit) (hun : un + 200 < cLine)
  (l1 : u.length ≤ 600) (a1 : ∀ c ∈ u, c < 128)
  (hret : (aF u = [] ∨ ((∀ c ∈ aF u, 48 ≤ c ∧ c ≤ 57) ∧ PySem.NumText.digitsVal (aF u) < 65536)) → ∀ ta tb tc td (a : Addr) (h' : Heap) (tk' : Nat), Fr h₀ L h' m → News h₀ L h' ((a, tup4 (aU u) (aW u) (aH u) (if aF u = [] then none else some (PySem.NumText.digitsVal (aF u) : Int)) ta tb tc td) :: news) → (∀ p ∈ news, p.1 < a) → Q (.ref a) { s with heap := h', toks := tk' })
  (href : aF u ≠ [] → ((∃ c ∈ aF u, c ∉ figs) ∨ ((∀ c ∈ aF u, 48 ≤ c ∧ c ≤ 57) ∧ 65536 ≤ PySem.NumText.digitsVal (aF u))) → ∀ t (h' : Heap) (tk' : Nat), Fr h₀ L h' m → News h₀ L h' news → Q (.str (S [114, 101, 102, 117, 115, 101, 100]) t) { s with heap := h', toks := tk' })
  (hasi : aF u ≠ [] → (∀ c ∈ aF u, c ∈ figs) → 32 ∈ aF u → ∀ t (h' : Heap) (tk' : Nat), Fr h₀ L h' m → News h₀ L h' news → Q (.str (S [97, 115, 105, 100, 101]) t) { s with heap := h', toks := tk' }),
  wpAny (model PySem.Challenge.rw_fe0372_01.row.prog w) (ktrTop dp un gd cn cs L ad ccd cl outer) (call (.ref 95) [.str (S u) t1]) Q E s := by
  k_fill
  w_top off
  intro w mean mg mb news u t1 dp un gd cn cs ad ccd cl outer A₀ base h₀ L m s Q E B F K N T hk hdp hun l1 a1 hret href hasi
  refine wpAny_call ?_
  k_dflt cell_enter
  rename Fr _ _ _ _ => Fx
  rename News _ _ _ _ => Nx
  obtain ⟨m1, F1, n1⟩ := frAbs Fx (fun m => m (PySem.Str.ofString "text") = some (.str (S u) t1)) rfl
  clear Fx
  (try dsimp only)
  walk_at "M go"
  rename Fr _ _ _ _ => Fx
  rename News _ _ _ _ => Ny
  obtain ⟨m2, F2, d1, d2, d3, d4, d5⟩ := frAbs Fx (fun m => Has m (PySem.Str.ofString "user") (bef 58 (rbef 64 u)) ∧ Has m (PySem.Str.ofString "colon") (if 58 ∈ rbef 64 u then [58] else []) ∧ Has m (PySem.Str.ofString "word") (aft 58 (rbef 64 u)) ∧ Has m (PySem.Str.ofString "host") (bef 58 (raft 64 u)) ∧ Has m (PySem.Str.ofString "figures") (aF u)) ⟨⟨_, rfl⟩, ⟨_, rfl⟩, ⟨_, rfl⟩, ⟨_, rfl⟩, ⟨_, rfl⟩⟩
  obtain ⟨q1, d1⟩ := d1
  obtain ⟨q2, d2⟩ := d2
  obtain ⟨q3, d3⟩ := d3
  obtain ⟨q4, d4⟩ := d4
  obtain ⟨q5, d5⟩ := d5
  have N2 := newsTl (newsTl (newsTl Ny))
  clear Fx Ny
  have l2 : (aF u).length ≤ 600 := by unfold aF; walk_at "M le"
  have l3 : (bef 58 (rbef 64 u)).length ≤ 600 := by walk_at "M le"
  have l4 : (bef 58 (raft 64 u)).length ≤ 600 := by walk_at "M le"
  have l5 : (aft 58 (rbef 64 u)).length ≤ 600 := by walk_at "M le"
  have a2 : ∀ c ∈ aF u, c < 128 := by unfold aF; walk_at "M asc"
  unfold aU aW aH at hret
  generalize aF u = fi at *
  generalize rbef 64 u = ah at *
  generalize bef 58 ah = us at *
  generalize bef 58 (raft 64 u) = ho at *
  generalize aft 58 ah = wd at *
  (try dsimp only)
  refine cutO (nz us) F2 N2 ?_ ?_
  · walk_at "M run"
    · exact joI (by assumption) (by assumption) (nz_pos (by assumption))
    · exact joI (by assumption) (by assumption) (nz_neg (by assumption))
  · intro ta h3 k3 F3 N3
    clear F2 N2
    generalize nz us = uo at *
    (try dsimp only)
    walk_at "M go"
    rename Fr _ _ _ _ => F4
    rename News _ _ _ _ => N4
    refine cutO (if 58 ∈ ah then some wd else none) F4 N4 ?_ ?_
    · walk_at "M run"
      · exact joI (by assumption) (by assumption) (if58_pos (by assumption))
      · exact joI (by assumption) (by assumption) (if58_neg (by assumption))
    · intro tb h5 k5 F5 N5
      clear F4 N4
      generalize (if 58 ∈ ah then some wd else none) = wo at *
      (try dsimp only)
      walk_at "M go"
      rename Fr _ _ _ _ => F6
      rename News _ _ _ _ => N6
      refine cutO (nz ho) F6 N6 ?_ ?_
      · walk_at "M run"
        · exact joI (by assumption) (by assumption) (nz_pos (by assumption))
        · exact joI (by assumption) (by assumption) (nz_neg (by assumption))
      · intro tc h7 k7 F7 N7
        clear F6 N6
        generalize nz ho = hoo at *
        (try dsimp only)
        walk_at "M go"
        by_cases hf : fi = []
        · replace hret := hret (.inl hf)
          rw [if_pos hf] at hret
          walk_at "M run"
          walk_at "M ret4"
        · rw [if_neg hf] at hret
          replace href := href hf
          replace hasi := hasi hf
          by_cases hb : ∃ c ∈ fi, c ∉ figs
          · replace href := href (.inl hb)
            have hfl : fi.filter (fun c => decide (c ∉ figs)) ≠ [] := by
              obtain ⟨c, hc, hn⟩ := hb
              exact List.ne_nil_of_mem (List.mem_filter.mpr ⟨hc, decide_eq_true hn⟩)
            unfold figs at hfl
            walk_at "M run"
            · exact href _ _ _ (by assumption) (by walk_at "M news")
            · exact absurd hfl (by assumption)
            · exact absurd hfl (by assumption)
          · have hb' : ∀ c ∈ fi, c ∈ figs := fun c hc => Decidable.of_not_not fun h => hb ⟨c, hc, h⟩
            have hfl : fi.filter (fun c => decide (c ∉ figs)) = [] := List.filter_eq_nil_iff.mpr fun c hc h => (of_decide_eq_true h) (hb' c hc)
            unfold figs at hfl
            by_cases h32 : 32 ∈ fi
            · replace hasi := hasi hb' h32
              walk_at "M run"
              · exact absurd hfl (by assumption)
              · exact hasi _ _ _ (by assumption) (by walk_at "M news")
              · exact absurd h32 (by assumption)
            · have hdig := figs_dig hb' h32
              have hin : PySem.intText? (S fi) = some ((PySem.NumText.digitsVal fi : Nat) : Int) := PySem.intText_digits hdig hf (by rw [S_len]; omega)
              by_cases hlt : PySem.NumText.digitsVal fi < 65536
              · replace hret := hret (.inr ⟨hdig, hlt⟩)
                have hlt' : ((PySem.NumText.digitsVal fi : Nat) : Int) < 65536 := by omega
                walk_at "M run"
                · exact absurd hfl (by assumption)
                · walk_at "M ret4"
              · replace href := href (.inr ⟨hdig, by omega⟩)
                have hlt' : ¬ ((PySem.NumText.digitsVal fi : Nat) : Int) < 65536 := by omega
                walk_at "M run"
                · exact absurd hfl (by assumption)
                · exact href _ _ _ (by assumption) (by walk_at "M news")


theorem c_sn : ∀ (w : World) (mean : ExcName → Option Value) (mg mb : PySem.Str → Option Value) (news : List (Addr × Obj)) (u : List Nat) (t1 : Tok)
  (dp un : Nat) (gd : Option (List Code)) (cn : PySem.Str) (cs : Scope) (ad : Addr) (ccd : Value) (cl : List (PySem.Str × Addr)) (outer : List Env) (A₀ : Around) (base h₀ : Heap) (L : Addr) (m : PySem.Str → Option Value) (s : Shared) (Q E : Value → Shared → Prop)
  (B : Below A₀ base outer h₀) (F : Fr h₀ L s.heap m) (K : (hd.heap_39 w.params).In h₀) (N : News h₀ L s.heap news) (T : Top hd.view_39 LS mean mg mb h₀)
  (hk : cs.kind = .function) (hdp : dp + 2 < recursionLimit) (hun : un + 200 < cLine)
  (l1 : u.length ≤ 600)
  (hd : aF u = [] ∨ ∀ c ∈ aF u, 48 ≤ c ∧ c ≤ 57)
  (hret : (aF u = [] ∨ PySem.NumText.digitsVal (aF u) < 65536) → ∀ ta tb tc td (a : Addr) (h' : Heap) (tk' : Nat), Fr h₀ L h' m → News h₀ L h' ((a, tup4 (aU u) (aW u) (aH u) (if aF u = [] then none else some (PySem.NumText.digitsVal (aF u) : Int)) ta tb tc td) :: news) → (∀ p ∈ news, p.1 < a) → Q (.ref a) { s with heap := h', toks := tk' })
  (hraise : aF u ≠ [] → 65536 ≤ PySem.NumText.digitsVal (aF u) → ∀ (e t : Addr) (vs : List Value) (g h' : Heap) (tk' : Nat), Fr h₀ L g m → g.UpToSlots h' → RaisedK base (envX cn cs L ad ccd cl :: outer) e (.type "ValueError") t vs news h' → E (.ref e) { s with heap := h', toks := tk' }),
  wpAny (model PySem.Challenge.rw_fe0372_01.row.prog w) (ktrTop dp un gd cn cs L ad ccd cl outer) (call (.ref 62) [.str (S u) t1]) Q E s := by
  k_fill
  w_top off
  intro w mean mg mb news u t1 dp un gd cn cs ad ccd cl outer A₀ base h₀ L m s Q E B F K N T hk hdp hun l1 hd hret hraise
  refine wpAny_call ?_
  k_dflt cell_enter
  rename Fr _ _ _ _ => Fx
  rename News _ _ _ _ => Nx
  obtain ⟨m1, F1, n1⟩ := frAbs Fx (fun m => m (PySem.Str.ofString "netloc") = some (.str (S u) t1)) rfl
  clear Fx
  (try dsimp only)
  refine wpAny_execs_cons ?_
  refine cutNF (fun m => (∃ t, m (PySem.Str.ofString "username") = some (ov (if 64 ∈ u then some (bef 58 (rbef 64 u)) else none) t)) ∧ (∃ t, m (PySem.Str.ofString "password") = some (ov (aW u) t)) ∧ Has m (PySem.Str.ofString "hostinfo") (raft 64 u)) F1 Nx ?_ ?_
  · have hcol : ((if 58 ∈ rbef 64 u then [58] else []) : List Nat) ≠ [] ↔ 58 ∈ rbef 64 u := by split <;> simp_all
    by_cases h64 : 64 ∈ u
    · rw [if_pos h64]
      walk_at "M run"
      · exact absurd h64 (by assumption)
      all_goals walk_at "M jn"
      · have h58 : 58 ∈ rbef 64 u := hcol.mp (by assumption)
        have hw : aW u = some (aft 58 (rbef 64 u)) := if_pos h58
        rw [hw]
        exact ⟨⟨_, rfl⟩, ⟨_, rfl⟩, ⟨_, rfl⟩⟩
      · have h58 : 58 ∉ rbef 64 u := fun h => absurd (hcol.mpr h) (by assumption)
        have hw : aW u = none := if_neg h58
        rw [hw]
        exact ⟨⟨_, rfl⟩, ⟨0, rfl⟩, ⟨_, rfl⟩⟩
    · rw [if_neg h64]
      walk_at "M run"
      · walk_at "M jn"
        have hw : aW u = none := by unfold aW; rw [rbef_of_not h64, if_neg (by simp)]
        rw [hw]
        exact ⟨⟨0, rfl⟩, ⟨0, rfl⟩, hasI (by walk_at "M fact") (raft_of_not h64).symm⟩
      all_goals exact absurd h64 (by assumption)
  · intro h2 k2 m2 F2 N2 ⟨⟨q1, d1⟩, ⟨q2, d2⟩, ⟨q3, d3⟩⟩
    clear F1 Nx n1
    (try dsimp only)
    refine wpAny_execs_cons ?_
    refine cutNF (fun m => m (PySem.Str.ofString "username") = some (ov (if 64 ∈ u then some (bef 58 (rbef 64 u)) else none) q1) ∧ m (PySem.Str.ofString "password") = some (ov (aW u) q2) ∧ Has m (PySem.Str.ofString "hostname") (bef 58 (raft 64 u)) ∧ Has m (PySem.Str.ofString "port_str") (aF u)) F2 N2 ?_ ?_
    · walk_at "M run"
      walk_at "M jn"
      exact ⟨by walk_at "M fact", by walk_at "M fact", ⟨_, rfl⟩, ⟨_, rfl⟩⟩
    · intro h3 k3 m3 F3 N3 ⟨e1, e2, ⟨q4, e4⟩, ⟨q5, e5⟩⟩
      clear F2 N2 d1 d2 d3
      (try dsimp only)
      have l2 : (aF u).length ≤ 600 := by unfold aF; walk_at "M le"
      have l3 : (bef 58 (rbef 64 u)).length ≤ 600 := by walk_at "M le"
      have l4 : (bef 58 (raft 64 u)).length ≤ 600 := by walk_at "M le"
      have hU : aU u = (if 64 ∈ u then some (bef 58 (rbef 64 u)) else none).bind nz := by
        unfold aU
        by_cases h : 64 ∈ u
        · rw [if_pos h]; rfl
        · rw [if_neg h, rbef_of_not h]; rfl
      have hUl : ∀ l, (if 64 ∈ u then some (bef 58 (rbef 64 u)) else none) = some l → l.length ≤ 600 := by
        intro l h
        split at h
        · cases h; exact l3
        · cases h
      rw [hU] at hret
      unfold aH at hret
      generalize aF u = fi at *
      generalize aW u = wo at *
      generalize bef 58 (raft 64 u) = ho at *
      generalize (if 64 ∈ u then some (bef 58 (rbef 64 u)) else none) = uo at *
      clear hU l3
      by_cases hf : fi = []
      · replace hret := hret (.inl hf)
        rw [if_pos hf] at hret
        walk_at "M step"
        walk_at "M step"
        walk_at "M go"
        · exact absurd hf (by assumption)
        rename Fr _ _ _ _ => F4
        rename News _ _ _ _ => N4
        refine cutO (uo.bind nz) F4 N4 ?_ ?_
        · cases uo with
          | none =>
            dsimp only [ov] at e1
            walk_at "M run"
            exact joI (t := 0) (by assumption) (by assumption) rfl
          | some us =>
            have l3 := hUl us rfl
            dsimp only [ov] at e1
            walk_at "M run"
            all_goals first | exact joI (by assumption) (by assumption) (nz_pos (by assumption)) | exact joI (by assumption) (by assumption) (nz_neg (by assumption))
        · intro t4 h4 k4 F5 N5
          clear F4 N4
          generalize uo.bind nz = un at *
          (try dsimp only)
          walk_at "M go"
          rename Fr _ _ _ _ => F6
          rename News _ _ _ _ => N6
          refine cutO (nz ho) F6 N6 ?_ ?_
          · walk_at "M run"
            all_goals first | exact joI (by assumption) (by assumption) (nz_pos (by assumption)) | exact joI (by assumption) (by assumption) (nz_neg (by assumption))
          · intro t7 h7 k7 F7 N7
            clear F6 N6
            generalize nz ho = hoo at *
            (try dsimp only)
            walk_at "M run"
            walk_at "M ret4"
      · rw [if_neg hf] at hret
        walk_at "M step"
        walk_at "M step"
        walk_at "M go"
        · have hdig : ∀ c ∈ fi, 48 ≤ c ∧ c ≤ 57 := hd.resolve_left hf
          have hin : PySem.intText? (S fi) = some ((PySem.NumText.digitsVal fi : Nat) : Int) := PySem.intText_digits hdig hf (by rw [S_len]; omega)
          walk_at "M step"
          walk_at "M go"
          generalize PySem.NumText.digitsVal fi = pv at *
          by_cases hlt : pv < 65536
          · replace hret := hret (.inr hlt)
            have hp1 : ((pv : Nat) : Int) ≤ 65535 := by omega
            have hp0 : (0 : Int) ≤ ((pv : Nat) : Int) := by omega
            walk_at "M step"
            walk_at "M go"
            rename Fr _ _ _ _ => F4
            rename News _ _ _ _ => N4
            refine cutO (uo.bind nz) F4 N4 ?_ ?_
            · cases uo with
              | none =>
                dsimp only [ov] at e1
                walk_at "M run"
                exact joI (t := 0) (by assumption) (by assumption) rfl
              | some us =>
                have l3 := hUl us rfl
                dsimp only [ov] at e1
                walk_at "M run"
                all_goals first | exact joI (by assumption) (by assumption) (nz_pos (by assumption)) | exact joI (by assumption) (by assumption) (nz_neg (by assumption))
            · intro t4 h4 k4 F5 N5
              clear F4 N4
              generalize uo.bind nz = un at *
              (try dsimp only)
              walk_at "M go"
              rename Fr _ _ _ _ => F6
              rename News _ _ _ _ => N6
              refine cutO (nz ho) F6 N6 ?_ ?_
              · walk_at "M run"
                all_goals first | exact joI (by assumption) (by assumption) (nz_pos (by assumption)) | exact joI (by assumption) (by assumption) (nz_neg (by assumption))
              · intro t7 h7 k7 F7 N7
                clear F6 N6
                generalize nz ho = hoo at *
                (try dsimp only)
                walk_at "M run"
                walk_at "M ret4"
          · have hp1 : ¬ ((pv : Nat) : Int) ≤ 65535 := by omega
            have hp0 : (0 : Int) ≤ ((pv : Nat) : Int) := by omega
            walk_at "M run"
            rename RaisedK _ _ _ _ _ _ _ _ => R
            rename Heap.UpToSlots _ _ => U
            exact hraise hf (by omega) _ _ _ _ _ _ (by assumption) U R
        all_goals exact absurd (by assumption) hf


theorem c_snC : ∀ (w : World) (mean : ExcName → Option Value) (mg mb : PySem.Str → Option Value) (news : List (Addr × Obj)) (u : List Nat) (t1 : Tok)
  (dp un : Nat) (gd : Option (List Code)) (cn : PySem.Str) (cs : Scope) (ad : Addr) (ccd : Value) (cl : List (PySem.Str × Addr)) (outer : List Env) (A₀ : Around) (h₀ : Heap) (L : Addr) (m : PySem.Str → Option Value) (s : Shared) (Q E : Value → Shared → Prop)
  (B : Below A₀ h₀ outer h₀) (F : Fr h₀ L s.heap m) (K : (hd.heap_39 w.params).In h₀) (N : News h₀ L s.heap news) (T : Top hd.view_39 LS mean mg mb h₀)
  (hk : cs.kind = .function) (hdp : dp + 2 < recursionLimit) (hun : un + 200 < cLine)
  (l1 : u.length ≤ 600) (a1 : ∀ c ∈ u, c < 128)
  (hf : aF u ≠ []) (hin : PySem.intText? (S (aF u)) = none)
  (hraise : ∀ (e t : Addr) (vs : List Value) (g h' : Heap) (tk' : Nat), Fr h₀ L g m → g.UpToSlots h' → RaisedK h₀ (envX cn cs L ad ccd cl :: outer) e (.type "ValueError") t vs [] h' → E (.ref e) { s with heap := h', toks := tk' }),
  wpC (model PySem.Challenge.rw_fe0372_01.row.prog w) (ktrTop dp un gd cn cs L ad ccd cl outer) (call (.ref 62) [.str (S u) t1]) Q E s := by
  k_fill
  w_top off
  intro w mean mg mb news u t1 dp un gd cn cs ad ccd cl outer A₀ h₀ L m s Q E B F K N T hk hdp hun l1 a1 hf hin hraise
  refine wpC_call ?_
  refine' code_defC ?k1 ?k2 ?k3 ?k4 ?k5 ?kA ?kF ?kK ?k6 ?k7 ?k8 ?k9 ?kB ?_ ?c2 ?c3 ?c4 ?c5
  case k1 => exact B
  case k2 => exact F
  case k3 => exact K
  case k4 => exact N
  case k5 => exact T
  case kA => exact rfl
  case kF => exact rfl
  case kK => exact hk
  case k6 => k_is
  case k7 => k_is
  case k8 => ktr_room
  case k9 => exact BindsTo.of_eq rfl
  case kB => exact locs rfl
  case c2 => exact rfl
  case c3 => exact rfl
  case c4 => exact rfl
  case c5 => decide
  intro g' L' h1 FG Fx Nx Bx Xx Tx
  (try dsimp only)
  (try k_lift Bx)
  (try k_fold)
  obtain ⟨m1, F1, n1⟩ := frAbs Fx (fun m => m (PySem.Str.ofString "netloc") = some (.str (S u) t1)) rfl
  clear Fx
  (try dsimp only)
  refine wpC_execs_consA ?_
  refine cutNF (fun m => (∃ t, m (PySem.Str.ofString "username") = some (ov (if 64 ∈ u then some (bef 58 (rbef 64 u)) else none) t)) ∧ (∃ t, m (PySem.Str.ofString "password") = some (ov (aW u) t)) ∧ Has m (PySem.Str.ofString "hostinfo") (raft 64 u)) F1 Nx ?_ ?_
  · have hcol : ((if 58 ∈ rbef 64 u then [58] else []) : List Nat) ≠ [] ↔ 58 ∈ rbef 64 u := by split <;> simp_all
    by_cases h64 : 64 ∈ u
    · rw [if_pos h64]
      walk_at "M run"
      · exact absurd h64 (by assumption)
      all_goals walk_at "M jn"
      · have h58 : 58 ∈ rbef 64 u := hcol.mp (by assumption)
        have hw : aW u = some (aft 58 (rbef 64 u)) := if_pos h58
        rw [hw]
        exact ⟨⟨_, rfl⟩, ⟨_, rfl⟩, ⟨_, rfl⟩⟩
      · have h58 : 58 ∉ rbef 64 u := fun h => absurd (hcol.mpr h) (by assumption)
        have hw : aW u = none := if_neg h58
        rw [hw]
        exact ⟨⟨_, rfl⟩, ⟨0, rfl⟩, ⟨_, rfl⟩⟩
    · rw [if_neg h64]
      walk_at "M run"
      · walk_at "M jn"
        have hw : aW u = none := by unfold aW; rw [rbef_of_not h64, if_neg (by simp)]
        rw [hw]
        exact ⟨⟨0, rfl⟩, ⟨0, rfl⟩, hasI (by walk_at "M fact") (raft_of_not h64).symm⟩
      all_goals exact absurd h64 (by assumption)
  · intro h2 k2 m2 F2 N2 ⟨⟨q1, d1⟩, ⟨q2, d2⟩, ⟨q3, d3⟩⟩
    clear F1 Nx n1
    (try dsimp only)
    refine wpC_execs_consA ?_
    refine cutNF (fun m => m (PySem.Str.ofString "username") = some (ov (if 64 ∈ u then some (bef 58 (rbef 64 u)) else none) q1) ∧ m (PySem.Str.ofString "password") = some (ov (aW u) q2) ∧ Has m (PySem.Str.ofString "hostname") (bef 58 (raft 64 u)) ∧ Has m (PySem.Str.ofString "port_str") (aF u)) F2 N2 ?_ ?_
    · walk_at "M run"
      walk_at "M jn"
      exact ⟨by walk_at "M fact", by walk_at "M fact", ⟨_, rfl⟩, ⟨_, rfl⟩⟩
    · intro h3 k3 m3 F3 N3 ⟨e1, e2, ⟨q4, e4⟩, ⟨q5, e5⟩⟩
      clear F2 N2 d1 d2 d3
      (try dsimp only)
      have l2 : (aF u).length ≤ 600 := by unfold aF; walk_at "M le"
      have a2 : ∀ c ∈ aF u, c < 128 := by unfold aF; walk_at "M asc"
      generalize aF u = fi at *
      refine wpC_execs_consA ?_
      refine cutNF (fun m => m (PySem.Str.ofString "port_str") = some (.str (S fi) q5)) F3 N3 ?_ ?_
      · walk_at "M run"
        · walk_at "M jn"
          walk_at "M fact"
        all_goals exact absurd hf (by assumption)
      · intro h4 k4 m4 F4 N4 e6
        clear F3 N3
        (try dsimp only)
        refine wpC_execs_cons ?_
        refine wpC_Try ?_
        refine wpC_execs_cons (wpC_Assign (wpC_Call ?_))
        walk_at "M goe"
        refine wpC_callWith_type1 ?_
        walk_at "M goe"
        have hz : (reprText (S fi)).length ≤ sizeLine := by
          have := PySem.StrLaws.reprText_len (S fi) (fun c hc => Nat.lt_of_lt_of_le (a2 c hc) (by decide))
          rw [S_len] at this
          rw [sizeLine_eq]
          omega
        refine refuse_int (by rw [S_len]; omega) hin rfl hz (fun h' tk e hx => ?_)
        have F5 : Fr g' L' h4 m4 := by assumption
        have hab : h₀.objs.size ≤ L' := by
          have q1 := FG.ns.lt
          have q2 := FG.above
          have q3 := F5.above
          exact Nat.le_trans q2 (Nat.le_trans (Nat.le_of_lt q1) q3)
        refine refused_again (R := fun r s' => match r with | .ok (.ret v) => Q v s' | .ok _ => False | .error e => E e s') Bx F5 hab hx (topRead_of T) PyProof.Rows.Boot.«ValueError» (by decide +kernel) (by decide +kernel) (by decide +kernel) (by decide +kernel) (by decide +kernel) (by decide +kernel) rfl rfl (by decide) ?_
        intro h6 e6 t6 tk6 R6 U6
        exact hraise e6 t6 _ g' h6 _ FG U6 R6



local macro_rules | `(tactic| walk_at "eval ListComp") => `(tactic| (k_here; k_dflt (refine LCg.ListComp_U (F₀ := by k_asm) (by with_unfolding_all rfl) (by decide) (by rfl) (by decide) (by rfl) ?_)))
local macro_rules | `(tactic| walk_at "M gc") => `(tactic| repeat' ((fail_if_success (with_reducible show wpAny _ _ (call (Value.ref _) _) _ _ _)); (fail_if_success (walk_at "M stop")); walk_at "M step"))
local macro_rules | `(tactic| walk_at "M gd") => `(tactic| repeat' ((fail_if_success (with_reducible show wpAny _ _ (call (Value.ref _) _) _ _ _)); (fail_if_success (with_reducible show wpAny _ _ (compareOp _ (Value.ref _) (Value.ref _)) _ _ _)); walk_at "M step"))
local macro_rules | `(tactic| walk_at "compareOp NotEq ref ref") => `(tactic| (k_here; k_dflt (refine' ne_t5 (tup5_in ?n1 ?m1) (tup5_in ?n2 ?m2) ?fa ?u ?_; (case n1 => assumption); (case m1 => k_mem); (case n2 => assumption); (case m2 => k_mem); (case fa => first | exact Facts.asc (by assumption) | exact Facts.ascR (by assumption)); (case u => walk_at "M units"); k_whole)))
local macro_rules | `(tactic| walk_at "M gi") => `(tactic| repeat' ((fail_if_success (with_reducible show wpAny _ _ (eval (Expr.IfExp _ _ _ _) _) _ _ _)); (fail_if_success (with_reducible show wpAny _ _ (call (Value.ref _) _) _ _ _)); (fail_if_success (with_reducible show wpAny _ _ (compareOp _ (Value.ref _) (Value.ref _)) _ _ _)); walk_at "M step"))
local macro_rules | `(tactic| walk_at "CompSrc") => `(tactic| (k_here; k_dflt ((refine LCg.CompSrc.ledger (by rfl) (by k_asm) (by k_asm) (by k_mem) (by (try kcf_lens); kcf_size) ?_); intro g'; (refine' pc_list pc (by assumption) (fun k' t' I' oI' C' oC' D' m' ys' h' tk' E' hC' hx' F' N' off' ne' => ?_) (fun ys' hT' => ?_)); (all_goals (try (simp only [LCg.Off3, and_true] at off'))); kcf_last)))
local macro_rules | `(tactic| walk_at "CompEnd") => `(tactic| (refine' LCg.CompEnd.intro (by assumption) (by assumption) _ ?pcsub ?pcoff ?pcS (pcElX ?pce); (case pce => exact (pcs_eq ▸ pc_S _)); (case pcsub => kcf_all); (case pcoff => first | assumption | (simp only [LCg.Off3, and_true]; done) | (simp only [LCg.Off3, and_true]; assumption)); (case pcS => first | lcg_src | assumption)))
local macro_rules | `(tactic| walk_at "call builtin:str.join") => `(tactic| (k_here; (refine r_joinL (News.isList (by k_asm) (by k_mem)) (by assumption) (by intro l hl; obtain ⟨k, _, rfl⟩ := List.mem_map.mp hl; exact pc_le) (by simp only [List.length_map]; omega) ?_); intro _ _))

theorem c_law : ∀ (w : World) (mean : ExcName → Option Value) (mg mb : PySem.Str → Option Value) (ax : Addr) (ws : List Value) (zs : List Int) (s : Shared) (R : Result → Shared → Prop)
  (K : (hd.heap_39 w.params).In s.heap) (T : Top hd.view_39 LS mean mg mb s.heap)
  (hl : s.heap.IsList ax ws.toArray) (hi : IntsAre ws zs) (hn : zs.length ≤ 63) (htk : 429 ≤ s.toks)
  (hR : ∀ h' tk, (∀ b o, s.heap.get? b = some o → h'.get? b = some o) → R (.ok (.ret (.bool true))) { s with heap := h', toks := tk }),
  codeC (model PySem.Challenge.rw_fe0372_01.row.prog w) callerA (.call (.ref 100) ⟨[.ref ax], []⟩) R s := by
  k_fill
  w_top off
  intro w mean mg mb ax ws zs s R K T hl hi hn htk hR
  refine' code_topC (K := hd.heap_39 w.params) K T ?k6 ?k7 ?k9 ?kB ?_ ?c2 ?c3 ?c4 ?c5
  case k6 => k_is
  case k7 => k_is
  case k9 => exact BindsTo.of_eq rfl
  case kB => exact locs rfl
  case c2 => exact rfl
  case c3 => exact rfl
  case c4 => exact rfl
  case c5 => decide
  intro L h1 Fx Nx Bx
  (try dsimp only)
  (try k_lift Bx)
  (try k_fold)
  obtain ⟨m1, F1, n1⟩ := frAbs Fx (fun m => m (PySem.Str.ofString "script") = some (.ref ax)) rfl
  clear Fx
  (try dsimp only)
  refine wpC_execs_consA ?_
  refine cutNT 429 (fun m => Has m (PySem.Str.ofString "text") ((zs.take 14).map pc).flatten) (by (try dsimp only); omega) F1 Nx ?_ ?_
  · walk_at "M go"
    (refine r_joinL (News.isList (by k_asm) (by k_mem)) (by assumption) (by intro l hl; obtain ⟨k, _, rfl⟩ := List.mem_map.mp hl; exact pc_le) (by simp only [List.length_map]; omega) ?_); intro _ _
    walk_at "M go"
    walk_at "M jn"
    walk_at "M has"
  · intro h2 k2 m2 ht2 F2 N2 ⟨t2, c2⟩
    clear F1 Nx n1
    have hu1 : (((zs.take 14).map pc).flatten).length ≤ 112 := by
      refine Nat.le_trans (flat_le (k := 8) (fun l hl => ?_)) ?_
      · obtain ⟨k, _, rfl⟩ := List.mem_map.mp hl
        exact pc_le
      · rw [List.length_map, List.length_take]; omega
    have hI := inv_text (zs.take 14)
    generalize ((zs.take 14).map pc).flatten = u at *
    clear hi hn lifted
    refine wpC_execs_consA ?_
    walk_at "M gc"
    refine wpAny_with_toks ht2 ?_
    refine' c_lp w mean mg mb _ u _ _ _ _ _ _ _ _ _ _ _ _ _ _ _ _ _ _ Bx F2 K N2 T rfl ?d1 ?d2 ?d3 ?d4 ?d5
    case d1 => exact top_dp
    case d2 => exact top_un
    case d3 => omega
    case d4 => exact hI.asc
    intro ta tb tc td te a h3 k3 F3 N3 _ ht3
    clear F2 N2
    walk_at "M gc"
    rename Fr _ _ _ _ => Fx
    rename News _ _ _ _ => N3
    obtain ⟨m3, F3, q1, q2⟩ := frAbs Fx (fun m => m (PySem.Str.ofString "due") = some (.ref a) ∧ m (PySem.Str.ofString "text") = some (.str (S u) t2)) ⟨rfl, c2⟩
    clear Fx c2
    (try dsimp only)
    refine wpC_execs_consA ?_
    by_cases hbs : 92 ∈ pA (pR (pT u))
    · walk_at "exec Try"
      refine wpAny_execs_cons ?_
      walk_at "M gd"
      refine' c_su w mean mg mb _ u _ _ _ _ _ _ _ _ _ _ _ _ _ _ _ _ _ _ Bx F3 K N3 T ?sua ?sub ?suc ?su3 ?su4 ?su5 ?su6 ?su7
      case sua => exact rfl
      case sub => exact top_dp
      case suc => exact top_un
      case su3 => omega
      case su4 => exact hI.asc
      case su5 => exact Nat.le_succ_of_le ht3
      case su6 => rw [(parts_new u).2.1]; exact fun hno => absurd hbs hno
      intro _ e t vs g h4 k4 Fg Ug Rg
      clear F3
      refine caught_K0 (A₀ := callerA) (T' := "ValueError") Bx Fg Ug Rg (topRead_of T) PyProof.Rows.Boot.«ValueError» PySem.F.isExc_ValueError PySem.F.notTuple_ValueError (by rw [isSubtype_type]; kernel_rfl) ?_
      intro h5 n2 F5 N2 G5 N5
      clear Fg Ug Rg N2 G5
      (try dsimp only)
      walk_at "M run"
      rename Fr _ _ _ _ => Fz
      rw [decide_eq_true hbs]
      exact hR _ _ Fz.keep
    · refine wpAny_with_toks (n := 429) (Nat.le_succ_of_le ht3) ?_
      walk_at "exec Try"
      refine wpAny_execs_cons ?_
      walk_at "M gd"
      refine' c_su w mean mg mb _ u _ _ _ _ _ _ _ _ _ _ _ _ _ _ _ _ _ _ Bx F3 K N3 T ?sva ?svb ?svc ?sv3 ?sv4 ?sv5 ?sv6 ?sv7
      case sva => exact rfl
      case svb => exact top_dp
      case svc => exact top_un
      case sv3 => omega
      case sv4 => exact hI.asc
      case sv5 => exact Nat.le_succ_of_le ht3
      case sv7 => rw [(parts_new u).2.1]; exact fun hno => absurd hno hbs
      intro _ tf tg th ti tj b h4 k4 F4 N4 hlt4
      clear F3 N3
      rw [(parts_new u).1, (parts_new u).2.1, (parts_new u).2.2.1, (parts_new u).2.2.2.1, (parts_new u).2.2.2.2] at N4
      have hlt : a < b := hlt4 _ List.mem_cons_self
      have FA := facts_of hI.asc hu1 (hI.uh) (hI.odd)
      generalize pS (pT u) = sc at *
      generalize pA (pR (pT u)) = au at *
      generalize pP (pR (pT u)) = pa at *
      generalize pQ u = qu at *
      generalize pF u = fr at *
      walk_at "M gc"
      rename 429 ≤ _ => ht4
      rename Fr _ _ _ _ => Fx
      rename News _ _ _ _ => N5
      obtain ⟨m5, F5, e1, e2⟩ := frAbs Fx (fun m => m (PySem.Str.ofString "due") = some (.ref a) ∧ m (PySem.Str.ofString "told") = some (.ref b)) ⟨q1, rfl⟩
      clear Fx q1 q2 hI hlt4 hu1
      (try dsimp only)
      refine wpC_execs_consA ?_
      refine cutNT 429 (fun m => m (PySem.Str.ofString "due") = some (.ref a) ∧ m (PySem.Str.ofString "told") = some (.ref b) ∧ m (PySem.Str.ofString "scheme") = some (.str (S sc) ta) ∧ m (PySem.Str.ofString "authority") = some (.str (S au) tb) ∧ m (PySem.Str.ofString "path") = some (.str (S pa) tc) ∧ m (PySem.Str.ofString "query") = some (.str (S qu) td) ∧ m (PySem.Str.ofString "fragment") = some (.str (S fr) te)) ht4 F5 N5 ?_ ?_
      · walk_at "M run"
        walk_at "M jn"
        exact ⟨e1, e2, rfl, rfl, rfl, rfl, rfl⟩
      intro h5 k5 m6 ht5 F6 N6 ⟨g1, g2, v1, v2, v3, v4, v5⟩
      clear F5 N5 e1 e2
      (try dsimp only)
      refine wpC_execs_consA ?_
      refine cutNT 429 (fun m => m (PySem.Str.ofString "due") = some (.ref a) ∧ m (PySem.Str.ofString "told") = some (.ref b) ∧ m (PySem.Str.ofString "scheme") = some (.str (S sc) ta) ∧ m (PySem.Str.ofString "authority") = some (.str (S au) tb) ∧ m (PySem.Str.ofString "path") = some (.str (S pa) tc) ∧ m (PySem.Str.ofString "query") = some (.str (S qu) td) ∧ m (PySem.Str.ofString "fragment") = some (.str (S fr) te) ∧ Has m (PySem.Str.ofString "put") (lput sc au pa qu fr)) ht5 F6 N6 ?_ ?_
      · walk_at "M gc"
        refine' c_usp w mean mg mb _ sc au pa qu fr _ _ _ _ _ _ _ _ _ _ _ _ _ _ _ _ _ _ _ _ _ _ Bx F6 K N6 T ?upa ?upb ?upc ?up0 ?up1 ?up2 ?up3 ?up4 ?up5
        case upa => exact rfl
        case upb => exact top_dp
        case upc => exact top_un
        case up0 => exact Nat.le_trans FA.len.1 (by decide)
        case up1 => exact Nat.le_trans FA.len.2.1 (by decide)
        case up2 => exact Nat.le_trans FA.len.2.2.1 (by decide)
        case up3 => exact Nat.le_trans FA.len.2.2.2.1 (by decide)
        case up4 => exact Nat.le_trans FA.len.2.2.2.2 (by decide)

        intro tp h6 k6 F7 N7
        clear F6 N6
        rw [FA.put]
        walk_at "M gc"
        walk_at "M jn"
        exact ⟨g1, g2, v1, v2, v3, v4, v5, ⟨_, rfl⟩⟩
      intro h6 k6 m7 ht6 F7 N7 ⟨g1, g2, v1, v2, v3, v4, v5, tp, v6⟩
      clear F6 N6
      (try dsimp only)
      refine wpC_execs_consA ?_
      refine cutNT 429 (fun m => m (PySem.Str.ofString "scheme") = some (.str (S sc) ta) ∧ m (PySem.Str.ofString "authority") = some (.str (S au) tb) ∧ m (PySem.Str.ofString "path") = some (.str (S pa) tc) ∧ m (PySem.Str.ofString "query") = some (.str (S qu) td) ∧ m (PySem.Str.ofString "fragment") = some (.str (S fr) te) ∧ m (PySem.Str.ofString "put") = some (.str (S (lput sc au pa qu fr)) tp)) ht6 F7 N7 ?_ ?_
      · walk_at "M gd"
        refine' ne_t5 (tup5_in N7 List.mem_cons_self) (tup5_in N7 (List.mem_cons_of_mem _ List.mem_cons_self)) FA.asc ?nu ?_
        case nu => exact top_un64
        walk_at "M gd"
        refine' c_lput w mean mg mb _ sc au pa qu fr _ _ _ _ _ _ _ _ _ _ _ _ _ _ _ _ _ _ _ _ _ _ Bx F7 K N7 T ?lqa ?lqb ?lqc ?lq0 ?lq1 ?lq2 ?lq3 ?lq4 ?lq5
        case lqa => exact rfl
        case lqb => exact top_dp
        case lqc => exact top_un
        case lq0 => exact Nat.le_trans FA.len.1 (by decide)
        case lq1 => exact Nat.le_trans FA.len.2.1 (by decide)
        case lq2 => exact Nat.le_trans FA.len.2.2.1 (by decide)
        case lq3 => exact Nat.le_trans FA.len.2.2.2.1 (by decide)
        case lq4 => exact Nat.le_trans FA.len.2.2.2.2 (by decide)

        intro tp7 h7 k7 F8 N8
        clear F7 N7
        walk_at "M gd"
        next => exact absurd rfl (‹lput sc au pa qu fr ≠ lput sc au pa qu fr›)
        walk_at "M jn"
        exact ⟨v1, v2, v3, v4, v5, v6⟩
      intro h7 k7 m8 ht8 F8 N8 ⟨v1, v2, v3, v4, v5, v6⟩
      clear F7 g1 g2 N7
      have N9 := newsTl (newsTl N8)
      clear N8
      (try dsimp only)
      refine wpC_execs_consA ?_
      refine cutNT 429 (fun m => m (PySem.Str.ofString "scheme") = some (.str (S sc) ta) ∧ m (PySem.Str.ofString "authority") = some (.str (S au) tb) ∧ m (PySem.Str.ofString "query") = some (.str (S qu) td) ∧ m (PySem.Str.ofString "fragment") = some (.str (S fr) te) ∧ m (PySem.Str.ofString "put") = some (.str (S (lput sc au pa qu fr)) tp) ∧ Has m (PySem.Str.ofString "rooted") (rooted sc pa)) ht8 F8 N9 ?_ ?_
      · walk_at "M gc"
        refine cutV (rooted sc pa) F8 N9 ?_ ?_
        · unfold rooted
          obtain ⟨y1, y2, y3, y4, y5⟩ := FA.len
          walk_at "M run"
          all_goals walk_at "M jv"
        · intro tr h9 k9 F9 N9
          clear F8
          walk_at "M gc"
          walk_at "M jn"
          exact ⟨v1, v2, v4, v5, v6, ⟨_, rfl⟩⟩
      intro h9 k9 m9 ht9 F9 N9 ⟨v1, v2, v4, v5, v6, tr, v7⟩
      clear F8 v3
      (try dsimp only)
      refine wpC_execs_consA ?_
      refine cutNF (fun m => m (PySem.Str.ofString "authority") = some (.str (S au) tb)) F9 N9 ?_ ?_
      · walk_at "M gd"
        refine' c_su w mean mg mb _ (lput sc au pa qu fr) _ _ _ _ _ _ _ _ _ _ _ _ _ _ _ _ _ _ Bx F9 K N9 T ?sza ?szb ?szc ?sz0 ?sz1 ?sz2 ?sz3 ?sz4
        case sza => exact rfl
        case szb => exact top_dp
        case szc => exact top_un
        case sz0 => exact FA.put_len
        case sz1 => exact FA.asc2
        case sz2 => exact ht9

        case sz4 =>
          rw [FA.again.2.1]; exact fun hno => absurd hno hbs
        case sz3 =>
          intro _ tu tv tw tx ty c h10 k10 F10 N10 hlt10
          clear F9 N9
          rw [FA.again.1, FA.again.2.1, FA.again.2.2.1, FA.again.2.2.2.1, FA.again.2.2.2.2] at N10
          walk_at "M gd"
          rename News _ _ _ _ => N11
          refine' ne_t5 (tup5_in N11 (List.mem_cons_of_mem _ List.mem_cons_self)) (News.isTup N11 List.mem_cons_self) FA.ascR ?nv ?_
          case nv => exact top_un64
          walk_at "M gd"
          walk_at "M jn"
          exact v2
      intro h11 k11 m11 F11 N11 v2
      clear F9 v1 v4 v5 v6 v7 N9
      have hau := FA.len.2.1
      have hac := FA.asc.2.1
      have hbad := FA.bad
      clear FA
      (try dsimp only)
      refine wpC_execs_consA ?_
      walk_at "M gc"
      refine' c_auth w mean mg mb _ au _ _ _ _ _ _ _ _ _ _ _ _ _ _ _ _ _ _ Bx F11 K N11 T ?caa ?cab ?cac ?ca0 ?ca1 ?ca2 ?ca3 ?ca4
      case caa => exact rfl
      case cab => exact top_dp
      case cac => exact top_un
      case ca0 => exact Nat.le_trans hau (by decide)
      case ca1 => exact hac

      case ca4 =>
        intro _ _ _ t4 h12 k12 F12 N12
        clear F11 N11
        walk_at "M gd"
        rename Fr _ _ _ _ => Fx
        obtain ⟨m12, F12, x1, x2⟩ := frAbs Fx (fun m => m (PySem.Str.ofString "four") = some (.str (S [97, 115, 105, 100, 101]) t4) ∧ m (PySem.Str.ofString "authority") = some (.str (S au) tb)) ⟨rfl, v2⟩
        clear Fx v2
        (try dsimp only)
        refine wpC_execs_consA ?_
        walk_at "M run"
        rename Fr _ _ _ _ => Fz
        exact hR _ _ Fz.keep
      case ca3 =>
        intro hne hor t4 h12 k12 F12 N12
        clear F11 N11
        walk_at "M gd"
        rename Fr _ _ _ _ => Fx
        rename News _ _ _ _ => N12
        obtain ⟨m12, F12, x1, x2⟩ := frAbs Fx (fun m => m (PySem.Str.ofString "four") = some (.str (S [114, 101, 102, 117, 115, 101, 100]) t4) ∧ m (PySem.Str.ofString "authority") = some (.str (S au) tb)) ⟨rfl, v2⟩
        clear Fx v2
        (try dsimp only)
        refine wpC_execs_consA ?_
        refine cutNF (fun m => m (PySem.Str.ofString "four") = some (.str (S [114, 101, 102, 117, 115, 101, 100]) t4) ∧ m (PySem.Str.ofString "authority") = some (.str (S au) tb)) F12 N12 ?_ ?_
        · walk_at "M run"
          walk_at "M jn"
          exact ⟨x1, x2⟩
        intro h13 k13 m13 F13 N13 ⟨x1, x2⟩
        clear F12 N12
        (try dsimp only)
        rcases hor with hb | ⟨hdig, hbig⟩
        · refine wpC_execs_cons (wpC_Try ?_)
          refine wpC_execs_cons (wpC_Assign (wpC_Call ?_))
          walk_at "M goe"
          refine wpC_callWith_def1 (h₀ := s.heap) (L := L) (K := hd.heap_39 w.params) K (by k_is) ?_
          walk_at "M goe"
          refine ⟨⟨_, F13⟩, ?_⟩
          refine' c_snC w mean mg mb _ au _ _ _ _ _ _ _ _ _ _ _ _ _ _ _ _ _ Bx F13 K N13 T ?sca ?scb ?scc ?sc0 ?sc1 ?sc2 ?sc3 ?sc4
          case sca => exact rfl
          case scb => exact top_dp
          case scc => exact top_un
          case sc0 => exact Nat.le_trans hau (by decide)
          case sc1 => exact hac
          case sc2 => exact hne
          case sc3 => exact hbad hb

          intro e t vs g h14 k14 Fg Ug Rg
          clear F13
          refine caught_K0 (A₀ := callerA) (T' := "ValueError") Bx Fg Ug Rg (topRead_of T) PyProof.Rows.Boot.«ValueError» PySem.F.isExc_ValueError PySem.F.notTuple_ValueError (by rw [isSubtype_type]; kernel_rfl) ?_
          intro h15 n15 F15 N15 G15 N16
          clear Fg Ug Rg N15 G15
          (try dsimp only)
          walk_at "M run"
          rename Fr _ _ _ _ => Fz
          exact hR _ _ Fz.keep
        · refine wpC_execs_consA ?_
          walk_at "exec Try"
          walk_at "M gd"
          refine' c_sn w mean mg mb _ au _ _ _ _ _ _ _ _ _ _ _ _ _ _ _ _ _ _ Bx F13 K N13 T ?sna ?snb ?snc ?sn0 ?sn1 ?sn2 ?sn3
          case sna => exact rfl
          case snb => exact top_dp
          case snc => exact top_un
          case sn0 => exact Nat.le_trans hau (by decide)
          case sn1 => exact .inr hdig

          case sn2 =>
            intro hx
            rcases hx with hx | hx
            · exact absurd hx hne
            · exact absurd hx (Nat.not_lt.mpr hbig)
          intro _ _ e t vs g h14 k14 Fg Ug Rg
          clear F13
          refine caught_K0 (A₀ := callerA) (T' := "ValueError") Bx Fg Ug Rg (topRead_of T) PyProof.Rows.Boot.«ValueError» PySem.F.isExc_ValueError PySem.F.notTuple_ValueError (by rw [isSubtype_type]; kernel_rfl) ?_
          intro h15 n15 F15 N15 G15 N16
          clear Fg Ug Rg N15 G15
          (try dsimp only)
          walk_at "M run"
          rename Fr _ _ _ _ => Fz
          exact hR _ _ Fz.keep
      case ca2 =>
        intro hok tA tB tC tD a4 h12 k12 F12 N12 _
        clear F11 N11
        walk_at "M gd"
        rename Fr _ _ _ _ => Fx
        rename News _ _ _ _ => N13
        obtain ⟨m12, F12, x1, x2⟩ := frAbs Fx (fun m => m (PySem.Str.ofString "four") = some (.ref a4) ∧ m (PySem.Str.ofString "authority") = some (.str (S au) tb)) ⟨rfl, v2⟩
        clear Fx v2
        (try dsimp only)
        refine wpC_execs_consA ?_
        refine cutNF (fun m => m (PySem.Str.ofString "four") = some (.ref a4) ∧ m (PySem.Str.ofString "authority") = some (.str (S au) tb)) F12 N13 ?_ ?_
        · walk_at "M run"
          refine eq_t4s (tup4_in N13 List.mem_cons_self) (oaU hac) (oaW hac) (oaH hac) (by decide) top_un64 ?_
          walk_at "M run"
          walk_at "M jn"
          exact ⟨x1, x2⟩
        intro h13 k13 m13 F13 N13 ⟨x1, x2⟩
        clear F12
        (try dsimp only)
        refine wpC_execs_consA ?_
        walk_at "exec Try"
        walk_at "M gd"
        refine' c_sn w mean mg mb _ au _ _ _ _ _ _ _ _ _ _ _ _ _ _ _ _ _ _ Bx F13 K N13 T ?soa ?sob ?soc ?so0 ?so1 ?so2 ?so3
        case soa => exact rfl
        case sob => exact top_dp
        case soc => exact top_un
        case so0 => exact Nat.le_trans hau (by decide)
        case so1 => exact (hok.imp id And.left)

        case so3 =>
          intro hne hbig
          exact absurd (hok.resolve_left hne).2 (Nat.not_lt.mpr hbig)
        intro _ tE tF tG tH a5 h14 k14 F14 N14 _
        clear F13 N13
        walk_at "M gd"
        rename Fr _ _ _ _ => Fx
        rename News _ _ _ _ => N14
        obtain ⟨m14, F14, x1, x3⟩ := frAbs Fx (fun m => m (PySem.Str.ofString "four") = some (.ref a4) ∧ m (PySem.Str.ofString "parts") = some (.ref a5)) ⟨x1, rfl⟩
        have f4 := f4_of hau hac hok
        clear Fx x2 hau hok hbad hac
        generalize aU au = us at *
        generalize aW au = pw at *
        generalize aH au = ho at *
        generalize (if aF au = [] then none else some (PySem.NumText.digitsVal (aF au) : Int)) = po at *
        (try dsimp only)
        refine wpC_execs_consA ?_
        refine cutNF (fun m => m (PySem.Str.ofString "four") = some (.ref a4)) F14 N14 ?_ ?_
        · walk_at "M gd"
          refine ne_t4 (tup4_in N14 List.mem_cons_self) (tup4_in N14 (List.mem_cons_of_mem _ List.mem_cons_self)) f4.asc.1 f4.asc.2.1 f4.asc.2.2 top_un64 ?_
          walk_at "M run"
          walk_at "M jn"
          exact x1
        intro h15 k15 m15 F15 N15 x1
        clear F14 x3
        have N16 := newsTl N15
        clear N14 N15
        (try dsimp only)
        refine wpC_execs_consA ?_
        refine cutNF (fun m => m (PySem.Str.ofString "four") = some (.ref a4) ∧ m (PySem.Str.ofString "user") = some (ov us tA) ∧ m (PySem.Str.ofString "word") = some (ov pw tB) ∧ m (PySem.Str.ofString "host") = some (ov ho tC) ∧ m (PySem.Str.ofString "port") = some (pv po tD)) F15 N16 ?_ ?_
        · walk_at "M run"
          walk_at "M jn"
          exact ⟨x1, rfl, rfl, rfl, rfl⟩
        intro h16 k16 m16 F16 N16 ⟨x1, x2, x3, x4, x5⟩
        clear F15
        (try dsimp only)
        refine wpC_execs_consA ?_
        refine cutNF (fun m => m (PySem.Str.ofString "four") = some (.ref a4) ∧ m (PySem.Str.ofString "user") = some (ov us tA) ∧ m (PySem.Str.ofString "word") = some (ov pw tB) ∧ m (PySem.Str.ofString "host") = some (ov ho tC) ∧ m (PySem.Str.ofString "port") = some (pv po tD) ∧ Has m (PySem.Str.ofString "ahead") (ahd us pw)) F16 N16 ?_ ?_
        · walk_at "M gc"
          have y1 := f4.leU
          have y2 := f4.leW
          refine cutV (us.getD []) F16 N16 ?_ ?_
          · cases us with
            | none => dsimp only [ov] at x2; walk_at "M run"; walk_at "M jv"
            | some l => dsimp only [ov] at x2; walk_at "M run"; walk_at "M jv"
          · intro tq h17 k17 F17 N17
            walk_at "M gc"
            refine cutV (afx pw) F17 N17 ?_ ?_
            · cases pw with
              | none => dsimp only [ov] at x3; walk_at "M run"; walk_at "M jv"
              | some l => have y3 := y2 l rfl; dsimp only [ov] at x3; walk_at "M run"; walk_at "M jv"
            · intro tr' h18 k18 F18 N18
              have y4 := f4.lenB.1
              have y5 := f4.lenB.2
              walk_at "M gc"
              walk_at "M jn"
              exact ⟨x1, x2, x3, x4, x5, hasI rfl (ahd_eq _ _)⟩
        intro h17 k17 m17 F17 N17 ⟨x1, x2, x3, x4, x5, tz, x6⟩
        clear F16 N16
        (try dsimp only)
        refine wpC_execs_consA ?_
        refine cutNF (fun m => m (PySem.Str.ofString "four") = some (.ref a4) ∧ m (PySem.Str.ofString "host") = some (ov ho tC) ∧ m (PySem.Str.ofString "port") = some (pv po tD) ∧ m (PySem.Str.ofString "ahead") = some (.str (S (ahd us pw)) tz) ∧ Has m (PySem.Str.ofString "again") (mkn us pw ho po)) F17 N17 ?_ ?_
        · walk_at "M gc"
          refine' c_mk w mean mg mb _ us pw ho po _ _ _ _ _ _ _ _ _ _ _ _ _ _ _ _ _ _ _ _ _ Bx F17 K N17 T ?mka ?mkb ?mkc ?mk0 ?mk1 ?mk2 ?mk3 ?mk4 ?mk5
          case mka => exact rfl
          case mkb => exact top_dp
          case mkc => exact top_un
          case mk0 => exact fun l e => Nat.le_trans (f4.leU l e) (by decide)
          case mk1 => exact fun l e => Nat.le_trans (f4.leW l e) (by decide)
          case mk2 => exact fun l e => Nat.le_trans (f4.leH l e) (by decide)
          case mk3 => exact f4.pob
          case mk4 => exact f4.ue

          intro ty h18 k18 F18 N18
          clear F17
          walk_at "M gc"
          walk_at "M jn"
          exact ⟨x1, x4, x5, x6, ⟨_, rfl⟩⟩
        intro h18 k18 m18 F18 N18 ⟨x1, x4, x5, x6, tx, x7⟩
        clear F17 N17 x2 x3
        (try dsimp only)
        refine wpC_of ?_
        cases ho with
        | none =>
          dsimp only [ov] at x4
          have e : mkn us pw none po = [] := rfl
          rw [e] at x7
          walk_at "M run"
          rename Fr _ _ _ _ => Fz
          rw [decide_eq_true rfl]
          exact hR _ _ Fz.keep
        | some h =>
          dsimp only [ov] at x4
          have hV := f4.mke h rfl
          have hL := f4.len h rfl
          obtain ⟨b1, b2, b3, b4, b5, b6⟩ := f4.back h rfl
          have y1 := f4.lenA
          have y2 := f4.lenP
          have y3 := f4.leH h rfl
          generalize mkn us pw (some h) po = V at *
          have y4 : (if ahd us pw ≠ [] then ahd us pw ++ [64] else []).length ≤ 226 := by
            split
            · rw [List.length_append]; show _ + 1 ≤ _; omega
            · exact Nat.zero_le _
          walk_at "M gi"
          refine cutV (if ahd us pw ≠ [] then ahd us pw ++ [64] else []) F18 N18 ?_ ?_
          · walk_at "M run"
            all_goals walk_at "M jv"
          intro tq h19 k19 F19 N19
          clear F18
          walk_at "M gi"
          refine cutV (prt po) F19 N19 ?_ ?_
          · cases po with
            | none => dsimp only [pv] at x5; walk_at "M run"; walk_at "M jv"
            | some p => obtain ⟨p0, p1⟩ := f4.pob p rfl; dsimp only [pv] at x5; walk_at "M run"; walk_at "M jv"
          intro tr' h20 k20 F20 N20
          clear F19
          walk_at "M gd"
          refine' c_sn w mean mg mb _ V _ _ _ _ _ _ _ _ _ _ _ _ _ _ _ _ _ _ Bx F20 K N20 T ?sqa ?sqb ?sqc ?sq0 ?sq1 ?sq2 ?sq3
          case sqa => exact rfl
          case sqb => exact top_dp
          case sqc => exact top_un
          case sq0 => exact hL
          case sq1 => exact b4

          case sq3 =>
            intro hne hbig
            exact absurd (b5.resolve_left hne) (Nat.not_lt.mpr hbig)
          intro _ tI tJ tK tL a6 h21 k21 F21 N21 _
          rw [b1, b2, b3, b6] at N21
          clear F20 N20
          walk_at "M gd"
          refine eq_t4 (tup4_in N21 List.mem_cons_self) (tup4_in N21 (List.mem_cons_of_mem _ List.mem_cons_self)) f4.asc.1 f4.asc.2.1 f4.asc.2.2 top_un64 ?_
          walk_at "M run"
          rename Fr _ _ _ _ => Fz
          exact hR _ _ Fz.keep

end Mine
end

/-! X7 -/
section
open PySem PySem.W PySem.Calls PyProof.Rows PySem.Builtin PySem.Spec
open Sem (wp)
set_option linter.unusedSimpArgs false
set_option linter.unusedVariables false
set_option maxRecDepth 100000
set_option maxHeartbeats 4000000
namespace Mine
theorem thread_endsC {prog : Program} {w : World} {t : Sem Fin} {s : Shared} {R : Result → Shared → Prop} (hreg : s.asleep)
    (h : wpC (model prog w) callerA t (fun fin s' => ∃ f, fin = .done f ∧ (R (.ok f) s' ∧ leftWithCleanup s'.gens = false)) (fun e s' => R (.error e) s' ∧ leftWithCleanup s'.gens = false) s) :
    ∃ n r s' s'', runN (denote table) prog w n s ⟨t, .builtin "claim.caller" {}, default, []⟩ = .halted (outcomeOf r) s' ∧
      schedN (denote table) prog w n (.single s ⟨t, .builtin "claim.caller" {}, default, []⟩) = .halted (outcomeOf r) s' ∧ s'.forget = s''.forget ∧ R r s'' := by
  obtain ⟨n, r, s₁, s₂, hs, hn, hfo, hR⟩ := wp_halts_full (M := model prog w) (R := R) hreg
    (Sem.wp_mono (model prog w) ⟨.builtin "claim.caller" {}, none, none, [], none⟩ t (fun fin p' s' h' => by obtain ⟨f, rfl, hf⟩ := h'; exact hf) (fun _ _ _ h' => h') default s (h _ default caller_in (.inl rfl)))
  exact ⟨n, r, s₂, s₁, hn, hs, hfo, hR⟩

theorem callFromC {c : ClaimW} {tree : List Value → Sem Fin} {w : World} {s : Shared} {free : Addr → Prop} {gens : Prop} {kept : Heap → Prop} (hz : s.asleep) (hgens : s.gens = #[])
    (hspec : ∀ args, c.pre args = true → WData.layableAll args = true →
      ∀ ord : List DictEntry → List DictEntry, (∀ l, (ord l).Perm l) →
      ∃ vs s₁, layAllW c.records (classAt s.heap) w.params ord args s = some (vs, s₁) ∧
        wpC (model c.prog w) callerA (tree vs) (fun fin s' => ∃ f, fin = .done f ∧ (c.Ends s args vs s₁ (.ok f) s' ∧ s'.os = s.os ∧ AllBare s'.gens ∧ kept s'.heap))
          (fun e s' => c.Ends s args vs s₁ (.error e) s' ∧ s'.os = s.os ∧ AllBare s'.gens ∧ kept s'.heap) s₁) :
    c.CallFrom (fun vs => ⟨tree vs, .builtin "claim.caller" {}, default, []⟩) w free gens kept s := by
  intro args hpre hlay ord hord
  obtain ⟨vs, s₁, hlaid, hcode⟩ := hspec args hpre hlay ord hord
  have hal := layAllW_rest _ _ _ hlaid
  obtain ⟨k, r, s', s'', hrun, hsched, hfo, hcase, hos, hkp⟩ := thread_endsC (prog := c.prog) (w := w) (t := tree vs) (s := s₁)
    (R := fun r s' => c.Ends s args vs s₁ r s' ∧ s'.os = s.os ∧ kept s'.heap) (Shared.asleep_of_life hal.2.2.2 hz)
    (wpC_mono hcode (fun fin s' q => by
      obtain ⟨f, e, h1, h2, h3, h4⟩ := q
      exact ⟨f, e, ⟨h1, h2, h4⟩, leftWithCleanup_false_of_bare h3⟩) (fun e s' q => by
      obtain ⟨h1, h2, h3, h4⟩ := q
      exact ⟨⟨h1, h2, h4⟩, leftWithCleanup_false_of_bare h3⟩))
  obtain ⟨eh, _, _, eo, _⟩ := Shared.forget_eq hfo
  have hcase := hcase.congr eh
  have hkp : kept s'.heap := by first | exact eh ▸ hkp | (rw [eh] at hkp; exact hkp) | (rw [← eh] at hkp; exact hkp)
  rw [← eo] at hos
  have hlife : s'.heap.life = s.heap.life := (runN_life _ _ _ hrun).trans hal.2.2.2
  refine ⟨vs, s₁, hlaid, k, _, s', hsched, ?_, (fun _ i x hx => by rw [hgens] at hx; simp at hx), hkp, by rw [hlife], Shared.rest_eq hos⟩
  rcases hcase with ⟨v, rfl, d1, d2, d3, d4, d5⟩ | ⟨e, ob, cls, rfl, d1, d2, d3, d4, d5⟩
  · exact .inl ⟨v, rfl, d1, d2, d3, fun b o y _ => d4 b o y, d5⟩
  · exact .inr ⟨e, ob, cls, rfl, d1, d2, d3, d4, fun b o y _ => d5 b o y⟩

abbrev WalkC (q : Program) (loose : List PySem.Str) (XP : (PySem.Str → Option Value) → Heap → Prop) {α : Type} (Yf : Shared → α) (Ya : World → α) (r : RowW) (d : DefRec) (kwd : List (PySem.Str × Expr)) : Prop :=
  ∀ (w : World) (s₀ s₁ : Shared) (mg mb : PySem.Str → Option Value), Ground q loose r.records XP w s₀ mg mb s₁.heap → Yf s₀ = Ya w → ∀ (a : Addr) (o : Obj) (pm cd doc dV kV : Value), s₁.heap.get? a = some o →
    o.data = .func { docDef d.name d.params d.body d.scope pm cd doc with defaults := dV, kwdefaults := kV } → s₁.heap.CodeRec cd d.name → Dflts mg s₁.heap d.params kwd dV kV → mg d.name = some (.ref a) → s₁.gens = #[] →
    ∀ (args : List WData) (vals : List Value) (as : List Addr), Laid r.records w s₀ s₁ args vals as → r.claim.pre args = true → WData.layableAll args = true → ReadsAllW r.records (classAt s₀.heap) s₁.heap vals args as → WellAll w.params s₁.heap vals args → (∀ a ∈ as, (a == sysModules) = false) →
      wpC (model r.prog w) callerA (PySem.call (.ref a) vals) (fun v s' => GoodWG r.claim (classAt s₀.heap) (ExcName.means s₀.heap) args s₁ (.ok (.ret v)) s')
        (fun e s' => GoodWG r.claim (classAt s₀.heap) (ExcName.means s₀.heap) args s₁ (.error e) s') s₁

/-- the head, for the claim's own context -/
theorem PySem.W.holds_openX {r : OpenRow} {q : Program} {loose : List PySem.Str} {Xt : Shared → Bool} {XP : (PySem.Str → Option Value) → Heap → Prop} {α : Type} {Yf : Shared → α} {Ya : World → α} {d : DefRec} {kwd : List (PySem.Str × Expr)} {N : Nat}
    (left : LeftO r.prog q loose Xt Yf Ya N)
    (hX : ∀ s, Xt s = true → XP (s.heap.nsMap mainGlobals) s.heap) (hXk : ∀ mg h h', XP mg h → (∀ b o, h.get? b = some o → h'.get? b = some o) → XP mg h')
    (hdef : defOf q r.name = some (d, kwd)) (hp : r.prog.theDef r.name = some (d.params, d.body, d.scope)) (hk : kwWritten? d.params.kwonlyargs d.params.kw_defaults = some kwd) (hRf : ∀ s, Xt s = true → RecFacts r.records s.heap) (hwr : (!r.writes || r.records.isEmpty) = true)
    (k1 : r.wellSaid = true) (ok : (chainsOk q && opensWell r.prog && (frees r.toRowW && r.within.isEmpty)) = true) (hb : r.prog.bare) (hw : r.toRowW.promised)
    (call : WalkC q loose XP Yf Ya r.toRowW d kwd) : r.Holds := by
  have hpin : ∀ w s, s.heap.isNs mainGlobals = true → Ground q loose [] XP w s (s.heap.nsMap mainGlobals) (s.heap.nsMap builtinsNs) s.heap → ∀ n ∈ (if r.pinned then [r.name] else []), isTheDefsW r.prog s.heap n := fun w s hg G n hn => by
    obtain rfl : n = r.name := by split at hn <;> simp_all
    exact pinned_of_view hg G hdef hp hk
  obtain ⟨ok, k5⟩ := Bool.and_eq_true_iff.mp ok
  obtain ⟨hch, o1⟩ := Bool.and_eq_true_iff.mp ok
  obtain ⟨k5, k6⟩ := Bool.and_eq_true_iff.mp k5
  obtain ⟨hsame, hu, ha, hap, hm⟩ := frees_parts k5
  refine ⟨k1, hw, ⟨hb, o1, by show r.makers.map _ = []; rw [hm]; rfl⟩, hw.witness, fun w => ⟨(left.behind hX hch w).1, fun s' hs' => ?_⟩⟩
  obtain ⟨s₀, hf, hg0, s, hT, hz, hgens, hg, G00, y⟩ := (left.behind (XP := fun mg h => XP mg h ∧ RecFacts r.records h) (fun s hs => ⟨hX s hs, hRf s hs⟩) hch w).2 s' hs'
  have G0 : Ground q loose [] XP w s (s.heap.nsMap mainGlobals) (s.heap.nsMap builtinsNs) s.heap := ⟨G00.T, G00.B, G00.D, G00.TE, G00.TD, G00.W, G00.X.1, G00.cls, G00.has, G00.apart, G00.once, G00.K⟩
  have RF := G00.X.2
  have hT' := hT
  refine ⟨s₀, hf, hg0, s, hT, hpin w s hg G0, RF.1, RF.2.1, ?_⟩
  have hgens : s.gens = #[] := Array.eq_empty_of_size_eq_zero (beq_iff_eq.mp hgens)
  have G : Ground q loose r.records XP w s _ _ s.heap := RF.ground G0
  refine callFromC (c := r.claim) (tree := fun vs => do match ← nsGet mainNs r.name with
      | some f => do ret (← PySem.call f vs)
      | none => unsupported "claim.caller:no-such-global") hz hgens fun args hpre hlay ord hord => ?_
  obtain ⟨⟨vs, s₁⟩, hlaid⟩ := Option.isSome_iff_exists.mp (layAllW_isSome (P := w.params) (ord := ord) G.has args r.args s (pre_splitW hpre).1)
  have keeps := layAllW_keeps _ _ _ hlaid
  have hal := layAllW_rest _ _ _ hlaid
  obtain ⟨as, hrd, hin, hold⟩ := reads_layAllW hord _ _ _ hlaid hlay s₁.heap (fun _ _ e => e)
  have L : Laid r.records w s s₁ args vs as := ⟨⟨ord, hord, hlaid⟩, hrd, hin, hold, keeps, hal.1.trans hgens, hal.2.2.1⟩
  have G₁ := G.keeps hXk keeps
  obtain ⟨a, o, pm, cd, doc, dV, kV, h1, h2, h3, h4, h5⟩ := G₁.fn hdef
  have hcall := call w s s₁ _ _ G₁ y a o pm cd doc dV kV h2 h3 h4 h5 (defOf_name hdef ▸ h1) L.gens args vs as L hpre hlay L.reads L.well (L.low G.low)
  have hi := ident_freeW hu ha hap
  have hwi : r.claim.within = [] := List.isEmpty_iff.mp k6
  refine ⟨vs, s₁, hlaid, wpC_bindA (wpAny_nsGet G₁.T.g ?_)⟩
  rw [h1]
  refine wpC_bind (wpC_mono hcall (fun v s' g => wpC_of (wpAny_pure ⟨_, rfl, ?_⟩)) fun e s' g => ?_)
  · have z := g.laid (c := r.claim) hsame hwi hi L
    exact ⟨z.1, z.2.1, z.2.2, fun q => ⟨namesKept_of hT' hg r.keeps keeps g.2.1.old, noTable hwr q⟩⟩
  · have z := g.laid (c := r.claim) hsame hwi hi L
    exact ⟨z.1, z.2.1, z.2.2, fun q => ⟨namesKept_of hT' hg r.keeps keeps g.2.1.old, noTable hwr q⟩⟩
end Mine
end

/-! HC -/
section
open PySem PySem.W PySem.W.X PySem.W.ZRun PyProof.Rows
namespace Mine
local macro_rules | `(tactic| k_head) => `(tactic| z_head)
set_option maxRecDepth 100000 in
set_option maxHeartbeats 0 in
open_top hc for PySem.Challenge.rw_fe0372_01
end Mine
end

/-! X9 -/
section
open PySem PySem.W PySem.Calls PyProof.Rows
set_option linter.unusedVariables false
namespace Mine
theorem call_fullC {prog : Program} {w : World} {A : Around} {R : Result → Shared → Prop} {s : Shared} {name : PySem.Str} {params : Arguments} {body : List Stmt} {scope : Scope}
    {dV kV pm cd doc : Value} {a : Addr} {o : Obj} {args : Args} {binds : List (PySem.Str × Value)}
    (hroom : A.depth < recursionLimit) (ho : s.heap.get? a = some o) (hdata : o.data = .func { docDef name params body scope pm cd doc with defaults := dV, kwdefaults := kV }) (hlim : s.heap.NoLimit) (hcd : s.heap.CodeRec cd name)
    (hbind : BindsTo s { docDef name params body scope pm cd doc with defaults := dV, kwdefaults := kV } args binds)
    (hloc : ∀ x ∈ binds, scope.names.lookup x.1 = some .local)
    (h : ∀ h₁, Fr s.heap s.heap.objs.size h₁ (fun x => binds.reverse.lookup x) →
      wpC (model prog w) (A.deeper (envOf name scope s.heap.objs.size a cd)) (execs body (envOf name scope s.heap.objs.size a cd))
        (fun f s' => R (.ok (.ret (match f with | .ret v => v | _ => .none))) s')
        (fun e s' => wpAny (model prog w) (A.deeper (envOf name scope s.heap.objs.size a cd)) (leaving (envOf name scope s.heap.objs.size a cd) e)
          (fun _ s'' => R (.error e) s'') (fun e' s'' => R (.error e') s'') s')
        { s with heap := h₁, toks := s.toks + binds.length })
    (hco : scope.isCoroutine = false := by rfl) (hgen : scope.isGenerator = false := by rfl) (hk : scope.kind = .function := by rfl)
    (hcell : ∀ x ∈ scope.names, x.2 ≠ .cell := by decide) :
    codeC (model prog w) A (.call (.ref a) args) R s :=
  codeC_call_def hroom ho hdata hlim hcd rfl hbind hcell hloc (fun h₁ hns hkeep => h h₁ ⟨hns, hkeep, Nat.le_refl _⟩) hco hgen hk
theorem enter_callC {M : Model} {A : Around} {s : Shared} {f : Value} {pos : List Value} {kw : List (PySem.Str × Value)} {c : ClaimW} {cl : PySem.Str → Option Addr} {mean : ExcName → Option Value} {args : List WData} {s₁ : Shared}
    (h : codeC M A (.call f ⟨pos, kw⟩) (GoodWG c cl mean args s₁) s) : wpC M A (PySem.call f pos kw) (fun v s' => GoodWG c cl mean args s₁ (.ok (.ret v)) s') (fun e s' => GoodWG c cl mean args s₁ (.error e) s') s :=
  wpC_call (codeC_mono h fun res s' g => by rcases g.1 with ⟨v, _, _, rfl, _⟩ | ⟨e, _, _, rfl, _⟩ <;> exact g)
end Mine
end

/-! HBc -/
section
open PySem PySem.W PySem.W.X PySem.W.ZRun PyProof.Rows
set_option maxRecDepth 100000
set_option maxHeartbeats 8000000
namespace Mine

theorem view_eqc : hc.view_230 = hd.view_39 := by kernel_rfl

theorem sub_heapc (P : Params) : ∀ p ∈ hd.heap_39 P, (hc.heap_129 P).lookup p.1 = some p.2 := by
  unfold hd.heap_39
  repeat (refine List.forall_mem_cons.mpr ⟨?_, ?_⟩; kernel_rfl)
  exact fun _ h => nomatch h

theorem lookup_mem {K : Frag} {a : Addr} {o : Obj} (h : K.lookup a = some o) : (a, o) ∈ K := by
  induction K with
  | nil => exact nomatch h
  | cons p K ih =>
    obtain ⟨b, q⟩ := p
    rw [List.lookup_cons] at h
    split at h
    · rename_i e
      cases h
      rw [beq_iff_eq.mp e]
      exact List.mem_cons_self
    · exact List.mem_cons_of_mem _ (ih h)

theorem in_hd {w : World} {h : Heap} (K : InK hc.heap_129 w h) : (hd.heap_39 w.params).In h :=
  fun a o e => K a o (sub_heapc w.params (a, o) (lookup_mem e))

end Mine
end

/-! the claim -/
section
open PySem PySem.W PySem.W.X PySem.W.ZRun PyProof.Rows
namespace Mine
set_option maxRecDepth 100000 in
set_option maxHeartbeats 8000000 in
theorem X : PySem.Challenge.rw_fe0372_01.Holds := hc (by
  k_fill
  w_top off
  intro w s₀ s₁ mg mb G y fa o pm cd doc dV kV ho hdd hcd hD hmg hg args vals as L hpre hlay hrd hwl hlo
  have zf := PySem.W.X.z_facts (fun _ => by kernel_rfl) y
  have KX := InK.keeps w _ _ zf.2.1 (Laid.keeps L)
  refine Ground.open G ?_
  intro T B D TE TW
  wrow_args hpre hlay hrd hwl hlo
  have htk := PySem.W.X.script_toks L zf.2.2.2
  refine enter_callC ?_
  have K := in_hd KX
  have T' : Top hd.view_39 LS (ExcName.means s₀.heap) mg mb s₁.heap := view_eqc ▸ T
  have hfa : fa = 100 := Value.ref.inj (Option.some.inj (hmg.symm.trans (mg_of (n := PySem.Str.ofString "law") K T'.g (by kernel_rfl))))
  subst hfa
  refine c_law w _ mg mb _ _ _ s₁ _ K T' (by assumption) (by assumption) (by omega) htk (fun h' tk hk => ?_)
  refine GoodW.toG ⟨.inl ⟨.bool true, .bool true, [], rfl, ?_, .bool true, ?_, unshared_nil⟩, hk, rfl, hg⟩
  · intro cls
    rfl
  · wrow_post)
end Mine
end

theorem PySem.Challenge.cw_fe0372_01_holds : PySem.Challenge.rw_fe0372_01.Holds :=
  Mine.X
