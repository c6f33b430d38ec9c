/-
  Plain facts for LawS2978BEnded: lists, the search, the state of memory.
-/
import Derived.Test.YbulkbiqoE
namespace Go.Proofs.Ybulkbiqo
open Go Go.RowKit

/-! ### lists -/
theorem f3_set (l : List (Int × Int × Value)) (i : Nat) (x : Int × Int × Value) : (((f3 l).set (i * 3) (.int .i64 x.1)).set (i * 3 + 1) (.int .u64 x.2.1)).set (i * 3 + 2) x.2.2 = f3 (l.set i x) := by
  induction l generalizing i with
  | nil => simp [f3]
  | cons a t ih =>
    cases i with
    | zero => simp [f3_cons]
    | succ i =>
      rw [f3_cons, List.set_cons_succ, f3_cons, ← ih i, show (i + 1) * 3 = i * 3 + 1 + 1 + 1 from by omega]
      simp only [List.set_cons_succ]

/-- Filled as far as k. -/
def upto {α : Type} (k : Nat) (f : Nat → α) (z : α) : Nat → α := fun j => if j < k then f j else z

theorem mem3_upto (A B : Nat → Int) (X : Nat → Value) (x0 : Value) (n k : Nat) (_hk : k < n) :
    (mem3 (upto k A 0) (upto k B 0) (upto k X x0) n).set k (A k, B k, X k) = mem3 (upto (k + 1) A 0) (upto (k + 1) B 0) (upto (k + 1) X x0) n := by
  apply List.ext_getElem?
  intro j
  rw [List.getElem?_set]
  by_cases hj : j < n
  · simp only [mem3, List.length_map, List.length_range, List.getElem?_map, List.getElem?_range hj, Option.map_some]
    by_cases e : k = j
    · subst e; simp [upto, hj]
    · rw [if_neg e]
      have h1 : (j < k) = (j < k + 1) := by simp only [eq_iff_iff]; omega
      simp only [upto, h1]
  · simp [mem3, hj]; omega
theorem mem3_all (A B : Nat → Int) (X : Nat → Value) (x0 : Value) (n : Nat) : mem3 (upto n A 0) (upto n B 0) (upto n X x0) n = mem3 A B X n := by
  unfold mem3
  apply List.map_congr_left
  intro j hj
  simp [upto, List.mem_range.1 hj]
theorem mem3_none (A B : Nat → Int) (X : Nat → Value) (x0 : Value) (n : Nat) : mem3 (upto 0 A 0) (upto 0 B 0) (upto 0 X x0) n = List.replicate n (0, 0, x0) := by
  unfold mem3 upto
  simp [List.map_const']
theorem f3_replicate (n : Nat) (x : Int × Int × Value) : f3 (List.replicate n x) = (List.replicate n (el3 x)).flatten := by simp [f3, List.flatMap_def]

def f2 (l : List (Int × Int)) : List Value := l.flatMap fun x => [Value.int .i64 x.1, Value.int .u64 x.2]
theorem f2_append (l m : List (Int × Int)) : f2 (l ++ m) = f2 l ++ f2 m := by simp [f2]
theorem f2_cons (x : Int × Int) (l : List (Int × Int)) : f2 (x :: l) = .int .i64 x.1 :: .int .u64 x.2 :: f2 l := rfl
theorem f2_get (l : List (Int × Int)) (i : Nat) (x : Int × Int) (h : l[i]? = some x) : (f2 l)[i * 2]? = some (.int .i64 x.1) ∧ (f2 l)[i * 2 + 1]? = some (.int .u64 x.2) := by
  induction l generalizing i with
  | nil => simp at h
  | cons a t ih =>
    cases i with
    | zero => simp at h; subst h; simp [f2_cons]
    | succ i =>
      have := ih i (by simpa using h)
      rw [f2_cons, show (i + 1) * 2 = i * 2 + 1 + 1 from by omega]
      simpa using this
theorem f2_drop1 (l : List (Int × Int)) : f2 (l.drop 1) = (f2 l).drop 2 := by cases l <;> simp [f2]
theorem f2_length (l : List (Int × Int)) : (f2 l).length = l.length * 2 := by
  induction l with
  | nil => rfl
  | cons a t ih => rw [f2_cons]; simp [ih]; omega

/-- The indices up to k but the one at the place. -/
def keepL (at' : Int) (k : Nat) : List Nat := (List.range k).filter fun j => (j : Int) != at'
theorem keepL_hit {at' : Int} {k : Nat} (h : ((k : Int) != at') = true) : keepL at' (k + 1) = keepL at' k ++ [k] := by
  unfold keepL; rw [List.range_succ, List.filter_append]; simp [h]
theorem keepL_miss {at' : Int} {k : Nat} (h : ((k : Int) != at') = false) : keepL at' (k + 1) = keepL at' k := by
  unfold keepL; rw [List.range_succ, List.filter_append]; simp [h]
theorem keepL_le (at' : Int) (k : Nat) : (keepL at' k).length ≤ k := by
  unfold keepL; exact Nat.le_trans (List.length_filter_le _ _) (by simp)
theorem keepL_neg (k : Nat) : keepL (-1) k = List.range k := by
  unfold keepL
  apply List.filter_eq_self.2
  intro j _
  simp
theorem keepL_pos (k n : Nat) (hk : k < n) : keepL (k : Int) n = (List.range n).take k ++ (List.range n).drop (k + 1) := by
  induction n with
  | zero => omega
  | succ n ih =>
    by_cases e : k = n
    · subst e
      rw [keepL_miss (by simp), List.range_succ, List.take_append_of_le_length (by simp), List.take_of_length_le (by simp), List.drop_eq_nil_of_le (by simp)]
      unfold keepL
      rw [List.filter_eq_self.2 (by intro j hj; have := List.mem_range.1 hj; simp; omega)]
      simp
    · rw [keepL_hit (by simp; omega), ih (by omega), List.range_succ, List.take_append_of_le_length (by simp; omega), List.drop_append_of_le_length (by simp; omega), List.append_assoc]

theorem drop_dl3 (A B : Nat → Int) (H : Nat → Bool) (c d : Int) (n : Nat) : dropAt (dl3 A B H n) (firstAt A B c d 0 n) = (keepL (firstAt A B c d 0 n) n).map fun i => (A i, B i, Value.bool (H i)) := by
  rcases firstAt_range A B c d n 0 with h | ⟨k, _, hk, h⟩
  · rw [h, keepL_neg]; simp [dropAt, dl3, mem3]
  · rw [h, keepL_pos k n (by omega), dropAt, if_pos (by omega), Int.toNat_natCast, List.map_append, List.map_take, List.map_drop]
    rfl

/-- Is one of the first k the member? -/
def anyAt (P R : Nat → Int) (c d : Int) (k : Nat) : Bool := (List.range k).any fun i => P i == c && R i == d
theorem anyAt_succ (P R : Nat → Int) (c d : Int) (k : Nat) : anyAt P R c d (k + 1) = (anyAt P R c d k || (P k == c && R k == d)) := by
  unfold anyAt; rw [List.range_succ, List.any_append]; simp
theorem firstAt_any (P R : Nat → Int) (c d : Int) : ∀ (m i : Nat), (firstAt P R c d i m < 0) ↔ ∀ j, i ≤ j → j < i + m → (P j == c && R j == d) = false
  | 0, i => by simp [firstAt]; intro j h1 h2; omega
  | m + 1, i => by
    unfold firstAt
    split
    · rename_i h
      constructor
      · intro h'; omega
      · intro h'; have := h' i (Nat.le_refl _) (by omega); rw [h] at this; cases this
    · rename_i h
      rw [firstAt_any P R c d m (i + 1)]
      constructor
      · intro h' j h1 h2
        by_cases e : j = i
        · subst e; simpa using h
        · exact h' j (by omega) (by omega)
      · intro h' j h1 h2; exact h' j (by omega) (by omega)
theorem any_first (P R : Nat → Int) (c d : Int) (p : Nat) : anyAt P R c d p = true ↔ 0 ≤ firstAt P R c d 0 p := by
  have h := firstAt_any P R c d p 0
  constructor
  · intro ha
    have : ¬ firstAt P R c d 0 p < 0 := by
      rw [h]
      intro hn
      unfold anyAt at ha
      rw [List.any_eq_true] at ha
      obtain ⟨j, hj, hj2⟩ := ha
      rw [hn j (Nat.zero_le _) (by have := List.mem_range.1 hj; omega)] at hj2
      cases hj2
    omega
  · intro h0
    have h1 : ¬ ∀ j, 0 ≤ j → j < 0 + p → (P j == c && R j == d) = false := fun hn => by have := h.2 hn; omega
    unfold anyAt
    rw [List.any_eq_true]
    refine Classical.byContradiction fun hne => h1 fun j _ hj => ?_
    cases hb : (P j == c && R j == d) with
    | false => rfl
    | true => exact absurd ⟨j, List.mem_range.2 (by omega), hb⟩ hne

/-! ### memory -/
/-- A store of one element of three cells. -/
theorem row_set3 {w : World} {base : Nat} {e : TypeId} {g n : Nat} {l : List (Int × Int × Value)} (h : RowAt w base e 3 (.slice (some ⟨g, 0, none⟩) n n) n (f3 l)) (i : Nat) (hi : i < n) (a b : Int) (v : Value) :
    RowAt (((w.setCell ⟨g, i * 3, none⟩ (.int .i64 a)).setCell ⟨g, i * 3 + 1, none⟩ (.int .u64 b)).setCell ⟨g, i * 3 + 2, none⟩ v) base e 3 (.slice (some ⟨g, 0, none⟩) n n) n (f3 (l.set i (a, b, v))) ∧
    Chg w (((w.setCell ⟨g, i * 3, none⟩ (.int .i64 a)).setCell ⟨g, i * 3 + 1, none⟩ (.int .u64 b)).setCell ⟨g, i * 3 + 2, none⟩ v) (fun k => k = g) := by
  have hn : 0 < n := by omega
  have h1 := (h.stored hn (i * 3) (.int .i64 a)).1
  rw [Nat.zero_add] at h1
  have h2 := (h1.stored hn (i * 3 + 1) (.int .u64 b)).1
  rw [Nat.zero_add] at h2
  have h3 := (h2.stored hn (i * 3 + 2) v).1
  rw [Nat.zero_add] at h3
  have c1 : Chg w (w.setCell ⟨g, i * 3, none⟩ (.int .i64 a)) (fun k => k = g) := Chg.setCell w ⟨g, i * 3, none⟩ _
  have c2 : Chg w ((w.setCell ⟨g, i * 3, none⟩ (.int .i64 a)).setCell ⟨g, i * 3 + 1, none⟩ (.int .u64 b)) (fun k => k = g) := c1.trans (Chg.setCell _ ⟨g, i * 3 + 1, none⟩ _) (fun _ _ h => h)
  refine ⟨?_, c2.trans (Chg.setCell _ ⟨g, i * 3 + 2, none⟩ _) (fun _ _ h => h)⟩
  rw [← f3_set l i (a, b, v)]
  exact h3

/-- The cells of an element are there, and are not frozen. -/
theorem row_there {w : World} {base : Nat} {e : TypeId} {g n : Nat} {l : List (Int × Int × Value)} (h : RowAt w base e 3 (.slice (some ⟨g, 0, none⟩) n n) n (f3 l)) (i : Nat) (hi : i < n) :
    (∃ u, w.cell? ⟨g, i * 3, none⟩ = some u) ∧ (∃ u, w.cell? ⟨g, i * 3 + 1, none⟩ = some u) ∧ (∃ u, w.cell? ⟨g, i * 3 + 2, none⟩ = some u) ∧ ∀ j, w.frozen? ⟨g, j, none⟩ = false := by
  obtain ⟨hb, cur, hg, hs, hcur, hm⟩ := full_row h (by omega)
  refine ⟨?_, ?_, ?_, fun j => by simp [World.frozen?, hg]⟩
  all_goals
    rw [cell_of_row w g _ cur e (0, 0) hg]
    exact ⟨_, Array.getElem?_eq_getElem (by omega)⟩
end Go.Proofs.Ybulkbiqo
