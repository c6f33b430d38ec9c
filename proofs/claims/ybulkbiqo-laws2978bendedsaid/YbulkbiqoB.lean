/-
  Rows of three-cell elements by lists; slices.Delete, remember, add, MarkSilent, linkingEnded over them.
-/
import Derived.Test.YbulkbiqoDel
import Derived.Test.YbulkbiqoLocks
import Derived.Defers
namespace Go.Proofs.Ybulkbiqo
open Go Go.RowKit Go.MuLone

/-- An element's cells. -/
def el3 (x : Int × Int × Value) : List Value := [.int .i64 x.1, .int .u64 x.2.1, x.2.2]
def f3 (l : List (Int × Int × Value)) : List Value := l.flatMap el3

theorem f3_nil : f3 [] = [] := rfl
theorem f3_cons (x : Int × Int × Value) (l : List (Int × Int × Value)) : f3 (x :: l) = .int .i64 x.1 :: .int .u64 x.2.1 :: x.2.2 :: f3 l := rfl
theorem f3_append (l m : List (Int × Int × Value)) : f3 (l ++ m) = f3 l ++ f3 m := by simp [f3]
theorem f3_length (l : List (Int × Int × Value)) : (f3 l).length = l.length * 3 := by
  induction l with
  | nil => rfl
  | cons a t ih => rw [f3_cons]; simp [ih]; omega
theorem f3_get (l : List (Int × Int × Value)) (i : Nat) (x : Int × Int × Value) (h : l[i]? = some x) : (f3 l)[i * 3]? = some (.int .i64 x.1) ∧ (f3 l)[i * 3 + 1]? = some (.int .u64 x.2.1) ∧ (f3 l)[i * 3 + 2]? = some x.2.2 := by
  induction l generalizing i with
  | nil => simp at h
  | cons a t ih =>
    cases i with
    | zero => simp at h; subst h; simp [f3_cons]
    | succ i =>
      have := ih i (by simpa using h)
      rw [f3_cons, show (i + 1) * 3 = i * 3 + 1 + 1 + 1 from by omega]
      simpa using this
theorem f3_drop (l : List (Int × Int × Value)) (i : Nat) : f3 (l.drop i) = (f3 l).drop (i * 3) := by
  induction l generalizing i with
  | nil => simp [f3]
  | cons a t ih =>
    cases i with
    | zero => simp
    | succ i => rw [List.drop_succ_cons, ih, f3_cons, show (i + 1) * 3 = i * 3 + 1 + 1 + 1 from by omega]; simp
theorem f3_take (l : List (Int × Int × Value)) (i : Nat) : f3 (l.take i) = (f3 l).take (i * 3) := by
  induction l generalizing i with
  | nil => simp [f3]
  | cons a t ih =>
    cases i with
    | zero => simp [f3]
    | succ i => rw [List.take_succ_cons, f3_cons, ih, f3_cons, show (i + 1) * 3 = i * 3 + 1 + 1 + 1 from by omega]; simp

/-- A full row from the row's head, its cells written out. -/
theorem full_row {w : World} {base : Nat} {e : TypeId} {g n : Nat} {xs : List Value} (h : RowAt w base e 3 (.slice (some ⟨g, 0, none⟩) n n) n xs) (hn : 0 < n) :
    base ≤ g ∧ ∃ cur, w.heap[g]? = some (.cells cur e (0, 0)) ∧ cur.size = n * 3 ∧ cur.toList = xs ∧ n ≤ maxLen := by
  rcases h.2 with ⟨a, _, h0⟩ | ⟨g', off', cap', cur, h', hb, hg, hnc, hcm, hcs, htake⟩
  · omega
  · simp only [Value.slice.injEq, Option.some.injEq, Addr.mk.injEq, and_true, true_and] at h'
    obtain ⟨⟨rfl, rfl⟩, rfl⟩ := h'
    refine ⟨hb, cur, hg, by omega, ?_, hcm⟩
    rw [← htake, List.drop_zero, List.take_of_length_le (by rw [Array.length_toList]; omega)]

theorem taken_row {w w' : World} {base : Nat} {e : TypeId} {g n i : Nat} {l : List (Int × Int × Value)} (h : RowAt w base e 3 (.slice (some ⟨g, 0, none⟩) n n) n (f3 l)) (hi : i < n) (ht : Taken w w' g i n e) :
    RowAt w' base e 3 (.slice (some ⟨g, 0, none⟩) (n - 1) n) (n - 1) (f3 (l.take i ++ l.drop (i + 1))) ∧ Chg w w' (fun k => k = g) := by
  obtain ⟨hb, cur, hg, hs, hcur, hm⟩ := full_row h (by omega)
  obtain ⟨⟨cur', hg', hs'⟩, hc, hcell⟩ := ht
  have hl : l.length = n := by have := h.1; rw [f3_length] at this; omega
  have hlen : (f3 (l.take i ++ l.drop (i + 1))).length = (n - 1) * 3 := by rw [f3_length]; simp [hl]; omega
  refine ⟨⟨hlen, .inr ⟨g, 0, n - 1, cur', by rw [show n - 1 + 1 = n from by omega], hb, hg', by omega, by omega, by omega, ?_⟩⟩, hc⟩
  apply List.ext_getElem?
  intro j
  rw [List.drop_zero]
  by_cases hj : j < (n - 1) * 3
  · have e1 := hcell j hj
    rw [cell_of_row w' g j cur' e (0, 0) hg', cell_of_row w g _ cur e (0, 0) hg] at e1
    rw [List.getElem?_take, if_pos hj, f3_append, f3_take, f3_drop, ← hcur]
    rw [show cur'.toList[j]? = cur'[j]? from by simp, e1]
    by_cases hji : j < i * 3
    · rw [if_pos hji, List.getElem?_append_left (by simp [hs]; omega), List.getElem?_take, if_pos hji]; simp
    · rw [if_neg hji, List.getElem?_append_right (by simp [hs]; omega), List.length_take, Array.length_toList, hs, Nat.min_eq_left (by omega), List.getElem?_drop, show (i + 1) * 3 + (j - i * 3) = j + 3 from by omega]; simp
  · rw [List.getElem?_eq_none (by rw [List.length_take]; omega), List.getElem?_eq_none (by omega)]

def One (l : List (Int × Int × Value)) : Prop := ∀ x ∈ l, x.2.2.oneCell' = true
theorem One.cells {l : List (Int × Int × Value)} (h : One l) : ∀ v ∈ f3 l, v.oneCell' = true := by
  intro v hv
  simp only [f3, List.mem_flatMap, el3] at hv
  obtain ⟨x, hx, hv⟩ := hv
  simp at hv
  rcases hv with rfl | rfl | rfl
  · rfl
  · rfl
  · exact h x hx

theorem delD {w : World} {base g n i : Nat} {l : List (Int × Int × Value)} (h : RowAt w base 35 3 (.slice (some ⟨g, 0, none⟩) n n) n (f3 l)) (h1 : One l) (hn : n ≤ 1024) (hi : i < n) :
    Calls Yba.prog 8 #[.slice (some ⟨g, 0, none⟩) n n, .int .i64 i, .int .i64 ((i : Int) + 1)] w fun e w' => e = .returned (.slice (some ⟨g, 0, none⟩) (n - 1) n) ∧
      RowAt w' base 35 3 (.slice (some ⟨g, 0, none⟩) (n - 1) n) (n - 1) (f3 (l.take i ++ l.drop (i + 1))) ∧ Chg w w' (fun k => k = g) := by
  obtain ⟨hb, cur, hg, hs, hcur, hm⟩ := full_row h (by omega)
  refine (del8 g n i cur w hn hi hg hs (by rw [hcur]; exact h1.cells)).mono ?_
  rintro e w' ⟨rfl, ht⟩
  exact ⟨rfl, taken_row h hi ht⟩

theorem delM {w : World} {base g n i : Nat} {l : List (Int × Int × Value)} (h : RowAt w base 40 3 (.slice (some ⟨g, 0, none⟩) n n) n (f3 l)) (h1 : One l) (hn : n ≤ 1024) (hi : i < n) :
    Calls Yba.prog 21 #[.slice (some ⟨g, 0, none⟩) n n, .int .i64 i, .int .i64 ((i : Int) + 1)] w fun e w' => e = .returned (.slice (some ⟨g, 0, none⟩) (n - 1) n) ∧
      RowAt w' base 40 3 (.slice (some ⟨g, 0, none⟩) (n - 1) n) (n - 1) (f3 (l.take i ++ l.drop (i + 1))) ∧ Chg w w' (fun k => k = g) := by
  obtain ⟨hb, cur, hg, hs, hcur, hm⟩ := full_row h (by omega)
  refine (del21 g n i cur w hn hi hg hs (by rw [hcur]; exact h1.cells)).mono ?_
  rintro e w' ⟨rfl, ht⟩
  exact ⟨rfl, taken_row h hi ht⟩

theorem delM0 {w : World} {base g n : Nat} {l : List (Int × Int × Value)} (h : RowAt w base 40 3 (.slice (some ⟨g, 0, none⟩) n n) n (f3 l)) (h1 : One l) (hn : n ≤ 1024) (hi : 0 < n) :
    Calls Yba.prog 21 #[.slice (some ⟨g, 0, none⟩) n n, .int .i64 0, .int .i64 1] w fun e w' => e = .returned (.slice (some ⟨g, 0, none⟩) (n - 1) n) ∧
      RowAt w' base 40 3 (.slice (some ⟨g, 0, none⟩) (n - 1) n) (n - 1) (f3 (l.drop 1)) ∧ Chg w w' (fun k => k = g) := by
  have := delM (i := 0) h h1 hn hi
  rw [List.take_zero, List.nil_append] at this
  exact this

/-- What remember makes of the list. -/
def remembered (l : List (Int × Int × Value)) (x : Int × Int × Value) : List (Int × Int × Value) := (if l.length = 32 then l.drop 1 else l) ++ [x]

theorem three_new (w : World) (x y z : Value) (t : TypeId) : ∀ (j : Nat) (u : Value), [x, y, z][j]? = some u → (w.alloc (.cells #[x, y, z] t)).cell? ((⟨w.heap.size, 0, none⟩ : Addr).add j) = some u := by
  intro j u hj
  match j, hj with
  | 0, hj => simp at hj; subst hj; simp [Addr.add]
  | 1, hj => simp at hj; subst hj; simp [Addr.add]
  | 2, hj => simp at hj; subst hj; simp [Addr.add]

set_option maxRecDepth 100000 in
theorem remember16 {w : World} {base g n : Nat} {l : List (Int × Int × Value)} (h : RowAt w base 40 3 (.slice (some ⟨g, 0, none⟩) n n) n (f3 l)) (h1 : One l) (hn : n ≤ 1024) (c d : Int) (t : TypeId) (y : Value) (hbase : base ≤ w.heap.size) :
    Calls Yba.prog 16 #[.slice (some ⟨g, 0, none⟩) n n, .agg #[.int .i64 c, .int .u64 d, .iface t y]] w fun e w' => ∃ v' m, e = .returned v' ∧ m = (remembered l (c, d, .iface t y)).length ∧
      RowAt w' base 40 3 v' m (f3 (remembered l (c, d, .iface t y))) ∧ Chg w w' (fun k => k = g) := by
  have hl : l.length = n := by have := h.1; rw [f3_length] at this; omega
  obtain ⟨i0, hi0, hz0, hz1, hz2⟩ := info_parts info40
  by_cases h32 : n = 32
  · subst h32
    have H1 : Hid (One l) := h1
    have HR : Hid (RowAt w base 40 3 (.slice (some ⟨g, 0, none⟩) 32 32) 32 (f3 l)) := h
    have HL : Hid (l.length = 32) := hl
    clear h h1 hl
    go_enter Yba.func16, Yba.ntmps16
    go_wp2_with fail
    refine (delM0 (HR.out.alloc _) H1.out hn (by omega)).mono ?_
    rintro e w2 ⟨rfl, hrow, hc⟩
    have hx : w2.cell? ⟨w.heap.size, 0, none⟩ = some (.int .i64 c) ∧ w2.cell? ⟨w.heap.size, 1, none⟩ = some (.int .u64 d) ∧ w2.cell? ⟨w.heap.size, 2, none⟩ = some (.iface t y) := by
      have hgl := (HR.out.lt g rfl).2.1
      exact ⟨hc.cell (by simp) (by show ¬ w.heap.size = g; omega), hc.cell (by simp) (by show ¬ w.heap.size = g; omega), hc.cell (by simp) (by show ¬ w.heap.size = g; omega)⟩
    obtain ⟨x0, x1, x2⟩ := hx
    have hsz : w.heap.size ≤ w2.heap.size := by have := hc.size; simp at this; omega
    have Hc : Hid (Chg w w2 (fun k => k = g)) := ((Chg.refl w _).trans (Chg.alloc w _) (fun _ _ h => h.elim)).trans hc (fun _ _ h => h)
    clear hc HR
    go_wp2_with (at_builtin; refine wpList_append_row _ rfl _ _ 36 rfl base 40 i0 (.agg #[.int .i64 0, .int .u64 0, .nilIface]) 3 32 Yba.underlying36 hi0 hz0 hz1 hz2 rfl (by decide) _ _ _ rfl (hrow.alloc _) ⟨w2.heap.size, 0, none⟩ 1 1 [.int .i64 c, .int .u64 d, .iface t y] rfl rfl ?c1 ?c2 ?c3 ?c4 ?c5 ?c6 ?_)
    case c1 => exact three_new w2 _ _ _ 40
    case c2 => intro u hu; simp at hu; rcases hu with rfl | rfl | rfl <;> rfl
    case c3 => decide
    case c4 => unfold maxLen; omega
    case c5 => omega
    case c6 => simp; omega
    intro v' w3 hrow3 hg3 _
    have Hf : Hid (∃ v'' m, v' = v'' ∧ m = (remembered l (c, d, .iface t y)).length ∧ RowAt w3 base 40 3 v'' m (f3 (remembered l (c, d, .iface t y))) ∧ Chg w w3 (fun k => k = g)) := by
      refine ⟨v', 32, rfl, ?_, ?_, ?_⟩
      · simp [remembered, HL.out]
      · rw [remembered, if_pos HL.out, f3_append, List.drop_one]; exact hrow3
      · exact (Hc.out.trans (Chg.alloc w2 _) (fun _ _ h => h.elim)).trans (Chg.grown hg3) (fun i _ h => by simpa [liveB] using h.symm)
    clear hrow3 hg3 hrow
    go_wp2
    go_ret
    obtain ⟨v'', m, rfl, r⟩ := Hf.out
    exact ⟨_, m, rfl, r⟩
  · have hne : ((n : Int) == 32) = false := beq_eq_false_iff_ne.2 (by omega)
    have HR : Hid (RowAt w base 40 3 (.slice (some ⟨g, 0, none⟩) n n) n (f3 l)) := h
    have HL : Hid (l.length = n) := hl
    clear h h1 hl
    go_enter Yba.func16, Yba.ntmps16
    go_wp2_with (at_builtin; refine wpList_append_row _ rfl _ _ 36 rfl base 40 i0 (.agg #[.int .i64 0, .int .u64 0, .nilIface]) 3 32 Yba.underlying36 hi0 hz0 hz1 hz2 rfl (by decide) _ _ _ rfl ((HR.out.alloc _).alloc _) ⟨w.heap.size + 1, 0, none⟩ 1 1 [.int .i64 c, .int .u64 d, .iface t y] rfl rfl ?c1 ?c2 ?c3 ?c4 ?c5 ?c6 ?_)
    case c1 => simpa using three_new (w.alloc (.cells #[.int .i64 c, .int .u64 d, .iface t y] 40)) (.int .i64 c) (.int .u64 d) (.iface t y) 40
    case c2 => intro u hu; simp at hu; rcases hu with rfl | rfl | rfl <;> rfl
    case c3 => decide
    case c4 => unfold maxLen; omega
    case c5 => omega
    case c6 => simp; omega
    intro v' w3 hrow3 hg3 _
    have Hf : Hid (∃ v'' m, v' = v'' ∧ m = (remembered l (c, d, .iface t y)).length ∧ RowAt w3 base 40 3 v'' m (f3 (remembered l (c, d, .iface t y))) ∧ Chg w w3 (fun k => k = g)) := by
      have hl32 : ¬ l.length = 32 := by rw [HL.out]; exact h32
      refine ⟨v', n + 1, rfl, ?_, ?_, ?_⟩
      · rw [remembered, if_neg hl32]; simp [HL.out]
      · rw [remembered, if_neg hl32, f3_append]; exact hrow3
      · refine (((Chg.refl w _).trans (Chg.alloc w _) (fun _ _ h => h.elim)).trans (Chg.alloc _ _) (fun _ _ h => h.elim)).trans (Chg.grown hg3) (fun i _ h => ?_)
        cases n with
        | zero => simp [liveB] at h
        | succ n => simpa [liveB] using h.symm
    clear hrow3 hg3 HR
    go_wp2
    go_ret
    obtain ⟨v'', m, rfl, r⟩ := Hf.out
    exact ⟨_, m, rfl, r⟩
end Go.Proofs.Ybulkbiqo
