/-
  A slice of the call's own, at whatever offset of its row (resliced from the front), appended to again and again. No program in sight.
-/
import Derived.WalkKit
import Derived.Deep.RegionLaw
import Derived.Deep.Draws
namespace Go.Proofs.Ybulkbiqo
open Go Go.RowKit

/-- The block in which a slice with capacity lies. -/
def liveB : Value → Option Nat
  | .slice (some a) _ (_ + 1) => some a.block
  | _ => none

/-- The slice value v, n elements of 'size' cells (of type e), holds the cells xs: it has no capacity and n is 0, or it lies in a row of the call's own. -/
def RowAt (w : World) (base : Nat) (e : TypeId) (size : Nat) (v : Value) (n : Nat) (xs : List Value) : Prop :=
  xs.length = n * size ∧
  ((∃ a, v = .slice a 0 0 ∧ n = 0) ∨
   ∃ g off cap cur, v = .slice (some ⟨g, off, none⟩) n (cap + 1) ∧ base ≤ g ∧ w.heap[g]? = some (.cells cur e (0, 0)) ∧ n ≤ cap + 1 ∧ cap + 1 ≤ maxLen ∧
     cur.size = off + (cap + 1) * size ∧ (cur.toList.drop off).take (n * size) = xs)

section
variable {w : World} {base : Nat} {e : TypeId} {size : Nat} {v : Value} {n : Nat} {xs : List Value}

theorem RowAt.nil (w : World) (base : Nat) (e : TypeId) (size : Nat) : RowAt w base e size (.slice none 0 0) 0 [] := ⟨by simp, .inl ⟨_, rfl, rfl⟩⟩

theorem RowAt.form (h : RowAt w base e size v n xs) : ∃ a c, v = .slice a n c ∧ n ≤ c ∧ c ≤ maxLen := by
  rcases h.2 with ⟨a, rfl, rfl⟩ | ⟨g, off, cap, cur, rfl, _, _, h1, h2, _, _⟩
  · exact ⟨_, _, rfl, Nat.le_refl _, Nat.zero_le _⟩
  · exact ⟨_, _, rfl, h1, h2⟩

theorem RowAt.lt (h : RowAt w base e size v n xs) : ∀ k, liveB v = some k → base ≤ k ∧ k < w.heap.size ∧ ∃ cur, w.heap[k]? = some (.cells cur e (0, 0)) := by
  intro k hk
  rcases h.2 with ⟨a, rfl, _⟩ | ⟨g, off, cap, cur, rfl, hb, hg, _⟩
  · cases a <;> simp [liveB] at hk
  · simp [liveB] at hk
    subst hk
    exact ⟨hb, (Array.getElem?_eq_some_iff.1 hg).1, cur, hg⟩

theorem RowAt.kept {w' : World} {row : Option Nat} (h : RowAt w base e size v n xs) (hg : w.grownBy w' row) (hne : liveB v = none ∨ liveB v ≠ row) : RowAt w' base e size v n xs := by
  refine ⟨h.1, ?_⟩
  rcases h.2 with hn | ⟨g, off, cap, cur, rfl, hb, hgg, rest⟩
  · exact .inl hn
  · refine .inr ⟨g, off, cap, cur, rfl, hb, ?_, rest⟩
    rw [hg.block g (Array.getElem?_eq_some_iff.1 hgg).1 (by simpa [liveB] using hne)]
    exact hgg

theorem RowAt.alloc (h : RowAt w base e size v n xs) (o : Obj) : RowAt (w.alloc o) base e size v n xs :=
  h.kept (World.grownBy_alloc w o none) (by cases hv : liveB v <;> simp)

theorem RowAt.drew (h : RowAt w base e size v n xs) : RowAt w.drew base e size v n xs := h

/-- A store into a block of another element type. -/
theorem RowAt.setCell_other (h : RowAt w base e size v n xs) {a : Addr} {u : Value} (hne : liveB v ≠ some a.block) : RowAt (w.setCell a u) base e size v n xs := by
  refine h.kept (row := some a.block) ⟨rfl, rfl, rfl, by simp [World.setCell], fun k _ hk => Below.heap_setCell _ _ _ _ (fun e => hk (by rw [e]))⟩ (.inr hne)

theorem RowAt.own (h : w.ownsRow base e size v n xs) : RowAt w base e size v n xs := by
  refine ⟨h.1, ?_⟩
  rcases h.2 with ⟨rfl, rfl⟩ | ⟨g, cap, cur, rfl, hb, hg, hn, hc, hs, ht⟩
  · exact .inl ⟨_, rfl, rfl⟩
  · cases cap with
    | zero => obtain rfl : n = 0 := by omega
              exact .inl ⟨_, rfl, rfl⟩
    | succ cap => exact .inr ⟨g, 0, cap, cur, rfl, hb, hg, hn, hc, by simpa using hs, by simpa using ht⟩

/-- Where the cells lie, of a slice that is not empty. -/
theorem RowAt.at (h : RowAt w base e size v n xs) (hn : 0 < n) : ∃ g off cap, v = .slice (some ⟨g, off, none⟩) n cap ∧ liveB v = some g ∧ n ≤ cap ∧ cap ≤ maxLen ∧
    (∀ j, j < n * size → w.cell? ⟨g, off + j, none⟩ = xs[j]?) ∧ (∀ j, w.frozen? ⟨g, j, none⟩ = false) := by
  rcases h.2 with ⟨a, _, h0⟩ | ⟨g, off, cap, cur, rfl, hb, hg, hnc, hcm, hcs, htake⟩
  · omega
  · refine ⟨g, off, cap + 1, rfl, rfl, hnc, hcm, fun j hj => ?_, fun j => ?_⟩
    · rw [cell_of_row w g (off + j) cur e (0, 0) hg, ← htake, List.getElem?_take, if_pos hj, List.getElem?_drop]
      simp
    · simp [World.frozen?, hg]

/-- A store at cell j. -/
theorem RowAt.stored {g off cap : Nat} (h : RowAt w base e size (.slice (some ⟨g, off, none⟩) n cap) n xs) (hn : 0 < n) (j : Nat) (u : Value) :
    RowAt (w.setCell ⟨g, off + j, none⟩ u) base e size (.slice (some ⟨g, off, none⟩) n cap) n (xs.set j u) ∧ w.grownBy (w.setCell ⟨g, off + j, none⟩ u) (some g) := by
  rcases h.2 with ⟨a, _, h0⟩ | ⟨g', off', cap', cur, h', hb, hg, hnc, hcm, hcs, htake⟩
  · omega
  · simp only [Value.slice.injEq, Option.some.injEq, Addr.mk.injEq, and_true, true_and] at h'
    obtain ⟨⟨rfl, rfl⟩, rfl⟩ := h'
    refine ⟨⟨by simpa using h.1, .inr ⟨g, off, cap', cur.setIfInBounds (off + j) u, rfl, hb, heap_setCell_same w g (off + j) cur e u hg, hnc, hcm, by simpa using hcs, ?_⟩⟩,
      ⟨rfl, rfl, rfl, by simp, fun k _ hk => heap_setCell_other w ⟨g, off + j, none⟩ k u (fun e => hk (by simp [e]))⟩⟩
    rw [Array.toList_setIfInBounds, ← htake, ← List.take_set]
    congr 1
    rw [List.drop_set, if_neg (by omega)]
    congr 1
    omega

/-- 'v[1:]', as the walk writes it, of a slice that is not empty. -/
theorem RowAt.tail {g off cap : Nat} (h : RowAt w base e size (.slice (some ⟨g, off, none⟩) (n + 1) cap) (n + 1) xs) (ao : Option Addr) (hao : ao = if cap = 1 then some ⟨g, off, none⟩ else some ⟨g, off + size, none⟩) :
    RowAt w base e size (.slice ao n (cap - 1)) n (xs.drop size) := by
  rcases h.2 with ⟨a, _, h0⟩ | ⟨g', off', cap', cur, h', hb, hg, hnc, hcm, hcs, htake⟩
  · omega
  · simp only [Value.slice.injEq, Option.some.injEq, Addr.mk.injEq, and_true, true_and] at h'
    obtain ⟨⟨rfl, rfl⟩, rfl⟩ := h'
    refine ⟨by rw [List.length_drop, h.1, Nat.add_mul]; omega, ?_⟩
    cases cap' with
    | zero => obtain rfl : n = 0 := by omega
              exact .inl ⟨_, rfl, rfl⟩
    | succ c =>
      rw [if_neg (by omega)] at hao
      subst hao
      refine .inr ⟨g, off + size, c, cur, rfl, hb, hg, by omega, by omega, by rw [hcs, Nat.add_mul (c + 1)]; omega, ?_⟩
      rw [← htake, List.drop_take, List.drop_drop]
      congr 1
      rw [Nat.add_mul]; omega

theorem RowAt.tail_live {g off cap : Nat} {ao : Option Addr} (hao : ao = if cap = 1 then some ⟨g, off, none⟩ else some ⟨g, off + size, none⟩) : ∀ k, liveB (.slice ao n (cap - 1)) = some k → k = g := by
  intro k hk
  subst hao
  split at hk
  · rename_i h1; subst h1; simp [liveB] at hk
  · cases hc : cap - 1 with
    | zero => rw [hc] at hk; simp [liveB] at hk
    | succ c => rw [hc] at hk; simp [liveB] at hk; exact hk.symm
end

section
variable {P : Program} (w : World)

/-- append, whatever the room. -/
theorem run_append_row (base : Nat) (t ty e : TypeId) (i : TypeInfo) (z : Value) (size bytes : Nat) (ht : P.underlying t = some (.slice e)) (hi : P.info? e = some i) (hz : i.zero = some z)
    (hsize : i.size = size) (hby : i.bytes = bytes) (hzs : z.cells.size = size) (hsz : 0 < size)
    (v : Value) (n : Nat) (xs : List Value) (hrow : RowAt w base e size v n xs)
    (a : Addr) (m c : Nat) (news : List Value) (hl : news.length = m * size) (hnews : ∀ j u, news[j]? = some u → w.cell? (a.add j) = some u) (h1 : ∀ u ∈ news, u.oneCell' = true)
    (hm : 0 < m) (h63 : n + m ≤ maxLen) (hbytes : (n + m) * bytes ≤ 140737488355328) (hbase : base ≤ w.heap.size) :
    ∃ v' w', (Builtin.append_ #[t, t] ty #[v, .slice (some a) m c]).run P w = .ok v' w' ∧ RowAt w' base e size v' (n + m) (xs ++ news) ∧ w.grownBy w' (liveB v) ∧
      (∀ k, liveB v' = some k → liveB v = some k ∨ w.heap.size ≤ k) := by
  have weak : ∀ {w' : World}, w.grownBy w' none → w.grownBy w' (liveB v) := fun g => ⟨g.os, g.tape, g.output, g.size, fun k hk _ => g.block k hk (by simp)⟩
  have fin : ∀ v' w', w'.ownsRow w.heap.size e size v' (n + m) (xs ++ news) → w.grownBy w' none →
      RowAt w' base e size v' (n + m) (xs ++ news) ∧ w.grownBy w' (liveB v) ∧ (∀ k, liveB v' = some k → liveB v = some k ∨ w.heap.size ≤ k) := by
    intro v' w' ho hg
    have r := RowAt.own ho
    refine ⟨⟨r.1, ?_⟩, weak hg, fun k hk => .inr (r.lt k hk).1⟩
    rcases r.2 with h | ⟨g, off, cap, cur, hv, hb, rest⟩
    · exact .inl h
    · exact .inr ⟨g, off, cap, cur, hv, by omega, rest⟩
  rcases hrow.2 with ⟨ao, rfl, rfl⟩ | ⟨g, off, cap, cur, rfl, hb, hg, hnc, hcm, hcs, htake⟩
  · obtain rfl : xs = [] := List.eq_nil_of_length_eq_zero (by simpa using hrow.1)
    cases ao with
    | none =>
      obtain ⟨v', w', hr, ho, hgr, _⟩ := run_append_own (P := P) w w.heap.size t ty e i z size bytes ht hi hz hsize hby hzs hsz (.slice none 0 0) 0 [] (World.ownsRow_nil w _ e size) a m c news hl hnews h1 h63 hbytes (Nat.le_refl _)
      exact ⟨v', w', hr, fin v' w' ho hgr⟩
    | some b =>
      obtain ⟨v', w', hr, ho, hgr⟩ := run_append_arg_grows (P := P) w t ty e i z size bytes ht hi hz hsize hby hzs hsz b 0 0 [] (by simp) (by simp) a m c news hl hnews (by omega) h63 hbytes
      exact ⟨v', w', hr, fin v' w' ho hgr⟩
  · by_cases hroom : n + m ≤ cap + 1
    · have hfit : off + n * i.size + news.length ≤ cur.size := by
        rw [hl, hcs, hsize]
        have := Nat.mul_le_mul_right size hroom
        rw [Nat.add_mul] at this
        omega
      have hf := run_firstCells_some (P := P) w i.size m a m c news (by rw [hl, hsize]) hnews
      have hst := run_storeCells_at P g (off + n * i.size) e news 0 cur w hg (by simpa using hfit) h1
      simp only [Nat.add_zero] at hst
      have hr : (Builtin.append_ #[t, t] ty #[.slice (some ⟨g, off, none⟩) n (cap + 1), .slice (some a) m c]).run P w =
          .ok (.slice (some ⟨g, off, none⟩) (n + m) (cap + 1)) (w.setRow g (cur.toList.take (off + n * i.size) ++ news ++ cur.toList.drop (off + n * i.size + news.length)).toArray) := by
        simp [Builtin.append_, run_underlying ht, sizeOf, typeInfo, hi, Builtin.lenOf, hroom, hf, Addr.add_lit, hst]
      refine ⟨_, _, hr, ⟨by rw [List.length_append, hrow.1, hl, Nat.add_mul], .inr ⟨g, off, cap, _, rfl, hb, setRow_heap w g cur _ e _ hg, hroom, hcm, ?_, ?_⟩⟩,
        ⟨rfl, rfl, rfl, by simp, fun k _ hk => setRow_other w g k _ (fun e => hk (by simp [liveB, e]))⟩, fun k hk => .inl (by simpa [liveB] using hk)⟩
      · simp only [List.size_toArray, List.length_append, List.length_take, List.length_drop, Array.length_toList]
        omega
      · subst hsize
        have e1 : (cur.toList.take (off + n * i.size)).drop off = xs := by rw [← htake, List.take_drop]
        have e2 : off ≤ (cur.toList.take (off + n * i.size)).length := by simp; omega
        rw [List.append_assoc, List.drop_append_of_le_length e2, e1, ← List.append_assoc]
        have e3 : (xs ++ news).length = (n + m) * i.size := by rw [List.length_append, hrow.1, hl, Nat.add_mul]
        rw [← e3]
        exact List.take_left
    · have holds : ∀ j u, xs[j]? = some u → w.cell? ((⟨g, off, none⟩ : Addr).add j) = some u := by
        intro j u hu
        have hj : j < n * size := by rw [← hrow.1]; exact (List.getElem?_eq_some_iff.1 hu).1
        rw [Addr.add_lit, cell_of_row w g (off + j) cur e (0, 0) hg, ← hu, ← htake, List.getElem?_take, if_pos hj, List.getElem?_drop]
        simp
      obtain ⟨v', w', hr, ho, hgr⟩ := run_append_arg_grows (P := P) w t ty e i z size bytes ht hi hz hsize hby hzs hsz ⟨g, off, none⟩ n (cap + 1) xs hrow.1 holds a m c news hl hnews (by omega) h63 hbytes
      exact ⟨v', w', hr, fin v' w' ho hgr⟩

theorem wp_append_row {o : Oper} {a : Act} {K : Act → World → Prop} {Q : Exit → Act → World → Prop} (s x : Operand) (t : TypeId)
    (ho : o.op = .call { callee := .builtin .append, args := #[s, x], argTypes := #[t, t] })
    (base : Nat) (e : TypeId) (i : TypeInfo) (z : Value) (size bytes : Nat) (ht : P.underlying t = some (.slice e)) (hi : P.info? e = some i) (hz : i.zero = some z)
    (hsize : i.size = size) (hby : i.bytes = bytes) (hzs : z.cells.size = size) (hsz : 0 < size)
    (v : Value) (n : Nat) (xs : List Value) (hs : a.eval s = v) (hown : RowAt w base e size v n xs)
    (ad : Addr) (m c : Nat) (news : List Value) (hx : a.eval x = .slice (some ad) m c) (hl : news.length = m * size) (hnews : ∀ j u, news[j]? = some u → w.cell? (ad.add j) = some u) (h1 : ∀ u ∈ news, u.oneCell' = true)
    (hm : 0 < m) (h63 : n + m ≤ maxLen) (hbytes : (n + m) * bytes ≤ 140737488355328) (hbase : base ≤ w.heap.size)
    (h : ∀ v' w', RowAt w' base e size v' (n + m) (xs ++ news) → w.grownBy w' (liveB v) → (∀ k, liveB v' = some k → liveB v = some k ∨ w.heap.size ≤ k) → K (a.put o.dst v') w') : o.wp P a w K Q := by
  obtain ⟨v', w', hr, h2, h3, h4⟩ := run_append_row (P := P) w base t o.type e i z size bytes ht hi hz hsize hby hzs hsz v n xs hown ad m c news hl hnews h1 hm h63 hbytes hbase
  unfold Oper.wp execOp
  simp only [ho, resolve, invoke, builtin, Sem.run_bind, Sem.run_pure, Result.andThen_ok, List.map_toArray, List.map_cons, List.map_nil, hs, hx, hr]
  exact h v' w' h2 h3 h4

theorem wpList_append_row {ops : Array Oper} {rest : List Oper} {o : Oper} {a : Act} {Q : Exit → Act → World → Prop} (hgd : o.guard = none) (s x : Operand) (t : TypeId)
    (ho : o.op = .call { callee := .builtin .append, args := #[s, x], argTypes := #[t, t] })
    (base : Nat) (e : TypeId) (i : TypeInfo) (z : Value) (size bytes : Nat) (ht : P.underlying t = some (.slice e)) (hi : P.info? e = some i) (hz : i.zero = some z)
    (hsize : i.size = size) (hby : i.bytes = bytes) (hzs : z.cells.size = size) (hsz : 0 < size)
    (v : Value) (n : Nat) (xs : List Value) (hs : a.eval s = v) (hown : RowAt w base e size v n xs)
    (ad : Addr) (m c : Nat) (news : List Value) (hx : a.eval x = .slice (some ad) m c) (hl : news.length = m * size) (hnews : ∀ j u, news[j]? = some u → w.cell? (ad.add j) = some u) (h1 : ∀ u ∈ news, u.oneCell' = true)
    (hm : 0 < m) (h63 : n + m ≤ maxLen) (hbytes : (n + m) * bytes ≤ 140737488355328) (hbase : base ≤ w.heap.size)
    (h : ∀ v' w', RowAt w' base e size v' (n + m) (xs ++ news) → w.grownBy w' (liveB v) → (∀ k, liveB v' = some k → liveB v = some k ∨ w.heap.size ≤ k) → wpList P ops Q rest (a.put o.dst v') w') : wpList P ops Q (o :: rest) a w :=
  wpList_plain hgd fun _ hK => wp_append_row w s x t ho base e i z size bytes ht hi hz hsize hby hzs hsz v n xs hs hown ad m c news hx hl hnews h1 hm h63 hbytes hbase fun v' w' h2 h3 h4 => hK _ _ (h v' w' h2 h3 h4)

theorem step_append_row {ops : Array Oper} {o : Oper} {a : Act} {K : Act → World → Prop} {Q : Exit → Act → World → Prop} {E : Prop} (hgd : o.guard = none) (s x : Operand) (t : TypeId)
    (ho : o.op = .call { callee := .builtin .append, args := #[s, x], argTypes := #[t, t] })
    (base : Nat) (e : TypeId) (i : TypeInfo) (z : Value) (size bytes : Nat) (ht : P.underlying t = some (.slice e)) (hi : P.info? e = some i) (hz : i.zero = some z)
    (hsize : i.size = size) (hby : i.bytes = bytes) (hzs : z.cells.size = size) (hsz : 0 < size)
    (v : Value) (n : Nat) (xs : List Value) (hs : a.eval s = v) (hown : RowAt w base e size v n xs)
    (ad : Addr) (m c : Nat) (news : List Value) (hx : a.eval x = .slice (some ad) m c) (hl : news.length = m * size) (hnews : ∀ j u, news[j]? = some u → w.cell? (ad.add j) = some u) (h1 : ∀ u ∈ news, u.oneCell' = true)
    (hm : 0 < m) (h63 : n + m ≤ maxLen) (hbytes : (n + m) * bytes ≤ 140737488355328) (hbase : base ≤ w.heap.size)
    (h : ∀ v' w', RowAt w' base e size v' (n + m) (xs ++ news) → w.grownBy w' (liveB v) → (∀ k, liveB v' = some k → liveB v = some k ∨ w.heap.size ≤ k) → K (a.put o.dst v') w') :
    if Region.wanted o (yielded ops a.tmps) = true then Oper.wp P o a w K Q else E := by
  have hw : Region.wanted o (yielded ops a.tmps) = true := by simp [Region.wanted, hgd]
  rw [if_pos hw]
  exact wp_append_row w s x t ho base e i z size bytes ht hi hz hsize hby hzs hsz v n xs hs hown ad m c news hx hl hnews h1 hm h63 hbytes hbase h
end

/-- w' is w with new blocks, and with writes to blocks of p alone. -/
structure Chg (w w' : World) (p : Nat → Prop) : Prop where
  os : w'.os = w.os
  tape : w'.tape = w.tape
  output : w'.output = w.output
  size : w.heap.size ≤ w'.heap.size
  block : ∀ k, k < w.heap.size → ¬ p k → w'.heap[k]? = w.heap[k]?

theorem Chg.refl (w : World) (p : Nat → Prop) : Chg w w p := ⟨rfl, rfl, rfl, Nat.le_refl _, fun _ _ _ => rfl⟩
theorem Chg.trans {a b c : World} {p q : Nat → Prop} (h : Chg a b p) (k : Chg b c q) (hq : ∀ i, i < a.heap.size → q i → p i) : Chg a c p :=
  ⟨k.os.trans h.os, k.tape.trans h.tape, k.output.trans h.output, Nat.le_trans h.size k.size,
    fun i hi hp => (k.block i (Nat.lt_of_lt_of_le hi h.size) (fun hqi => hp (hq i hi hqi))).trans (h.block i hi hp)⟩
theorem Chg.grown {w w' : World} {row : Option Nat} (h : w.grownBy w' row) : Chg w w' (fun k => row = some k) :=
  ⟨h.os, h.tape, h.output, h.size, fun k hk hp => h.block k hk (fun e => hp e.symm)⟩
theorem Chg.setCell (w : World) (a : Addr) (u : Value) : Chg w (w.setCell a u) (fun k => k = a.block) :=
  ⟨rfl, rfl, rfl, by simp [World.setCell], fun _ _ hp => Below.heap_setCell _ _ _ _ hp⟩
theorem Chg.alloc (w : World) (o : Obj) : Chg w (w.alloc o) (fun _ => False) := ⟨rfl, rfl, rfl, by simp, fun k hk _ => Below.heap_alloc w o k hk⟩
theorem Chg.drew {w w' : World} {p : Nat → Prop} (h : Chg w w' p) : Chg w w'.drew p := ⟨h.os, h.tape, h.output, h.size, h.block⟩
theorem Chg.row {w w' : World} {p : Nat → Prop} {base : Nat} {e : TypeId} {size : Nat} {v : Value} {n : Nat} {xs : List Value} (hc : Chg w w' p) (h : RowAt w base e size v n xs) (hne : ∀ k, liveB v = some k → ¬ p k) : RowAt w' base e size v n xs := by
  refine ⟨h.1, ?_⟩
  rcases h.2 with hn | ⟨g, off, cap, cur, rfl, hb, hgg, rest⟩
  · exact .inl hn
  · refine .inr ⟨g, off, cap, cur, rfl, hb, ?_, rest⟩
    rw [hc.block g (Array.getElem?_eq_some_iff.1 hgg).1 (hne g (by simp [liveB]))]
    exact hgg
theorem Chg.below {w w' : World} {p : Nat → Prop} {B : Nat} (hc : Chg w w' p) (hB : B ≤ w.heap.size) (hp : ∀ k, k < B → ¬ p k) : Below B w w' :=
  ⟨hc.os, hc.tape, hc.output, hc.size, fun k hk => hc.block k (by omega) (hp k hk)⟩

theorem Chg.widen {w w' : World} {p q : Nat → Prop} (h : Chg w w' p) (hpq : ∀ k, p k → q k) : Chg w w' q := ⟨h.os, h.tape, h.output, h.size, fun k hk hn => h.block k hk (fun hp => hn (hpq k hp))⟩
theorem Chg.cell {w w' : World} {p : Nat → Prop} (hc : Chg w w' p) {a : Addr} {v : Value} (h : w.cell? a = some v) (hp : ¬ p a.block) : w'.cell? a = some v :=
  (World.cell?_of_block (hc.block a.block (World.block_lt_of_cell? _ _ h) hp)).trans h
theorem Chg.frozen {w w' : World} {p : Nat → Prop} (hc : Chg w w' p) {a : Addr} (hl : a.block < w.heap.size) (hp : ¬ p a.block) : w'.frozen? a = w.frozen? a :=
  World.frozen?_of_block (hc.block a.block hl hp)
/-- Only new blocks. -/
abbrev Ext (w w' : World) : Prop := Chg w w' (fun _ => False)
theorem Ext.refl (w : World) : Ext w w := Chg.refl _ _
theorem Ext.trans {a b c : World} (h : Ext a b) (k : Ext b c) : Ext a c := Chg.trans h k (fun _ _ h => h)
theorem Ext.alloc {a w : World} (h : Ext a w) (o : Obj) : Ext a (w.alloc o) := h.trans (Chg.alloc w o)
theorem Ext.drewN {a w : World} (h : Ext a w) (k : Nat) : Ext a (w.drewN k) := ⟨h.os, h.tape, h.output, h.size, h.block⟩
theorem Ext.drew {a w : World} (h : Ext a w) : Ext a w.drew := ⟨h.os, h.tape, h.output, h.size, h.block⟩
end Go.Proofs.Ybulkbiqo
