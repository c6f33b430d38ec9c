/-
  zzs2978bident, errors.New; the search: the closures, slices.IndexFunc, dialOf, find.
-/
import Derived.Test.YbulkbiqoRows
import Derived.Test.YbulkbiqoRow
import Derived.WalkSpells
import Derived.Deep.LoopGhost
namespace Go.Proofs.Ybulkbiqo
open Go Go.RowKit

theorem ident4 (id inc : Int) (h0 : 0 ≤ id) (h1 : id ≤ 255) (h2 : 0 ≤ inc) (h3 : inc ≤ 255) (w : World) :
    Calls Yba.prog 4 #[.int .u8 id, .int .u8 inc] w fun e w' => e = .returned (.agg #[.int .i64 (id % 4), .int .u64 (inc % 2)]) ∧ w' = w.alloc (.cells #[.int .i64 (id % 4), .int .u64 (inc % 2)] 26) := by
  go_enter Yba.func4, Yba.ntmps4
  go_wp2
  exact bodyPost_ret (v := .agg #[.int .i64 (id % 4), .int .u64 (inc % 2)]) (by simp [results, Yba.results4, go_sem]) rfl ⟨rfl, rfl⟩

theorem new5 (s : ByteArray) (w : World) :
    Calls Yba.prog 5 #[.string s] w fun e w' => e = .returned (.iface 113 (.pointer (some ⟨w.heap.size, 0, none⟩))) ∧ w' = w.alloc (.cells #[.string s] 115) := by
  go_enter Yba.func5, Yba.ntmps5
  go_wp2
  go_ret
  exact ⟨rfl, rfl⟩

theorem ret_bool {a b : Bool} (h : a = b) : Ending.returned (.bool a) = .returned (.bool b) := by rw [h]
theorem ret_int {k : IntKind} {a b : Int} (h : a = b) : Ending.returned (.int k a) = .returned (.int k b) := by rw [h]

/-- dialOf's closure -/
theorem clos11 (a b c d : Int) (x : Bool) (wb : Nat) (w : World) (c0 : w.cell? ⟨wb, 0, none⟩ = some (.int .i64 c)) (c1 : w.cell? ⟨wb, 1, none⟩ = some (.int .u64 d)) :
    Calls Yba.prog 11 #[.agg #[.int .i64 a, .int .u64 b, .bool x], .pointer (some ⟨wb, 0, none⟩)] w fun e w' => e = .returned (.bool (a == c && b == d)) ∧ Ext w w' := by
  have hl : wb < w.heap.size := World.block_lt_of_cell? _ _ c0
  go_enter Yba.func11, Yba.ntmps11
  go_wp2
  · rename_i h1 h2
    go_ret
    exact ⟨ret_bool (by simp [h1, h2]), (Ext.refl w).alloc _⟩
  · rename_i h1 h2
    go_ret
    exact ⟨ret_bool (by simp [h1, h2]), (Ext.refl w).alloc _⟩
  · rename_i h1
    go_ret
    exact ⟨ret_bool (by simp [h1]), (Ext.refl w).alloc _⟩

/-- find's closure -/
theorem clos20 (a b c d : Int) (x : Value) (hy : x = .nilIface ∨ ∃ t y, x = .iface t y) (wb : Nat) (w : World) (c0 : w.cell? ⟨wb, 0, none⟩ = some (.int .i64 c)) (c1 : w.cell? ⟨wb, 1, none⟩ = some (.int .u64 d)) :
    Calls Yba.prog 20 #[.agg #[.int .i64 a, .int .u64 b, x], .pointer (some ⟨wb, 0, none⟩)] w fun e w' => e = .returned (.bool (a == c && b == d)) ∧ Ext w w' := by
  have hl : wb < w.heap.size := World.block_lt_of_cell? _ _ c0
  rcases hy with rfl | ⟨t, y, rfl⟩
  all_goals
    go_enter Yba.func20, Yba.ntmps20
    go_wp2
    · rename_i h1 h2
      go_ret
      exact ⟨ret_bool (by simp [h1, h2]), (Ext.refl w).alloc _⟩
    · rename_i h1 h2
      go_ret
      exact ⟨ret_bool (by simp [h1, h2]), (Ext.refl w).alloc _⟩
    · rename_i h1
      go_ret
      exact ⟨ret_bool (by simp [h1]), (Ext.refl w).alloc _⟩

/-- The first index whose ident is (c, d), from the front. -/
def firstAt (A B : Nat → Int) (c d : Int) : Nat → Nat → Int
  | _, 0 => -1
  | i, n + 1 => if (A i == c && B i == d) then i else firstAt A B c d (i + 1) n

theorem idx10 (g off len cap wb : Nat) (A B : Nat → Int) (H : Nat → Bool) (c d : Int) (w : World) (hlen : len ≤ 1024)
    (hc : ∀ i, i < len → w.cell? ⟨g, off + i * 3, none⟩ = some (.int .i64 (A i)) ∧ w.cell? ⟨g, off + i * 3 + 1, none⟩ = some (.int .u64 (B i)) ∧ w.cell? ⟨g, off + i * 3 + 2, none⟩ = some (.bool (H i)))
    (c0 : w.cell? ⟨wb, 0, none⟩ = some (.int .i64 c)) (c1 : w.cell? ⟨wb, 1, none⟩ = some (.int .u64 d)) :
    Calls Yba.prog 10 #[.slice (some ⟨g, off, none⟩) len cap, .func (Fn.func 11) #[] #[.pointer (some ⟨wb, 0, none⟩)]] w fun e w' => e = .returned (.int .i64 (firstAt A B c d 0 len)) ∧ Ext w w' := by
  go_enter Yba.func10, Yba.ntmps10
  go_wp2_with fail
  go_loopg [8] len (fun q s8 wx => ∃ k : Nat, k ≤ len ∧ q = len - k ∧ s8 = .int .i64 k ∧ Ext w wx ∧ Hid (firstAt A B c d 0 len = firstAt A B c d k (len - k)))
  case atStart => exact ⟨0, Nat.zero_le _, rfl, rfl, Ext.refl w, rfl⟩
  case round =>
    obtain ⟨k, hk, rfl, rfl, he, hf⟩ := hrel
    by_cases hlt : k < len
    · obtain ⟨a, ha⟩ : ∃ a, a = A k := ⟨_, rfl⟩
      obtain ⟨b, hb⟩ : ∃ b, b = B k := ⟨_, rfl⟩
      obtain ⟨h, hh⟩ : ∃ h, h = H k := ⟨_, rfl⟩
      obtain ⟨e0, e1, e2⟩ := hc k hlt
      rw [← ha] at e0
      rw [← hb] at e1
      rw [← hh] at e2
      have f0 := he.cell e0 id
      have f1 := he.cell e1 id
      have f2 := he.cell e2 id
      have g0 := he.cell c0 id
      have g1 := he.cell c1 id
      have i1 : (k : Int) < (len : Int) := by omega
      have hF : firstAt A B c d k (len - k) = if (a == c && b == d) then (k : Int) else firstAt A B c d (k + 1) (len - (k + 1)) := by
        rw [show len - k = (len - (k + 1)) + 1 from by omega, firstAt, ha, hb]
      have HF : Hid (firstAt A B c d 0 len = if (a == c && b == d) then (k : Int) else firstAt A B c d (k + 1) (len - (k + 1))) := hf.out.trans hF
      clear hF hf ha hb hh hc e0 e1 e2 c0 c1
      cases hm : (a == c && b == d) with
      | true =>
        rw [hm] at HF
        go_wp2_with (go_at_call 11; refine (clos11 a b c d h wb _ g0 g1).mono ?_; rintro e w2 ⟨rfl, hx⟩)
        clear g0 g1 f0 f1 f2
        go_ret
        exact ⟨ret_int HF.out.symm, he.trans hx⟩
      | false =>
        rw [hm] at HF
        go_wp2_with (go_at_call 11; refine (clos11 a b c d h wb _ g0 g1).mono ?_; rintro e w2 ⟨rfl, hx⟩)
        clear g0 g1 f0 f1 f2
        go_roundg (len - (k + 1))
        case measure => omega
        case rel => exact ⟨k + 1, by omega, rfl, by go_num, he.trans hx, HF.out⟩
    · obtain rfl : k = len := by omega
      have HF : Hid (firstAt A B c d 0 k = -1) := by show _ = _; rw [hf.out, Nat.sub_self]; rfl
      clear hc
      go_wp2
      go_ret
      exact ⟨ret_int HF.out.symm, he⟩

theorem idx19 (g off len cap wb : Nat) (A B : Nat → Int) (X : Nat → Value) (hX : ∀ i, X i = .nilIface ∨ ∃ t y, X i = .iface t y) (c d : Int) (w : World) (hlen : len ≤ 1024)
    (hc : ∀ i, i < len → w.cell? ⟨g, off + i * 3, none⟩ = some (.int .i64 (A i)) ∧ w.cell? ⟨g, off + i * 3 + 1, none⟩ = some (.int .u64 (B i)) ∧ w.cell? ⟨g, off + i * 3 + 2, none⟩ = some (X i))
    (c0 : w.cell? ⟨wb, 0, none⟩ = some (.int .i64 c)) (c1 : w.cell? ⟨wb, 1, none⟩ = some (.int .u64 d)) :
    Calls Yba.prog 19 #[.slice (some ⟨g, off, none⟩) len cap, .func (Fn.func 20) #[] #[.pointer (some ⟨wb, 0, none⟩)]] w fun e w' => e = .returned (.int .i64 (firstAt A B c d 0 len)) ∧ Ext w w' := by
  go_enter Yba.func19, Yba.ntmps19
  go_wp2_with fail
  go_loopg [8] len (fun q s8 wx => ∃ k : Nat, k ≤ len ∧ q = len - k ∧ s8 = .int .i64 k ∧ Ext w wx ∧ Hid (firstAt A B c d 0 len = firstAt A B c d k (len - k)))
  case atStart => exact ⟨0, Nat.zero_le _, rfl, rfl, Ext.refl w, rfl⟩
  case round =>
    obtain ⟨k, hk, rfl, rfl, he, hf⟩ := hrel
    by_cases hlt : k < len
    · obtain ⟨a, ha⟩ : ∃ a, a = A k := ⟨_, rfl⟩
      obtain ⟨b, hb⟩ : ∃ b, b = B k := ⟨_, rfl⟩
      obtain ⟨h, hh⟩ : ∃ h, h = X k := ⟨_, rfl⟩
      have hX' : h = .nilIface ∨ ∃ t y, h = .iface t y := by rw [hh]; exact hX k
      obtain ⟨e0, e1, e2⟩ := hc k hlt
      rw [← ha] at e0
      rw [← hb] at e1
      rw [← hh] at e2
      have f0 := he.cell e0 id
      have f1 := he.cell e1 id
      have f2 := he.cell e2 id
      have g0 := he.cell c0 id
      have g1 := he.cell c1 id
      have i1 : (k : Int) < (len : Int) := by omega
      have hF : firstAt A B c d k (len - k) = if (a == c && b == d) then (k : Int) else firstAt A B c d (k + 1) (len - (k + 1)) := by
        rw [show len - k = (len - (k + 1)) + 1 from by omega, firstAt, ha, hb]
      have HF : Hid (firstAt A B c d 0 len = if (a == c && b == d) then (k : Int) else firstAt A B c d (k + 1) (len - (k + 1))) := hf.out.trans hF
      clear hF hf ha hb hh hc e0 e1 e2 c0 c1
      rcases hX' with rfl | ⟨ht, hy, rfl⟩
      all_goals
       cases hm : (a == c && b == d) with
       | true =>
         rw [hm] at HF
         go_wp2_with (go_at_call 20; refine (clos20 a b c d _ (by simp) wb _ g0 g1).mono ?_; rintro e w2 ⟨rfl, hx⟩)
         clear g0 g1 f0 f1 f2
         go_ret
         exact ⟨ret_int HF.out.symm, he.trans hx⟩
       | false =>
         rw [hm] at HF
         go_wp2_with (go_at_call 20; refine (clos20 a b c d _ (by simp) wb _ g0 g1).mono ?_; rintro e w2 ⟨rfl, hx⟩)
         clear g0 g1 f0 f1 f2
         go_roundg (len - (k + 1))
         case measure => omega
         case rel => exact ⟨k + 1, by omega, rfl, by go_num, he.trans hx, HF.out⟩
    · obtain rfl : k = len := by omega
      have HF : Hid (firstAt A B c d 0 k = -1) := by show _ = _; rw [hf.out, Nat.sub_self]; rfl
      clear hc
      go_wp2
      go_ret
      exact ⟨ret_int HF.out.symm, he⟩

/-- dialOf -/
theorem dialOf7 (T g off len cap : Nat) (A B : Nat → Int) (H : Nat → Bool) (c d : Int) (w : World) (hlen : len ≤ 1024) (hT : w.cell? ⟨T, 33, none⟩ = some (.slice (some ⟨g, off, none⟩) len cap))
    (hc : ∀ i, i < len → w.cell? ⟨g, off + i * 3, none⟩ = some (.int .i64 (A i)) ∧ w.cell? ⟨g, off + i * 3 + 1, none⟩ = some (.int .u64 (B i)) ∧ w.cell? ⟨g, off + i * 3 + 2, none⟩ = some (.bool (H i))) :
    Calls Yba.prog 7 #[.pointer (some ⟨T, 0, none⟩), .agg #[.int .i64 c, .int .u64 d]] w fun e w' => e = .returned (.int .i64 (firstAt A B c d 0 len)) ∧ Ext w w' := by
  have hl : T < w.heap.size := World.block_lt_of_cell? _ _ hT
  have E : Ext w (w.alloc (.cells #[.int .i64 c, .int .u64 d] 26)) := (Ext.refl w).alloc _
  have HE : Hid (Ext w (w.alloc (.cells #[.int .i64 c, .int .u64 d] 26))) := E
  clear E
  go_enter Yba.func7, Yba.ntmps7
  go_wp2_with fail
  refine (idx10 g off len cap w.heap.size A B H c d _ hlen (fun i hi => ⟨HE.out.cell (hc i hi).1 id, HE.out.cell (hc i hi).2.1 id, HE.out.cell (hc i hi).2.2 id⟩) (by simp) (by simp)).mono ?_
  rintro e w2 ⟨rfl, hx⟩
  clear hc
  go_wp2
  go_ret
  exact ⟨rfl, HE.out.trans hx⟩

/-- find -/
theorem find15 (S so g off len cap : Nat) (A B : Nat → Int) (X : Nat → Value) (hX : ∀ i, X i = .nilIface ∨ ∃ t y, X i = .iface t y) (c d : Int) (w : World) (hlen : len ≤ 1024) (hT : w.cell? ⟨S, so + 2, none⟩ = some (.slice (some ⟨g, off, none⟩) len cap))
    (hc : ∀ i, i < len → w.cell? ⟨g, off + i * 3, none⟩ = some (.int .i64 (A i)) ∧ w.cell? ⟨g, off + i * 3 + 1, none⟩ = some (.int .u64 (B i)) ∧ w.cell? ⟨g, off + i * 3 + 2, none⟩ = some (X i)) :
    Calls Yba.prog 15 #[.pointer (some ⟨S, so, none⟩), .agg #[.int .i64 c, .int .u64 d]] w fun e w' => e = .returned (.int .i64 (firstAt A B c d 0 len)) ∧ Ext w w' := by
  have hl : S < w.heap.size := World.block_lt_of_cell? _ _ hT
  have E : Ext w (w.alloc (.cells #[.int .i64 c, .int .u64 d] 26)) := (Ext.refl w).alloc _
  have HE : Hid (Ext w (w.alloc (.cells #[.int .i64 c, .int .u64 d] 26))) := E
  clear E
  go_enter Yba.func15, Yba.ntmps15
  go_wp2_with fail
  refine (idx19 g off len cap w.heap.size A B X hX c d _ hlen (fun i hi => ⟨HE.out.cell (hc i hi).1 id, HE.out.cell (hc i hi).2.1 id, HE.out.cell (hc i hi).2.2 id⟩) (by simp) (by simp)).mono ?_
  rintro e w2 ⟨rfl, hx⟩
  clear hc
  go_wp2
  go_ret
  exact ⟨rfl, HE.out.trans hx⟩
end Go.Proofs.Ybulkbiqo
