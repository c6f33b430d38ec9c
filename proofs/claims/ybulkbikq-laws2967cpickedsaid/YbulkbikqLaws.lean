/-
  LawS2967CIndices, LawS2967CPicked: the walks.
-/
import Derived.Test.YbulkbikqUpd
import Derived.Laws.CopyOwn
import Derived.Deep.QuietTactic
import Derived.BigQuiet
import Derived.Deep.LoopGhost
namespace Go.Proofs.Ybulkbikq
open Go Go.RowKit

theorem picked0 (ao : Option Addr) (cap : Nat) (a1 : Int) (w : World) :
    Calls Yba.prog 6 #[.slice ao 0 cap, .int .u64 a1] w fun e w' => e = .returned (.bool true) ∧ Below w.heap.size w w' := by
  go_enter Yba.func6, Yba.ntmps6
  go_wp2_with (first | (go_at_call 10; refine (upd0 _ _ _ _).mono ?_; rintro e w' ⟨rfl, rfl⟩) | (go_at_call 11; refine (chk0 _ _ _ _).mono ?_; rintro e w' ⟨rfl, rfl⟩))
  go_ret
  exact ⟨rfl, Below.refl _ _⟩

theorem picked_long (ao : Option Addr) (len cap : Nat) (a1 : Int) (w : World) (hlen : 4096 < len) :
    Calls Yba.prog 6 #[.slice ao len cap, .int .u64 a1] w fun e w' => e = .returned (.bool true) ∧ Below w.heap.size w w' := by
  have h : (4096 : Int) < (len : Int) := by omega
  go_enter Yba.func6, Yba.ntmps6
  go_wp2
  go_ret
  exact ⟨rfl, Below.refl _ _⟩

theorem picked (b off len cap : Nat) (ss : Nat → ByteArray) (a1 : Int) (h0 : 0 ≤ a1) (w : World) (hpos : 0 < len) (hlen : len ≤ 4096) (hc : ∀ i, i < len → w.cell? ⟨b, off + i, none⟩ = some (.string (ss i))) :
    Calls Yba.prog 6 #[.slice (some ⟨b, off, none⟩) len cap, .int .u64 a1] w fun e w' => e = .returned (.bool true) ∧ Below w.heap.size w w' := by
  have hbB : b < w.heap.size := World.block_lt_of_cell? _ _ (hc 0 hpos)
  obtain ⟨q, hq⟩ : ∃ q : Nat, (q : Int) = a1 % (len : Int) := ⟨(a1 % (len : Int)).toNat, by have := Int.emod_nonneg a1 (show (len : Int) ≠ 0 by omega); omega⟩
  have hql : (q : Int) < (len : Int) := by rw [hq]; exact Int.emod_lt_of_pos _ (by omega)
  have hrem : a1 % (len : Int) = (q : Int) := hq.symm
  have hcq := hc q (by omega)
  have hl0 : (0 : Int) < (len : Int) := by omega
  clear hq
  go_enter Yba.func6, Yba.ntmps6
  go_wp2_with fail
  refine (upd b off len cap ss (ss q) w hpos hlen hc).mono ?_
  rintro e w1 ⟨v, rfl, hown, hbe, hnil⟩
  have hc1 : ∀ i, i < len → w1.cell? ⟨b, off + i, none⟩ = some (.string (ss i)) := fun i hi => (hbe.cell (p := ⟨b, off + i, none⟩) hbB).trans (hc i hi)
  have HN : Hid (pend ss (ss q) len = [] → v = .slice none 0 0) := hnil
  clear hnil hc hcq
  go_wp2_with fail
  refine (chk b off len cap w.heap.size ss (ss q) v w1 hlen hc1 hown HN.out).mono ?_
  rintro e w' ⟨rfl, hw⟩
  have hw' := hw.symm; clear hw; subst hw'
  clear hown hc1
  go_wp2
  go_ret
  exact ⟨rfl, hbe⟩

theorem indices_long (ao : Option Addr) (len cap : Nat) (t : ByteArray) (w : World) (hlen : 4096 < len) :
    Calls Yba.prog 5 #[.slice ao len cap, .string t] w fun e w' => e = .returned (.bool true) ∧ Below w.heap.size w w' := by
  have h : (4096 : Int) < (len : Int) := by omega
  go_enter Yba.func5, Yba.ntmps5
  go_wp2
  go_ret
  exact ⟨rfl, Below.refl _ _⟩

theorem indices0 (ao : Option Addr) (cap : Nat) (t : ByteArray) (w : World) :
    Calls Yba.prog 5 #[.slice ao 0 cap, .string t] w fun e w' => e = .returned (.bool true) ∧ Below w.heap.size w w' := by
  obtain ⟨i0, hi, hz0, hz1, hz2⟩ := info_parts info9
  go_enter Yba.func5, Yba.ntmps5
  go_wp2_with (at_make; refine wpList_make_full _ rfl (.tmp 12) (.tmp 12) 34 rfl w.heap.size 9 i0 (.string ByteArray.empty) 1 Yba.underlying34 hi hz0 hz1 .i64 .i64 _ _ 0 rfl rfl rfl rfl (by simp) (by simp [maxLen]) (Nat.le_refl _) ?_; intro w1 hown1 hgrow1)
  rw [run_copy_none (P := Yba.prog) w1 34 34 3 9 _ _ 0 _ 0 _ Yba.underlying34 (by kernel_rfl) (by simp)]
  have hbe : Below w.heap.size w w1 := (Below.refl _ _).grown hgrow1 (Nat.le_refl _) (by simp)
  clear hown1 hgrow1 hi hz0 hz1 hz2
  go_wp2_with fail
  refine (upd0 _ _ _ _).mono ?_
  rintro e w' ⟨rfl, hw⟩
  have hw' := hw.symm; clear hw; subst hw'
  go_wp2_with fail
  refine (chk0 _ _ _ _).mono ?_
  rintro e w' ⟨rfl, hw⟩
  have hw' := hw.symm; clear hw; subst hw'
  go_wp2_with fail
  refine wp_loop_rounds 1 ?_
  rw [rounds_succ]
  go_wp2
  go_ret
  exact ⟨rfl, hbe⟩

theorem copied {L X : List Value} (h : L.length ≤ X.length) : L.take 0 ++ X ++ L.drop (0 + X.length) = X := by
  rw [List.drop_eq_nil_of_le (by omega)]; simp

set_option maxHeartbeats 400000 in
theorem indices (b off len cap : Nat) (ss : Nat → ByteArray) (t : ByteArray) (w : World) (hpos : 0 < len) (hlen : len ≤ 4096) (hc : ∀ i, i < len → w.cell? ⟨b, off + i, none⟩ = some (.string (ss i))) :
    Calls Yba.prog 5 #[.slice (some ⟨b, off, none⟩) len cap, .string t] w fun e w' => e = .returned (.bool true) ∧ Below w.heap.size w w' := by
  have hbB : b < w.heap.size := World.block_lt_of_cell? _ _ (hc 0 hpos)
  obtain ⟨i0, hi, hz0, hz1, hz2⟩ := info_parts info9
  have hd : decide ((4096 : Int) < (len : Int)) = false := decide_eq_false (by omega)
  obtain ⟨X, hX⟩ : ∃ X : List Value, X = (List.range len).map (fun i => .string (ss i)) := ⟨_, rfl⟩
  have hXl : X.length = len := by rw [hX]; simp
  have hX1 : ∀ v ∈ X, v.oneCell' = true := by rw [hX]; intro v hv; simp at hv; obtain ⟨_, _, rfl⟩ := hv; rfl
  have hXg : ∀ i, i < len → X[i]? = some (.string (ss i)) := by intro i hi; rw [hX]; simp [hi]
  have H1 : Hid (X.length = len ∧ (∀ v ∈ X, v.oneCell' = true) ∧ ∀ i, i < len → X[i]? = some (.string (ss i))) := ⟨hXl, hX1, hXg⟩
  clear hX hXl hX1 hXg
  go_enter Yba.func5, Yba.ntmps5
  go_wp2_with (at_make; refine wpList_make_full _ rfl (.tmp 12) (.tmp 12) 34 rfl w.heap.size 9 i0 (.string ByteArray.empty) 1 Yba.underlying34 hi hz0 hz1 .i64 .i64 _ _ len rfl rfl rfl rfl (by rw [hz2]; omega) (by unfold maxLen; omega) (Nat.le_refl _) ?_; intro w1 hown1 hgrow1)
  obtain ⟨cur, hcur, hcs⟩ : ∃ cur, w1.heap[w.heap.size]? = some (.cells cur 9 (0, 0)) ∧ cur.size = len := by
    rcases hown1.2 with ⟨h', _⟩ | ⟨g', cap', cur, h', _, hg, _, _, hs, _⟩
    · simp at h'
    · simp only [Value.slice.injEq, Option.some.injEq, Addr.mk.injEq, and_true, true_and] at h'
      obtain ⟨rfl, rfl⟩ := h'
      exact ⟨cur, hg, by simpa using hs⟩
  have hbe1 : Below w.heap.size w w1 := (Below.refl _ _).grown hgrow1 (Nat.le_refl _) (by simp)
  rw [run_copy_row (P := Yba.prog) w1 34 34 3 9 w.heap.size 0 len len ⟨b, off, none⟩ len cap cur 9 X Yba.underlying34 (by kernel_rfl) hcur (by rw [H1.out.1]; simp)
    (by
      intro j v hj
      have hjl : j < len := by rw [← H1.out.1]; exact (List.getElem?_eq_some_iff.1 hj).1
      rw [H1.out.2.2 j hjl] at hj
      rw [Addr.add_lit, hbe1.cell (p := ⟨b, off + j, none⟩) hbB, hc j hjl, ← hj])
    (by rw [H1.out.1, hcs]; simp) H1.out.2.1]
  obtain ⟨w2, hw2⟩ : ∃ w2, w2 = w1.setRow w.heap.size (cur.toList.take 0 ++ X ++ cur.toList.drop (0 + X.length)).toArray := ⟨_, rfl⟩
  have hsv : ∀ i, i < len → w2.cell? ⟨w.heap.size, 0 + i, none⟩ = some (.string (ss i)) := by
    intro i hi
    rw [hw2, cell_of_row _ _ _ _ _ _ (setRow_heap w1 w.heap.size cur _ 9 _ hcur), ← H1.out.2.2 i hi, copied (by rw [H1.out.1]; simp [hcs]), Nat.zero_add, List.getElem?_toArray]
  have hbe2 : Below w.heap.size w w2 := by rw [hw2]; exact below_setRow hbe1 (Nat.le_refl _) _
  have hvs : ∀ i, i < len → w2.cell? ⟨b, off + i, none⟩ = some (.string (ss i)) := fun i hi => (hbe2.cell (p := ⟨b, off + i, none⟩) hbB).trans (hc i hi)
  have hsz2 : w.heap.size < w2.heap.size := World.block_lt_of_cell? _ _ (hsv 0 hpos)
  rw [← hw2, H1.out.1]
  clear hw2 hbe1 hcur hcs hown1 hgrow1 hi hz0 hz1 hz2 hc H1
  go_wp2_with fail
  refine (upd b off len cap ss t w2 hpos hlen hvs).mono ?_
  rintro e w3 ⟨v, rfl, hown, hbe3, hnil⟩
  have hsv3 : ∀ i, i < len → w3.cell? ⟨w.heap.size, 0 + i, none⟩ = some (.string (ss i)) := fun i hi => (hbe3.cell (p := ⟨w.heap.size, 0 + i, none⟩) hsz2).trans (hsv i hi)
  have hvs3 : ∀ i, i < len → w3.cell? ⟨b, off + i, none⟩ = some (.string (ss i)) := fun i hi => (hbe3.cell (p := ⟨b, off + i, none⟩) (by show b < _; omega)).trans (hvs i hi)
  have hb3 : Below w.heap.size w w3 := hbe2.trans (hbe3.mono (by omega))
  have HN : Hid (pend ss t len = [] → v = .slice none 0 0) := hnil
  have HV : Hid (∀ i, i < len → w3.cell? ⟨w.heap.size, 0 + i, none⟩ = some (.string (ss i))) := hsv3
  have HV2 : Hid (∀ i, i < len → w3.cell? ⟨b, off + i, none⟩ = some (.string (ss i))) := hvs3
  clear hnil hsv hvs hbe2 hbe3 hsz2 hsv3 hvs3
  go_wp2_with fail
  refine (chk w.heap.size 0 len len w2.heap.size ss t v w3 hlen HV.out hown HN.out).mono ?_
  rintro e w' ⟨rfl, hw⟩
  have hw' := hw.symm; clear hw; subst hw'
  clear hown HN
  go_wp2_with fail
  go_loopg [7] len (fun g i wx => ∃ k : Nat, k ≤ len ∧ g = len - k ∧ i = .int .i64 k ∧ ∃ nq, wx = w3.drewN nq)
  case atStart => exact ⟨0, Nat.zero_le _, rfl, rfl, 0, rfl⟩
  case round =>
    obtain ⟨k, hk, rfl, rfl, nq, rfl⟩ := hrel
    by_cases hlt : k < len
    · have c1 := HV.out k hlt
      have c2 := HV2.out k hlt
      rw [Nat.zero_add] at c1
      have i1 : (k : Int) < (len : Int) := by omega
      obtain ⟨sk, hsk⟩ : ∃ sk, sk = ss k := ⟨_, rfl⟩
      rw [← hsk] at c1 c2
      clear hsk
      go_wp2_with fail
      go_quiet (fail)
      go_wp2
      go_roundg (len - (k + 1))
      case measure => omega
      case rel => exact ⟨k + 1, by omega, rfl, by go_num, _, rfl⟩
    · go_wp2
      go_ret
      exact ⟨rfl, ⟨hb3.os, hb3.tape, hb3.output, hb3.size, hb3.block⟩⟩
end Go.Proofs.Ybulkbikq
