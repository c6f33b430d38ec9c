/-
  LawS2966BFill: the walk.
-/
import Derived.Test.YbulkbikcLq2
import Derived.OpenShut
namespace Go.Proofs.Ybulkbikc
open Go Go.RowKit Go.MuLone

theorem stHead {w : World} {b : Nat} {l : Int} {nx : Value} {rg : Nat → Value} {hd tl : Int} {dr : Bool} (h : LQ w b l nx rg hd tl dr) (y : Int) :
    Calls Yba.prog 12 #[.pointer (some ⟨b, 259, none⟩), .int .u32 y] w fun e w' => e = .returned (.tuple #[]) ∧ LQ w' b l nx rg y tl dr ∧ Chg w w' (fun k => k = b) := by
  refine (storeU32 b 259 _ y w h.head (h.fz _)).mono ?_
  rintro e w' ⟨rfl, rfl⟩
  exact ⟨rfl, h.setHead y, Chg.setCell _ _ _⟩
theorem stTail {w : World} {b : Nat} {l : Int} {nx : Value} {rg : Nat → Value} {hd tl : Int} {dr : Bool} (h : LQ w b l nx rg hd tl dr) (y : Int) :
    Calls Yba.prog 12 #[.pointer (some ⟨b, 260, none⟩), .int .u32 y] w fun e w' => e = .returned (.tuple #[]) ∧ LQ w' b l nx rg hd y dr ∧ Chg w w' (fun k => k = b) := by
  refine (storeU32 b 260 _ y w h.tail (h.fz _)).mono ?_
  rintro e w' ⟨rfl, rfl⟩
  exact ⟨rfl, h.setTail y, Chg.setCell _ _ _⟩

def zeroQn (N : Nat) : List Value := [Value.int .i32 0, Value.int .u32 0, Value.nilIface] ++ (List.replicate N Value.nilIface ++ [Value.int .u32 0, Value.int .u32 0, Value.bool false])
theorem zeroQn_ring (N i : Nat) (hi : i < N) : (zeroQn N).toArray[3 + i]? = some Value.nilIface := by
  unfold zeroQn
  rw [List.getElem?_toArray, List.getElem?_append_right (by simp), List.getElem?_append_left (by simp; omega), List.getElem?_replicate]
  simp; omega

/-- A new queue. -/
theorem lq0 (w : World) (c : Array Value) (hc : c = (zeroQn 256).toArray) : LQ (w.alloc (.cells c 66)) w.heap.size 0 .nilIface (fun _ => .nilIface) 0 0 false := by
  have hg : (w.alloc (.cells c 66)).heap[w.heap.size]? = some (.cells c 66 (0, 0)) := heap_alloc_new w _
  have cell : ∀ j, (w.alloc (.cells c 66)).cell? ⟨w.heap.size, j, none⟩ = c[j]? := fun j => cell_of_row _ _ j c 66 (0, 0) hg
  refine ⟨by rw [cell, hc]; kernel_rfl, by rw [cell, hc]; kernel_rfl, fun i hi => by rw [cell, hc]; exact zeroQn_ring 256 i hi, by rw [cell, hc]; kernel_rfl, by rw [cell, hc]; kernel_rfl, by rw [cell, hc]; kernel_rfl, fun j => World.frozen?_alloc_at (w := w) c 66 w.heap.size j rfl⟩

theorem qOf {w : World} {b : Nat} {s0 : Int} (h : LQ w b 0 .nilIface (fun _ => .nilIface) s0 s0 false) (h0 : 0 ≤ s0) (h1 : s0 ≤ 4294967295) : Q w b 0 false 0 false := by
  obtain ⟨m, rfl⟩ := Int.eq_ofNat_of_zero_le h0
  refine ⟨.nilIface, fun _ => .nilIface, m, ?_, by omega, by omega, by simp, fun _ => rfl, fun i hi => absurd hi (by omega)⟩
  rw [show (m + 0) % 4294967296 = m from by omega]
  exact h

theorem qlenT {w : World} {b n : Nat} {dr : Bool} (h : Q w b 0 true n dr) :
    Calls Yba.prog 13 #[.pointer (some ⟨b, 0, none⟩)] w fun e w' => e = .returned (.int .i64 ((n : Int) + 1)) ∧ Q w' b 0 true n dr ∧ Chg w w' (fun k => k = b) := qlen13 h
theorem qlenF {w : World} {b n : Nat} {dr : Bool} (h : Q w b 0 false n dr) :
    Calls Yba.prog 13 #[.pointer (some ⟨b, 0, none⟩)] w fun e w' => e = .returned (.int .i64 (n : Int)) ∧ Q w' b 0 false n dr ∧ Chg w w' (fun k => k = b) := by
  refine (qlen13 h).mono ?_
  rintro e w' ⟨rfl, r⟩
  exact ⟨ret_int (by simp [b2i]), r⟩

set_option maxHeartbeats 1000000 in
set_option maxRecDepth 100000 in
theorem walk5 (a0 a1 : Int) (h00 : 0 ≤ a0) (h01 : a0 ≤ 4294967295) (h10 : 0 ≤ a1) (h11 : a1 ≤ 65535) (w : World) :
    Calls Yba.prog 5 #[.int .u32 a0, .int .u16 a1] w fun e w' => e = .returned (.bool true) ∧ Below w.heap.size w w' := by
  obtain ⟨n, hn⟩ : ∃ n : Nat, (n : Int) = a1 % 600 := ⟨(a1 % 600).toNat, by omega⟩
  have hn6 : n < 600 := by omega
  have hrem : a1 % 600 = (n : Int) := hn.symm
  clear hn
  go_enter Yba.func5, Yba.ntmps5
  go_wp2_with fail
  refine (stHead (b := w.heap.size) (lq0 w _ (by kernel_rfl)) a0).mono ?_
  rintro e w1 ⟨rfl, q1, c1⟩
  go_wp2_with fail
  refine (stTail (b := w.heap.size) q1 a0).mono ?_
  rintro e w2 ⟨rfl, q2, c2⟩
  have Q2 := qOf q2 h00 h01
  go_wp2_with fail
  have B2 : Below w.heap.size w w2 := (((Below.refl _ _).alloc (Nat.le_refl _) _).trans (c1.below (by simp) (fun k hk e => by omega))).trans (c2.below (by have := c1.size; simp at this; omega) (fun k hk e => by omega))
  clear q1 q2 c1 c2
  go_loopw [7] (fun i wr => ∃ k : Nat, k ≤ n ∧ i = .int .i64 k ∧ Q wr w.heap.size 0 (decide (0 < k)) (min (k - 1) 256) false ∧ Below w.heap.size w wr) (fun i _ => n - (intOf i).toNat)
  case atStart => exact ⟨0, Nat.zero_le _, rfl, Q2, B2⟩
  case round =>
    clear Q2 B2
    obtain ⟨k, hk, rfl, hq, hb⟩ := hrel
    by_cases hlt : k < n
    · go_wp2_with (go_at_call 14; refine (putNext_yes (hq.kept (Chg.alloc wr _) id) _).mono ?_; rintro e w' ⟨v, rfl, hq', hc'⟩)
      have R : Q w' w.heap.size 0 (decide (0 < k + 1)) (min (k + 1 - 1) 256) false := by
        have e1 : ringAfter (decide (0 < k)) (min (k - 1) 256) = min (k + 1 - 1) 256 := by
          unfold ringAfter; simp only [decide_eq_true_eq]; split <;> omega
        rw [← e1]; simpa using hq'
      have BR : Below w.heap.size w w' := (hb.alloc (Nat.le_of_lt hq.lt) _).trans (hc'.below (by have := hq.lt; simp; omega) (fun k hk e => by omega))
      clear hq hq' hc' hb
      go_roundw
      case rel => exact ⟨k + 1, by omega, by go_num, R, BR⟩
      case measure => simp [intOf]; omega
    · obtain rfl : k = n := by omega
      have bel : ∀ {w1 w2 : World}, Below w.heap.size w w1 → Chg w1 w2 (fun k => k = w.heap.size) → Below w.heap.size w w2 := fun h1 h2 => h1.trans (h2.below h1.size (fun k hk e => by omega))
      have HB : Hid (∀ {w1 w2 : World}, Below w.heap.size w w1 → Chg w1 w2 (fun k => k = w.heap.size) → Below w.heap.size w w2) := bel
      clear bel
      rcases (show k = 0 ∨ (0 < k ∧ k ≤ 257) ∨ 257 < k from by omega) with h | h | h
      · subst h
        go_wp2_with fail
        refine (qlenF hq).mono ?_
        rintro e w3 ⟨rfl, q3, c3⟩
        have b3 := HB.out hb c3
        clear hq hb c3
        go_wp2_with fail
        refine (qlenF q3).mono ?_
        rintro e w4 ⟨rfl, q4, c4⟩
        have b4 := HB.out b3 c4
        clear q3 c4 b3 q4
        go_wp2
        go_ret
        exact ⟨rfl, b4⟩
      · obtain ⟨m, rfl⟩ : ∃ m, k = m + 1 := ⟨k - 1, by omega⟩
        have hq' : Q wr w.heap.size 0 true m false := by
          have e1 : min (m + 1 - 1) 256 = m := by omega
          rw [e1] at hq; simpa using hq
        clear hq
        go_wp2_with fail
        refine (qlenT hq').mono ?_
        rintro e w3 ⟨rfl, q3, c3⟩
        have b3 := HB.out hb c3
        clear hq' hb c3
        go_wp2_with fail
        refine (qlenT q3).mono ?_
        rintro e w4 ⟨rfl, q4, c4⟩
        have b4 := HB.out b3 c4
        clear q3 c4 b3
        go_wp2_with fail
        refine (pop_next q4).mono ?_
        rintro e w5 ⟨j, rfl, q5, c5⟩
        have b5 := HB.out b4 c5
        clear q4 c5 b4
        go_wp2_with fail
        refine (qlenF q5).mono ?_
        rintro e w6 ⟨rfl, q6, c6⟩
        have b6 := HB.out b5 c6
        clear q5 c6 b5 q6
        go_wp2
        go_ret
        exact ⟨rfl, b6⟩
      · have hq' : Q wr w.heap.size 0 true 256 false := by
          have e1 : min (k - 1) 256 = 256 := by omega
          rw [e1] at hq
          have e2 : decide (0 < k) = true := by simp; omega
          rw [e2] at hq; exact hq
        clear hq
        go_wp2_with fail
        refine (qlenT hq').mono ?_
        rintro e w3 ⟨rfl, q3, c3⟩
        have b3 := HB.out hb c3
        clear hq' hb c3
        go_wp2_with fail
        refine (qlenT q3).mono ?_
        rintro e w4 ⟨rfl, q4, c4⟩
        have b4 := HB.out b3 c4
        clear q3 c4 b3
        go_wp2_with fail
        refine (pop_next q4).mono ?_
        rintro e w5 ⟨j, rfl, q5, c5⟩
        have b5 := HB.out b4 c5
        clear q4 c5 b4
        go_wp2_with fail
        refine (qlenF q5).mono ?_
        rintro e w6 ⟨rfl, q6, c6⟩
        have b6 := HB.out b5 c6
        clear q5 c6 b5 q6
        go_wp2
        go_ret
        exact ⟨rfl, b6⟩
end Go.Proofs.Ybulkbikc
