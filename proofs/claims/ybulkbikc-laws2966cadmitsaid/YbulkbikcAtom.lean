/-
  Contracts of the atomic wrappers, and of admitSearcher (one goroutine), over the seat's program.
-/
import Derived.Test.YbulkbikcRows
import Derived.WalkKit
namespace Go.Proofs.Ybulkbikc
open Go.RowKit

theorem load32 (b off : Nat) (x : Int) (w : World) (hc : w.cell? ⟨b, off, none⟩ = some (.int .i32 x)) :
    Calls Yba.prog 21 #[.pointer (some ⟨b, off, none⟩)] w fun e w' => e = .returned (.int .i32 x) ∧ w' = w := by
  have hl := run_call_load (P := Yba.prog) Yba.func33 (by kernel_rfl) (by kernel_rfl) (by kernel_rfl) .i32 (by kernel_rfl) hc
  go_enter Yba.func21, Yba.ntmps21
  go_wp2
  go_ret
  exact ⟨rfl, rfl⟩

theorem store32 (b off : Nat) (u : Value) (y : Int) (w : World) (hc : w.cell? ⟨b, off, none⟩ = some u) (hz : w.frozen? ⟨b, off, none⟩ = false) :
    Calls Yba.prog 19 #[.pointer (some ⟨b, off, none⟩), .int .i32 y] w fun e w' => e = .returned (.tuple #[]) ∧ w' = w.setCell ⟨b, off, none⟩ (.int .i32 y) := by
  have hl := run_call_store (P := Yba.prog) Yba.func30 (by kernel_rfl) (by kernel_rfl) (by kernel_rfl) (by kernel_rfl) (k := .i32) (y := y) hc hz
  go_enter Yba.func19, Yba.ntmps19
  go_wp2
  go_end0
  exact ⟨rfl, rfl⟩

theorem cas32 (b off : Nat) (x y : Int) (w : World) (hc : w.cell? ⟨b, off, none⟩ = some (.int .i32 x)) (hz : w.frozen? ⟨b, off, none⟩ = false) :
    Calls Yba.prog 32 #[.pointer (some ⟨b, off, none⟩), .int .i32 x, .int .i32 y] w fun e w' => e = .returned (.bool true) ∧ w' = w.setCell ⟨b, off, none⟩ (.int .i32 y) := by
  have hl := run_call_cas_hit (P := Yba.prog) Yba.func39 (by kernel_rfl) (by kernel_rfl) (by kernel_rfl) .i32 (by kernel_rfl) (y := y) hc hz
  go_enter Yba.func32, Yba.ntmps32
  go_wp2
  go_ret
  exact ⟨rfl, rfl⟩

/-- maxSearchers -/
theorem maxS (busy : Int) (h0 : 0 ≤ busy) (h1 : busy ≤ 4294967295) (w : World) :
    Calls Yba.prog 31 #[.int .i64 busy] w fun e w' => e = .returned (.int .i64 ((busy + 1) / 2)) ∧ w' = w := by
  go_enter Yba.func31, Yba.ntmps31
  go_wp2
  go_ret
  exact ⟨rfl, rfl⟩

/-- admitSearcher refuses -/
theorem admit_no (b : Nat) (n busy : Int) (w : World) (hc : w.cell? ⟨b, 35, none⟩ = some (.int .i32 n)) (hn0 : 0 ≤ n) (hn1 : n ≤ 70000) (h0 : 0 ≤ busy) (h1 : busy ≤ 4294967295) (hge : (busy + 1) / 2 ≤ n) :
    Calls Yba.prog 20 #[.pointer (some ⟨b, 0, none⟩), .int .i64 busy] w fun e w' => e = .returned (.bool false) ∧ w' = w := by
  go_enter Yba.func20, Yba.ntmps20
  go_wp2
  refine wp_loop_rounds 1 ?_
  rw [rounds_succ]
  go_wp2_with (first
    | (go_at_call 21; refine (load32 b 35 n _ hc).mono ?_; rintro e w' ⟨rfl, rfl⟩)
    | (go_at_call 31; refine (maxS _ h0 h1 _).mono ?_; rintro e w' ⟨rfl, rfl⟩))
  go_ret
  exact ⟨rfl, rfl⟩

/-- admitSearcher admits -/
theorem admit_yes (b : Nat) (n busy : Int) (w : World) (hc : w.cell? ⟨b, 35, none⟩ = some (.int .i32 n)) (hz : w.frozen? ⟨b, 35, none⟩ = false) (hn0 : 0 ≤ n) (hn1 : n ≤ 70000) (h0 : 0 ≤ busy) (h1 : busy ≤ 4294967295) (hlt : n < (busy + 1) / 2) :
    Calls Yba.prog 20 #[.pointer (some ⟨b, 0, none⟩), .int .i64 busy] w fun e w' => e = .returned (.bool true) ∧ w' = w.setCell ⟨b, 35, none⟩ (.int .i32 (n + 1)) := by
  go_enter Yba.func20, Yba.ntmps20
  go_wp2
  refine wp_loop_rounds 1 ?_
  rw [rounds_succ]
  go_wp2_with (first
    | (go_at_call 21; refine (load32 b 35 n _ hc).mono ?_; rintro e w' ⟨rfl, rfl⟩)
    | (go_at_call 31; refine (maxS _ h0 h1 _).mono ?_; rintro e w' ⟨rfl, rfl⟩)
    | (go_at_call 32; refine (cas32 b 35 n _ _ hc hz).mono ?_; rintro e w' ⟨rfl, rfl⟩))
  go_ret
  exact ⟨rfl, rfl⟩
end Go.Proofs.Ybulkbikc
