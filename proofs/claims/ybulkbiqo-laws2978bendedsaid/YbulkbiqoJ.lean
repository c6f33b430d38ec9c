/-
  LawS2978BEnded: long inputs.
-/
import Derived.Test.YbulkbiqoI
namespace Go.Proofs.Ybulkbiqo
open Go Go.RowKit Go.MuLone

set_option maxRecDepth 100000 in
theorem main3_long1 (dao : Option Addr) (n dcap : Nat) (pao : Option Addr) (p pcap : Nat) (q0 q1 : Int) (f : Bool) (w : World) (hn : 1024 < n) :
    Calls Yba.prog 3 #[.slice dao n dcap, .slice pao p pcap, .int .u8 q0, .int .u8 q1, .bool f] w fun e w' => e = .returned (.bool true) ∧ Below w.heap.size w w' := by
  have hd1 : decide ((1024 : Int) < (n : Int)) = true := decide_eq_true (by omega)
  go_enter Yba.func3, Yba.ntmps3
  go_wp2_with fail
  go_ret
  exact ⟨rfl, Below.refl _ _⟩

set_option maxRecDepth 100000 in
theorem main3_long2 (dao : Option Addr) (n dcap : Nat) (pao : Option Addr) (p pcap : Nat) (q0 q1 : Int) (f : Bool) (w : World) (hn : n ≤ 1024) (hp : 1024 < p) :
    Calls Yba.prog 3 #[.slice dao n dcap, .slice pao p pcap, .int .u8 q0, .int .u8 q1, .bool f] w fun e w' => e = .returned (.bool true) ∧ Below w.heap.size w w' := by
  have hd1 : decide ((1024 : Int) < (n : Int)) = false := decide_eq_false (by omega)
  have hd2 : decide ((1024 : Int) < (p : Int)) = true := decide_eq_true (by omega)
  go_enter Yba.func3, Yba.ntmps3
  go_wp2_with fail
  go_ret
  exact ⟨rfl, Below.refl _ _⟩
end Go.Proofs.Ybulkbiqo
