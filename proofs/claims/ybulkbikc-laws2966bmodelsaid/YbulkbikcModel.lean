/-
  LawS2966BModel: the walk.
-/
import Derived.Test.YbulkbikcDrain
import Derived.Deep.DeepCutAuto
import Derived.Deep.CutBlock
namespace Go.Proofs.Ybulkbikc
open Go Go.RowKit Go.MuLone

def nils : Array Value := Array.replicate 256 .nilIface
theorem mk256 (w : World) : (Instr.makeSlice 68 (.int .i64 256) (.int .i64 256)).run Yba.prog w = .ok (.slice (some ⟨w.heap.size, 0, none⟩) 256 256) (w.alloc (.cells nils 61)) := by kernel_rfl
theorem ds0 (w : World) : DS (w.alloc (.cells nils 61)) w.heap.size := ⟨nils, heap_alloc_new w _, by simp [nils]⟩

/-- Between two ops. -/
def MRel (w0 : World) (b d : Nat) (s6 s7 s8 : Value) (wx : World) : Prop :=
  ∃ (s dr : Bool) (n : Nat), s6 = .bool s ∧ s7 = .int .i64 n ∧ s8 = .bool dr ∧ Q wx b 0 s n dr ∧ DS wx d ∧ Below w0.heap.size w0 wx

theorem b2iT (w : World) : Calls Yba.prog 18 #[.bool true] w fun e w' => e = .returned (.int .i64 1) ∧ w' = w := b2i18 true w
theorem b2iF (w : World) : Calls Yba.prog 18 #[.bool false] w fun e w' => e = .returned (.int .i64 0) ∧ w' = w := b2i18 false w
theorem drainT {w : World} {b n : Nat} {dr : Bool} (h : Q w b 0 true n dr) :
    Calls Yba.prog 17 #[.pointer (some ⟨b, 0, none⟩), .slice none 0 0] w fun e w' => ∃ (a : Option Addr) (c : Nat), e = .returned (.slice a (n + 1) c) ∧ Q w' b 0 false 0 true ∧ Chg w w' (fun k => k = b) := drain17 h
theorem drainF {w : World} {b n : Nat} {dr : Bool} (h : Q w b 0 false n dr) :
    Calls Yba.prog 17 #[.pointer (some ⟨b, 0, none⟩), .slice none 0 0] w fun e w' => ∃ (a : Option Addr) (c : Nat), e = .returned (.slice a n c) ∧ Q w' b 0 false 0 true ∧ Chg w w' (fun k => k = b) := drain17 h
theorem stealR {w : World} {b d n : Nat} {s f dr : Bool} (hbd : b ≠ d) (h : Q w b 0 s n dr) (hd : DS w d) (hn : 0 < n) :
    Calls Yba.prog 16 #[.pointer (some ⟨b, 0, none⟩), .slice (some ⟨d, 0, none⟩) 256 256, .bool f] w fun e w' => e = .returned (.int .i64 (((n : Int) + 1) / 2)) ∧ Q w' b 0 s (n - (n + 1) / 2) dr ∧ DS w' d ∧ Chg w w' (fun k => k = b ∨ k = d) := by
  refine (steal_ring (m := (n + 1) / 2) hbd h hd hn rfl).mono ?_
  rintro e w' ⟨rfl, r⟩
  exact ⟨ret_int (by omega), r⟩
theorem Chg.widen {w w' : World} {p q : Nat → Prop} (h : Chg w w' p) (hpq : ∀ k, p k → q k) : Chg w w' q := ⟨h.os, h.tape, h.output, h.size, fun k hk hn => h.block k hk (fun hp => hn (hpq k hp))⟩
theorem Q.le {w : World} {b : Nat} {l : Int} {s : Bool} {n : Nat} {dr : Bool} (h : Q w b l s n dr) : n ≤ 256 := by obtain ⟨_, _, _, _, _, h, _⟩ := h; exact h

set_option maxRecDepth 100000 in
set_option maxHeartbeats 2000000 in
theorem walk4 (a0 : Int) (h00 : 0 ≤ a0) (h01 : a0 ≤ 4294967295) (ob ooff len cap : Nat) (op : Nat → Int) (fl : Nat → Bool) (w : World) (hpos : 0 < len) (hlen : len ≤ 2048)
    (hc0 : ∀ i, i < len → w.cell? ⟨ob, ooff + i * 2, none⟩ = some (.int .u8 (op i))) (hc1 : ∀ i, i < len → w.cell? ⟨ob, ooff + i * 2 + 1, none⟩ = some (.bool (fl i))) (hop : ∀ i, i < len → 0 ≤ op i ∧ op i ≤ 255) :
    Calls Yba.prog 4 #[.int .u32 a0, .slice (some ⟨ob, ooff, none⟩) len cap] w fun e w' => e = .returned (.bool true) ∧ Below w.heap.size w w' := by
  have hd : decide ((2048 : Int) < (len : Int)) = false := decide_eq_false (by omega)
  have hbB : ob < w.heap.size := World.block_lt_of_cell? _ _ (hc0 0 (by omega))
  have hmk := mk256
  go_enter Yba.func4, Yba.ntmps4
  go_wp2_with fail
  refine (stHead (b := w.heap.size) (lq0 w _ (by kernel_rfl)) a0).mono ?_
  rintro e w1 ⟨rfl, q1, c1⟩
  go_wp2_with fail
  refine (stTail (b := w.heap.size) q1 a0).mono ?_
  rintro e w2 ⟨rfl, q2, c2⟩
  have Q2 := qOf q2 h00 h01
  have B2 : Below w.heap.size w w2 := (((Below.refl _ _).alloc (Nat.le_refl _) _).trans (c1.below (by simp) (fun k hk e => by omega))).trans (c2.below (by have := c1.size; simp at this; omega) (fun k hk e => by omega))
  have hs2 : w.heap.size < w2.heap.size := Q2.lt
  clear q1 q2 c1 c2
  go_wp2_with fail
  refine (qlenF (Q2.kept (Chg.alloc w2 _) id)).mono ?_
  rintro e w3 ⟨rfl, q3, c3⟩
  have D3 := (ds0 w2).kept c3 (by omega)
  have B3 : Below w.heap.size w w3 := (B2.alloc (by omega) _).trans (c3.below (by simp; omega) (fun k hk e => by omega))
  obtain ⟨d, hdd⟩ : ∃ d, d = w2.heap.size := ⟨_, rfl⟩
  rw [← hdd] at D3
  have hbd : w.heap.size ≠ d := by omega
  have hwd : w.heap.size ≤ d := by omega
  have R3 : MRel w w.heap.size d (.bool false) (.int .i64 0) (.bool false) w3 := ⟨false, false, 0, rfl, rfl, rfl, q3, D3, B3⟩
  clear Q2 B2 q3 c3 D3 B3 hmk
  rw [← hdd]
  clear hdd hs2
  go_wp2_with fail
  go_loopg [6, 7, 8, 10] len (fun g s6 s7 s8 s10 wr => ∃ k : Nat, k ≤ len ∧ g = len - k ∧ s10 = .int .i64 k ∧ MRel w w.heap.size d s6 s7 s8 wr)
  case atStart => exact ⟨0, Nat.zero_le _, rfl, rfl, R3⟩
  case round =>
    clear R3
    obtain ⟨k, hk, rfl, rfl, R⟩ := hrel
    obtain ⟨s, dr, n, rfl, rfl, rfl, hq, hds, hbe⟩ := R
    have hn256 := hq.le
    have hbsz := hq.lt
    have bel : ∀ {u v : World}, w.heap.size ≤ u.heap.size → Below w.heap.size w u → Chg u v (fun i => i = w.heap.size ∨ i = d) → Below w.heap.size w v := by
      intro u v hu h1 h2
      have hdd : w.heap.size ≤ d := by omega
      exact h1.trans (h2.below hu (by rintro k hk (h | h) <;> omega))
    by_cases hlt : k < len
    · obtain ⟨z, hz⟩ : ∃ z, z = op k := ⟨_, rfl⟩
      obtain ⟨f, hf⟩ : ∃ f, f = fl k := ⟨_, rfl⟩
      have hcz : wr.cell? ⟨ob, ooff + k * 2, none⟩ = some (.int .u8 z) := by rw [hz]; exact (hbe.cell (p := ⟨ob, ooff + k * 2, none⟩) hbB).trans (hc0 k hlt)
      have hcf : wr.cell? ⟨ob, ooff + k * 2 + 1, none⟩ = some (.bool f) := by rw [hf]; exact (hbe.cell (p := ⟨ob, ooff + k * 2 + 1, none⟩) hbB).trans (hc1 k hlt)
      have hz0 : 0 ≤ z := by rw [hz]; exact (hop k hlt).1
      have hz1 : z ≤ 255 := by rw [hz]; exact (hop k hlt).2
      clear hz hf hc0 hc1 hop
      go_upto_block 2 with fail
      go_cut [6, 7, 8] (fun s6 s7 s8 wx => MRel w w.heap.size d s6 s7 s8 wx)
      case first =>
        rcases (show z % 8 = 0 ∨ z % 8 = 1 ∨ z % 8 = 2 ∨ z % 8 = 3 ∨ z % 8 = 4 ∨ z % 8 = 5 ∨ z % 8 = 6 ∨ z % 8 = 7 from by omega) with h8 | h8 | h8 | h8 | h8 | h8 | h8 | h8
        · have hb0 : (z % 8 == 0) = true := by simp [h8]
          clear h8
          cases dr with
          | true =>
            go_wp2_with fail
            refine (putNext_no ((hq.kept (Chg.alloc _ _) id).kept (Chg.alloc _ _) id) _).mono ?_
            rintro e w4 ⟨rfl, q4, c4⟩
            have R : MRel w w.heap.size d (.bool s) (.int .i64 n) (.bool true) w4 := ⟨s, true, n, rfl, rfl, rfl, q4, ((hds.kept (Chg.alloc _ _) id).kept (Chg.alloc _ _) id).kept c4 (fun e => hbd e.symm), bel (by simp; omega) ((hbe.alloc (by omega) _).alloc (by simp; omega) _) (c4.widen (fun _ h => .inl h))⟩
            have HR := R
            clear q4 c4 hq hds bel R
            go_wp2
            go_meet
            case rel => exact HR
          | false =>
            go_wp2_with fail
            refine (putNext_yes ((hq.kept (Chg.alloc _ _) id).kept (Chg.alloc _ _) id) _).mono ?_
            rintro e w4 ⟨v, rfl, q4, c4⟩
            have R : MRel w w.heap.size d (.bool true) (.int .i64 ((ringAfter s n : Nat) : Int)) (.bool false) w4 := ⟨true, false, _, rfl, rfl, rfl, q4, ((hds.kept (Chg.alloc _ _) id).kept (Chg.alloc _ _) id).kept c4 (fun e => hbd e.symm), bel (by simp; omega) ((hbe.alloc (by omega) _).alloc (by simp; omega) _) (c4.widen (fun _ h => .inl h))⟩
            clear q4 c4 hq hds bel
            cases s with
            | false =>
              have HR : MRel w w.heap.size d (.bool true) (.int .i64 n) (.bool false) w4 := R
              clear R
              go_wp2
              go_meet
              case rel => exact HR
            | true =>
              by_cases hn : n < 256
              · have HR : MRel w w.heap.size d (.bool true) (.int .i64 (n + 1)) (.bool false) w4 := by
                  rw [ringAfter, if_pos ⟨rfl, hn⟩] at R; exact R
                have hi : (n : Int) < 256 := by omega
                clear R
                go_wp2
                go_meet
                case rel => exact HR
              · have HR : MRel w w.heap.size d (.bool true) (.int .i64 n) (.bool false) w4 := by
                  rw [ringAfter, if_neg (fun h => hn h.2)] at R; exact R
                have hi : ¬ (n : Int) < 256 := by omega
                clear R
                go_wp2
                go_meet
                case rel => exact HR
        · have hb0 : (z % 8 == 0) = false := by simp [h8]
          have hb1 : (z % 8 == 1) = true := by simp [h8]
          clear h8
          cases dr with
          | true =>
            go_wp2_with fail
            refine (putNext_no ((hq.kept (Chg.alloc _ _) id).kept (Chg.alloc _ _) id) _).mono ?_
            rintro e w4 ⟨rfl, q4, c4⟩
            have R : MRel w w.heap.size d (.bool s) (.int .i64 n) (.bool true) w4 := ⟨s, true, n, rfl, rfl, rfl, q4, ((hds.kept (Chg.alloc _ _) id).kept (Chg.alloc _ _) id).kept c4 (fun e => hbd e.symm), bel (by simp; omega) ((hbe.alloc (by omega) _).alloc (by simp; omega) _) (c4.widen (fun _ h => .inl h))⟩
            have HR := R
            clear q4 c4 hq hds bel R
            go_wp2
            go_meet
            case rel => exact HR
          | false =>
            go_wp2_with fail
            refine (putNext_yes ((hq.kept (Chg.alloc _ _) id).kept (Chg.alloc _ _) id) _).mono ?_
            rintro e w4 ⟨v, rfl, q4, c4⟩
            have R : MRel w w.heap.size d (.bool true) (.int .i64 ((ringAfter s n : Nat) : Int)) (.bool false) w4 := ⟨true, false, _, rfl, rfl, rfl, q4, ((hds.kept (Chg.alloc _ _) id).kept (Chg.alloc _ _) id).kept c4 (fun e => hbd e.symm), bel (by simp; omega) ((hbe.alloc (by omega) _).alloc (by simp; omega) _) (c4.widen (fun _ h => .inl h))⟩
            clear q4 c4 hq hds bel
            cases s with
            | false =>
              have HR : MRel w w.heap.size d (.bool true) (.int .i64 n) (.bool false) w4 := R
              clear R
              go_wp2
              go_meet
              case rel => exact HR
            | true =>
              by_cases hn : n < 256
              · have HR : MRel w w.heap.size d (.bool true) (.int .i64 (n + 1)) (.bool false) w4 := by
                  rw [ringAfter, if_pos ⟨rfl, hn⟩] at R; exact R
                have hi : (n : Int) < 256 := by omega
                clear R
                go_wp2
                go_meet
                case rel => exact HR
              · have HR : MRel w w.heap.size d (.bool true) (.int .i64 n) (.bool false) w4 := by
                  rw [ringAfter, if_neg (fun h => hn h.2)] at R; exact R
                have hi : ¬ (n : Int) < 256 := by omega
                clear R
                go_wp2
                go_meet
                case rel => exact HR
        · have hb0 : (z % 8 == 0) = false := by simp [h8]
          have hb1 : (z % 8 == 1) = false := by simp [h8]
          have hb2 : (z % 8 == 2) = true := by simp [h8]
          clear h8
          cases dr with
          | true =>
            go_wp2_with fail
            refine (putNext_no ((hq.kept (Chg.alloc _ _) id).kept (Chg.alloc _ _) id) _).mono ?_
            rintro e w4 ⟨rfl, q4, c4⟩
            have R : MRel w w.heap.size d (.bool s) (.int .i64 n) (.bool true) w4 := ⟨s, true, n, rfl, rfl, rfl, q4, ((hds.kept (Chg.alloc _ _) id).kept (Chg.alloc _ _) id).kept c4 (fun e => hbd e.symm), bel (by simp; omega) ((hbe.alloc (by omega) _).alloc (by simp; omega) _) (c4.widen (fun _ h => .inl h))⟩
            have HR := R
            clear q4 c4 hq hds bel R
            go_wp2
            go_meet
            case rel => exact HR
          | false =>
            go_wp2_with fail
            refine (putNext_yes ((hq.kept (Chg.alloc _ _) id).kept (Chg.alloc _ _) id) _).mono ?_
            rintro e w4 ⟨v, rfl, q4, c4⟩
            have R : MRel w w.heap.size d (.bool true) (.int .i64 ((ringAfter s n : Nat) : Int)) (.bool false) w4 := ⟨true, false, _, rfl, rfl, rfl, q4, ((hds.kept (Chg.alloc _ _) id).kept (Chg.alloc _ _) id).kept c4 (fun e => hbd e.symm), bel (by simp; omega) ((hbe.alloc (by omega) _).alloc (by simp; omega) _) (c4.widen (fun _ h => .inl h))⟩
            clear q4 c4 hq hds bel
            cases s with
            | false =>
              have HR : MRel w w.heap.size d (.bool true) (.int .i64 n) (.bool false) w4 := R
              clear R
              go_wp2
              go_meet
              case rel => exact HR
            | true =>
              by_cases hn : n < 256
              · have HR : MRel w w.heap.size d (.bool true) (.int .i64 (n + 1)) (.bool false) w4 := by
                  rw [ringAfter, if_pos ⟨rfl, hn⟩] at R; exact R
                have hi : (n : Int) < 256 := by omega
                clear R
                go_wp2
                go_meet
                case rel => exact HR
              · have HR : MRel w w.heap.size d (.bool true) (.int .i64 n) (.bool false) w4 := by
                  rw [ringAfter, if_neg (fun h => hn h.2)] at R; exact R
                have hi : ¬ (n : Int) < 256 := by omega
                clear R
                go_wp2
                go_meet
                case rel => exact HR
        · have hb0 : (z % 8 == 0) = false := by simp [h8]
          have hb1 : (z % 8 == 1) = false := by simp [h8]
          have hb2 : (z % 8 == 2) = false := by simp [h8]
          have hb3 : (z % 8 == 3) = true := by simp [h8]
          clear h8
          cases dr with
          | true =>
            go_wp2_with fail
            refine (putNext_no ((hq.kept (Chg.alloc _ _) id).kept (Chg.alloc _ _) id) _).mono ?_
            rintro e w4 ⟨rfl, q4, c4⟩
            have R : MRel w w.heap.size d (.bool s) (.int .i64 n) (.bool true) w4 := ⟨s, true, n, rfl, rfl, rfl, q4, ((hds.kept (Chg.alloc _ _) id).kept (Chg.alloc _ _) id).kept c4 (fun e => hbd e.symm), bel (by simp; omega) ((hbe.alloc (by omega) _).alloc (by simp; omega) _) (c4.widen (fun _ h => .inl h))⟩
            have HR := R
            clear q4 c4 hq hds bel R
            go_wp2
            go_meet
            case rel => exact HR
          | false =>
            go_wp2_with fail
            refine (putNext_yes ((hq.kept (Chg.alloc _ _) id).kept (Chg.alloc _ _) id) _).mono ?_
            rintro e w4 ⟨v, rfl, q4, c4⟩
            have R : MRel w w.heap.size d (.bool true) (.int .i64 ((ringAfter s n : Nat) : Int)) (.bool false) w4 := ⟨true, false, _, rfl, rfl, rfl, q4, ((hds.kept (Chg.alloc _ _) id).kept (Chg.alloc _ _) id).kept c4 (fun e => hbd e.symm), bel (by simp; omega) ((hbe.alloc (by omega) _).alloc (by simp; omega) _) (c4.widen (fun _ h => .inl h))⟩
            clear q4 c4 hq hds bel
            cases s with
            | false =>
              have HR : MRel w w.heap.size d (.bool true) (.int .i64 n) (.bool false) w4 := R
              clear R
              go_wp2
              go_meet
              case rel => exact HR
            | true =>
              by_cases hn : n < 256
              · have HR : MRel w w.heap.size d (.bool true) (.int .i64 (n + 1)) (.bool false) w4 := by
                  rw [ringAfter, if_pos ⟨rfl, hn⟩] at R; exact R
                have hi : (n : Int) < 256 := by omega
                clear R
                go_wp2
                go_meet
                case rel => exact HR
              · have HR : MRel w w.heap.size d (.bool true) (.int .i64 n) (.bool false) w4 := by
                  rw [ringAfter, if_neg (fun h => hn h.2)] at R; exact R
                have hi : ¬ (n : Int) < 256 := by omega
                clear R
                go_wp2
                go_meet
                case rel => exact HR
        · have hb0 : (z % 8 == 0) = false := by simp [h8]
          have hb1 : (z % 8 == 1) = false := by simp [h8]
          have hb2 : (z % 8 == 2) = false := by simp [h8]
          have hb3 : (z % 8 == 3) = false := by simp [h8]
          have hb4 : (z % 8 == 4) = true := by simp [h8]
          clear h8
          cases dr with
          | true =>
            go_wp2_with fail
            refine (putNext_no ((hq.kept (Chg.alloc _ _) id).kept (Chg.alloc _ _) id) _).mono ?_
            rintro e w4 ⟨rfl, q4, c4⟩
            have R : MRel w w.heap.size d (.bool s) (.int .i64 n) (.bool true) w4 := ⟨s, true, n, rfl, rfl, rfl, q4, ((hds.kept (Chg.alloc _ _) id).kept (Chg.alloc _ _) id).kept c4 (fun e => hbd e.symm), bel (by simp; omega) ((hbe.alloc (by omega) _).alloc (by simp; omega) _) (c4.widen (fun _ h => .inl h))⟩
            have HR := R
            clear q4 c4 hq hds bel R
            go_wp2
            go_meet
            case rel => exact HR
          | false =>
            go_wp2_with fail
            refine (putNext_yes ((hq.kept (Chg.alloc _ _) id).kept (Chg.alloc _ _) id) _).mono ?_
            rintro e w4 ⟨v, rfl, q4, c4⟩
            have R : MRel w w.heap.size d (.bool true) (.int .i64 ((ringAfter s n : Nat) : Int)) (.bool false) w4 := ⟨true, false, _, rfl, rfl, rfl, q4, ((hds.kept (Chg.alloc _ _) id).kept (Chg.alloc _ _) id).kept c4 (fun e => hbd e.symm), bel (by simp; omega) ((hbe.alloc (by omega) _).alloc (by simp; omega) _) (c4.widen (fun _ h => .inl h))⟩
            clear q4 c4 hq hds bel
            cases s with
            | false =>
              have HR : MRel w w.heap.size d (.bool true) (.int .i64 n) (.bool false) w4 := R
              clear R
              go_wp2
              go_meet
              case rel => exact HR
            | true =>
              by_cases hn : n < 256
              · have HR : MRel w w.heap.size d (.bool true) (.int .i64 (n + 1)) (.bool false) w4 := by
                  rw [ringAfter, if_pos ⟨rfl, hn⟩] at R; exact R
                have hi : (n : Int) < 256 := by omega
                clear R
                go_wp2
                go_meet
                case rel => exact HR
              · have HR : MRel w w.heap.size d (.bool true) (.int .i64 n) (.bool false) w4 := by
                  rw [ringAfter, if_neg (fun h => hn h.2)] at R; exact R
                have hi : ¬ (n : Int) < 256 := by omega
                clear R
                go_wp2
                go_meet
                case rel => exact HR
        · have hb0 : (z % 8 == 0) = false := by simp [h8]
          have hb1 : (z % 8 == 1) = false := by simp [h8]
          have hb2 : (z % 8 == 2) = false := by simp [h8]
          have hb3 : (z % 8 == 3) = false := by simp [h8]
          have hb4 : (z % 8 == 4) = false := by simp [h8]
          have hb5 : (z % 8 == 5) = true := by simp [h8]
          clear h8
          cases s with
          | true =>
            go_wp2_with fail
            refine (pop_next (hq.kept (Chg.alloc _ _) id)).mono ?_
            rintro e w4 ⟨j, rfl, q4, c4⟩
            have R : MRel w w.heap.size d (.bool false) (.int .i64 n) (.bool dr) w4 := ⟨false, dr, n, rfl, rfl, rfl, q4, (hds.kept (Chg.alloc _ _) id).kept c4 (fun e => hbd e.symm), bel (by simp; omega) (hbe.alloc (by omega) _) (c4.widen (fun _ h => .inl h))⟩
            clear q4 c4 hq hds bel
            go_wp2
            go_meet
            case rel => exact R
          | false =>
            cases n with
            | zero =>
              go_wp2_with fail
              refine (pop_none (hq.kept (Chg.alloc _ _) id)).mono ?_
              rintro e w4 ⟨rfl, q4, c4⟩
              have R : MRel w w.heap.size d (.bool false) (.int .i64 0) (.bool dr) w4 := ⟨false, dr, 0, rfl, rfl, rfl, q4, (hds.kept (Chg.alloc _ _) id).kept c4 (fun e => hbd e.symm), bel (by simp; omega) (hbe.alloc (by omega) _) (c4.widen (fun _ h => .inl h))⟩
              clear q4 c4 hq hds bel
              go_wp2
              go_meet
              case rel => exact R
            | succ n =>
              go_wp2_with fail
              refine (pop_ring (hq.kept (Chg.alloc _ _) id)).mono ?_
              rintro e w4 ⟨j, rfl, q4, c4⟩
              have R : MRel w w.heap.size d (.bool false) (.int .i64 n) (.bool dr) w4 := ⟨false, dr, n, rfl, rfl, rfl, q4, (hds.kept (Chg.alloc _ _) id).kept c4 (fun e => hbd e.symm), bel (by simp; omega) (hbe.alloc (by omega) _) (c4.widen (fun _ h => .inl h))⟩
              clear q4 c4 hq hds bel
              go_wp2
              go_meet
              case rel => exact R
        · have hb0 : (z % 8 == 0) = false := by simp [h8]
          have hb1 : (z % 8 == 1) = false := by simp [h8]
          have hb2 : (z % 8 == 2) = false := by simp [h8]
          have hb3 : (z % 8 == 3) = false := by simp [h8]
          have hb4 : (z % 8 == 4) = false := by simp [h8]
          have hb5 : (z % 8 == 5) = false := by simp [h8]
          have hb6 : (z % 8 == 6) = true := by simp [h8]
          clear h8
          have keepO : ∀ {w4 : World}, Chg (wr.alloc (.cells #[.int .u8 z, .bool f] 70)) w4 (fun i => i = w.heap.size ∨ i = d) → w4.cell? ⟨wr.heap.size, 1, none⟩ = some (.bool f) := by
            intro w4 c
            have hdl := hds.lt
            rw [World.cell?_of_block (w := wr.alloc (.cells #[.int .u8 z, .bool f] 70)) (a := ⟨wr.heap.size, 1, none⟩) (c.block wr.heap.size (by simp) (by rintro (h | h) <;> omega))]
            simp
          cases n with
          | zero =>
            cases f with
            | false =>
              go_wp2_with fail
              refine (steal_none (hq.kept (Chg.alloc _ _) id)).mono ?_
              rintro e w4 ⟨rfl, hw⟩
              have hw' := hw.symm; clear hw; subst hw'
              have R : MRel w w.heap.size d (.bool s) (.int .i64 0) (.bool dr) (wr.alloc (.cells #[.int .u8 z, .bool false] 70)) := ⟨s, dr, 0, rfl, rfl, rfl, hq.kept (Chg.alloc _ _) id, hds.kept (Chg.alloc _ _) id, hbe.alloc (by omega) _⟩
              clear hq hds bel keepO
              go_wp2
              go_meet
              case rel => exact R
            | true =>
              cases s with
              | true =>
                go_wp2_with fail
                refine (steal_next hbd (hq.kept (Chg.alloc _ _) id) (hds.kept (Chg.alloc _ _) id)).mono ?_
                rintro e w4 ⟨rfl, q4, d4, c4⟩
                have R : MRel w w.heap.size d (.bool false) (.int .i64 0) (.bool dr) w4 := ⟨false, dr, 0, rfl, rfl, rfl, q4, d4, bel (by simp; omega) (hbe.alloc (by omega) _) c4⟩
                have hO := keepO c4
                clear q4 d4 c4 hq hds bel keepO
                go_wp2
                go_meet
                case rel => exact R
              | false =>
                go_wp2_with fail
                refine (steal_empty hbd (hq.kept (Chg.alloc _ _) id) (hds.kept (Chg.alloc _ _) id)).mono ?_
                rintro e w4 ⟨rfl, q4, d4, c4⟩
                have R : MRel w w.heap.size d (.bool false) (.int .i64 0) (.bool dr) w4 := ⟨false, dr, 0, rfl, rfl, rfl, q4, d4, bel (by simp; omega) (hbe.alloc (by omega) _) c4⟩
                have hO := keepO c4
                clear q4 d4 c4 hq hds bel keepO
                go_wp2
                go_meet
                case rel => exact R
          | succ n =>
            obtain ⟨nn, hnn⟩ : ∃ nn, nn = n + 1 := ⟨_, rfl⟩
            rw [← hnn] at hq hn256 ⊢
            have hnpos : 0 < nn := by omega
            have hmz : (((nn : Int) + 1) / 2 == 0) = false := beq_eq_false_iff_ne.2 (by omega)
            clear hnn
            go_wp2_with fail
            refine (stealR hbd (hq.kept (Chg.alloc _ _) id) (hds.kept (Chg.alloc _ _) id) hnpos).mono ?_
            rintro e w4 ⟨rfl, q4, d4, c4⟩
            have R : MRel w w.heap.size d (.bool s) (.int .i64 ((nn : Int) - ((nn : Int) + 1) / 2)) (.bool dr) w4 := ⟨s, dr, _, rfl, by congr 1; omega, rfl, q4, d4, bel (by simp; omega) (hbe.alloc (by omega) _) c4⟩
            have hO := keepO c4
            clear q4 d4 c4 hq hds bel keepO
            go_wp2
            go_meet
            case rel => exact R
        · have hb0 : (z % 8 == 0) = false := by simp [h8]
          have hb1 : (z % 8 == 1) = false := by simp [h8]
          have hb2 : (z % 8 == 2) = false := by simp [h8]
          have hb3 : (z % 8 == 3) = false := by simp [h8]
          have hb4 : (z % 8 == 4) = false := by simp [h8]
          have hb5 : (z % 8 == 5) = false := by simp [h8]
          have hb6 : (z % 8 == 6) = false := by simp [h8]
          clear h8
          cases f with
          | false =>
            have R : MRel w w.heap.size d (.bool s) (.int .i64 n) (.bool dr) (wr.alloc (.cells #[.int .u8 z, .bool false] 70)) := ⟨s, dr, n, rfl, rfl, rfl, hq.kept (Chg.alloc _ _) id, hds.kept (Chg.alloc _ _) id, hbe.alloc (by omega) _⟩
            clear hq hds bel
            go_wp2
            go_meet
            case rel => exact R
          | true =>
            cases s with
            | true =>
              go_wp2_with fail
              refine (drainT (hq.kept (Chg.alloc _ _) id)).mono ?_
              rintro e w4 ⟨va, vc, rfl, q4, c4⟩
              have R : MRel w w.heap.size d (.bool false) (.int .i64 0) (.bool true) w4 := ⟨false, true, 0, rfl, rfl, rfl, q4, (hds.kept (Chg.alloc _ _) id).kept c4 (fun e => hbd e.symm), bel (by simp; omega) (hbe.alloc (by omega) _) (c4.widen (fun _ h => .inl h))⟩
              clear q4 c4 hq hds bel
              go_wp2_with (go_at_call 18; refine (b2iT _).mono ?_; rintro e w' ⟨rfl, rfl⟩)
              go_meet
              case rel => exact R
            | false =>
              go_wp2_with fail
              refine (drainF (hq.kept (Chg.alloc _ _) id)).mono ?_
              rintro e w4 ⟨va, vc, rfl, q4, c4⟩
              have R : MRel w w.heap.size d (.bool false) (.int .i64 0) (.bool true) w4 := ⟨false, true, 0, rfl, rfl, rfl, q4, (hds.kept (Chg.alloc _ _) id).kept c4 (fun e => hbd e.symm), bel (by simp; omega) (hbe.alloc (by omega) _) (c4.widen (fun _ h => .inl h))⟩
              clear q4 c4 hq hds bel
              go_wp2_with (go_at_call 18; refine (b2iF _).mono ?_; rintro e w' ⟨rfl, rfl⟩)
              go_meet
              case rel => exact R
      case rest =>
        clear hq hds hbe hcz hcf hn256 hbsz
        obtain ⟨s, dr, n, rfl, rfl, rfl, hq, hds, hbe⟩ := hcut
        have hn256 := hq.le
        have hbsz := hq.lt
        cases s with
        | true =>
          go_wp2_with (first | (go_at_call 13; refine (qlenT hq).mono ?_; rintro e w' ⟨rfl, q4, c4⟩) | (go_at_call 18; refine (b2iT _).mono ?_; rintro e w' ⟨rfl, hw⟩; have hw' := hw.symm; clear hw; subst hw'))
          have R : MRel w w.heap.size d (.bool true) (.int .i64 n) (.bool dr) w' := ⟨true, dr, n, rfl, rfl, rfl, q4, hds.kept c4 (fun e => hbd e.symm), bel (by omega) hbe (c4.widen (fun _ h => .inl h))⟩
          clear hq hds hbe q4 c4 bel
          go_roundg (len - (k + 1))
          case measure => omega
          case rel => exact ⟨k + 1, by omega, rfl, by go_num, R⟩
        | false =>
          go_wp2_with (first | (go_at_call 13; refine (qlenF hq).mono ?_; rintro e w' ⟨rfl, q4, c4⟩) | (go_at_call 18; refine (b2iF _).mono ?_; rintro e w' ⟨rfl, hw⟩; have hw' := hw.symm; clear hw; subst hw'))
          have R : MRel w w.heap.size d (.bool false) (.int .i64 n) (.bool dr) w' := ⟨false, dr, n, rfl, rfl, rfl, q4, hds.kept c4 (fun e => hbd e.symm), bel (by omega) hbe (c4.widen (fun _ h => .inl h))⟩
          clear hq hds hbe q4 c4 bel
          go_roundg (len - (k + 1))
          case measure => omega
          case rel => exact ⟨k + 1, by omega, rfl, by go_num, R⟩
    · clear hc0 hc1 hop
      cases s with
      | true =>
        go_wp2_with (go_at_call 18; refine (b2iT _).mono ?_; rintro e w' ⟨rfl, hw⟩; have hw' := hw.symm; clear hw; subst hw')
        refine (qlenT hq).mono ?_
        rintro e w4 ⟨rfl, q4, c4⟩
        have b4 := bel (by omega) hbe (c4.widen (fun _ h => .inl h))
        have s4 := q4.lt
        clear hq hds hbe c4
        go_wp2_with fail
        refine (drainT q4).mono ?_
        rintro e w5 ⟨va, vc, rfl, q5, c5⟩
        have b5 := bel (by omega) b4 (c5.widen (fun _ h => .inl h))
        have s5 := q5.lt
        clear q4 b4 c5
        go_wp2_with fail
        refine (qlenF q5).mono ?_
        rintro e w6 ⟨rfl, q6, c6⟩
        have b6 := bel (by omega) b5 (c6.widen (fun _ h => .inl h))
        clear q5 b5 c6 bel
        go_wp2
        go_ret
        exact ⟨rfl, b6⟩
      | false =>
        go_wp2_with (go_at_call 18; refine (b2iF _).mono ?_; rintro e w' ⟨rfl, hw⟩; have hw' := hw.symm; clear hw; subst hw')
        refine (qlenF hq).mono ?_
        rintro e w4 ⟨rfl, q4, c4⟩
        have b4 := bel (by omega) hbe (c4.widen (fun _ h => .inl h))
        have s4 := q4.lt
        clear hq hds hbe c4
        go_wp2_with fail
        refine (drainF q4).mono ?_
        rintro e w5 ⟨va, vc, rfl, q5, c5⟩
        have b5 := bel (by omega) b4 (c5.widen (fun _ h => .inl h))
        have s5 := q5.lt
        clear q4 b4 c5
        go_wp2_with fail
        refine (qlenF q5).mono ?_
        rintro e w6 ⟨rfl, q6, c6⟩
        have b6 := bel (by omega) b5 (c6.widen (fun _ h => .inl h))
        clear q5 b5 c6 bel
        go_wp2
        go_ret
        exact ⟨rfl, b6⟩
end Go.Proofs.Ybulkbikc
