/-
  LawS2966AFifo: the walk.
-/
import Derived.Test.YbulkbikcFifo
import Derived.Deep.DeepCutAuto
import Derived.Deep.LoopGhost
import Derived.Deep.CutBlock
import Derived.OpenShut
import Derived.LaidEqlPtr
namespace Go.Proofs.Ybulkbikc
open Go Go.RowKit

/-- At the head of round k. -/
def Rel (w0 : World) (B k : Nat) (pv mv s6 : Value) (wr : World) : Prop :=
  ∃ (a m c : Nat) (ws ys : List Nat) (rv yv : Value), s6 = .int .i64 c ∧ a + m + c ≤ k ∧ ws.length = a + m ∧
    St w0 wr B pv mv rv yv (a + m) (ws.map ptr) m ((List.range' a m).map fun i : Nat => Value.int .i64 i) m ((ws.drop a).map ptr) c ys ((m + c : Nat) : Int)

theorem rel0 (w : World) : Rel w w.heap.size 0 (.slice none 0 0) (.slice none 0 0) (.int .i64 0) (w.alloc (.cells #[.pointer none, .pointer none, .pointer none, .slice none 0 0, .slice none 0 0, .int .u64 0, .int .u64 0, .int .i64 0] 33)) := by
  refine ⟨0, 0, 0, [], [], .slice none 0 0, .slice none 0 0, rfl, by omega, rfl, ⟨RowAt.nil _ _ _ _, RowAt.nil _ _ _ _, ?_, RowAt.nil _ _ _ _, RowAt.nil _ _ _ _, by simp [liveB], (Below.refl _ _).alloc (Nat.le_refl _) _, by simp⟩⟩
  exact heap_alloc_new w _

theorem St.cast {w0 w : World} {B : Nat} {pv mv rv yv : Value} {np nm nr ny np' nm' nr' ny' : Nat} {pl ml rl pl' ml' rl' : List Value} {ys ys' : List Nat} {n n' : Int} (S : St w0 w B pv mv rv yv np pl nm ml nr rl ny ys n)
    (h1 : np = np') (h2 : pl = pl') (h3 : nm = nm') (h4 : ml = ml') (h5 : nr = nr') (h6 : rl = rl') (h7 : ny = ny') (h8 : ys = ys') (h9 : n = n') : St w0 w B pv mv rv yv np' pl' nm' ml' nr' rl' ny' ys' n' := by
  subst h1 h2 h3 h4 h5 h6 h7 h8 h9; exact S

theorem rel_push {w0 w3 : World} {B k a m c g : Nat} {ws ys : List Nat} {pv mv rv yv : Value} {X : Int} (hsum : a + m + c ≤ k) (hws : ws.length = a + m) (hX : X = a + m)
    (S : St w0 w3 B pv mv rv yv (a + m + 1) (ws.map ptr ++ [ptr g]) (m + 1) (((List.range' a m).map fun i : Nat => Value.int .i64 i) ++ [.int .i64 X]) (m + 1) ((ws.drop a).map ptr ++ [ptr g]) c ys (((m + c : Nat) : Int) + 1)) :
    Rel w0 B (k + 1) pv mv (.int .i64 c) w3 := by
  subst hX
  refine ⟨a, m + 1, c, ws ++ [g], ys, rv, yv, rfl, by omega, by simp [hws]; omega, S.cast rfl (by simp) rfl ?_ rfl ?_ rfl rfl (by omega)⟩
  · rw [List.range'_1_concat]; simp
  · rw [List.drop_append_of_le_length (by omega)]; simp

theorem rel_yield {w0 w3 : World} {B k a m c y : Nat} {ws ys : List Nat} {pv mv rv yv : Value} (hsum : a + m + c ≤ k) (hws : ws.length = a + m)
    (S : St w0 w3 B pv mv rv yv (a + m) (ws.map ptr) m ((List.range' a m).map fun i : Nat => Value.int .i64 i) m ((ws.drop a).map ptr) (c + 1) (ys ++ [y]) (((m + c : Nat) : Int) + 1)) :
    Rel w0 B (k + 1) pv mv (.int .i64 (c + 1)) w3 :=
  ⟨a, m, c + 1, ws, ys ++ [y], rv, yv, by simp, by omega, hws, S.cast rfl rfl rfl rfl rfl rfl rfl rfl (by omega)⟩

theorem St.tailed {w0 w : World} {B : Nat} {pv mv mv' rv yv : Value} {np nm nm' nr ny : Nat} {pl ml ml' rl : List Value} {ys : List Nat} {n : Int} (S : St w0 w B pv mv rv yv np pl nm ml nr rl ny ys n)
    (h : RowAt w (B + 1) 3 1 mv' nm' ml') : St w0 w B pv mv' rv yv np pl nm' ml' nr rl ny ys n := ⟨S.pool, h, S.q, S.res, S.yie, S.sep, S.below, S.ysok⟩

theorem rel_pop {w0 w2 : World} {B k a m c : Nat} {ws ys : List Nat} {pv mv rv yv : Value} (hsum : a + (m + 1) + c ≤ k) (hws : ws.length = a + (m + 1))
    (S : St w0 w2 B pv mv rv yv (a + (m + 1)) (ws.map ptr) m (((List.range' a (m + 1)).map fun i : Nat => Value.int .i64 i).drop 1) m ((ws.drop (a + 1)).map ptr) c ys (((m + 1 + c : Nat) : Int) + -1)) :
    Rel w0 B (k + 1) pv mv (.int .i64 c) w2 :=
  ⟨a + 1, m, c, ws, ys, rv, yv, rfl, by omega, by omega, S.cast (by omega) rfl rfl (by simp [List.range'_succ]) rfl rfl rfl rfl (by omega)⟩

theorem rel_pop0 {w0 w2 : World} {B k a c : Nat} {ws ys : List Nat} {pv mv rv yv : Value} (hsum : a + 0 + c ≤ k) (hws : ws.length = a + 0)
    (S : St w0 w2 B pv mv rv yv (a + 0) (ws.map ptr) 0 ((List.range' a 0).map fun i : Nat => Value.int .i64 i) 0 ((ws.drop a).map ptr) c ys ((0 + c : Nat) : Int)) :
    Rel w0 B (k + 1) pv mv (.int .i64 c) w2 :=
  ⟨a, 0, c, ws, ys, rv, yv, rfl, by omega, hws, S⟩

theorem Chg.mono {w w' : World} {p q : Nat → Prop} (h : Chg w w' p) (hpq : ∀ k, p k → q k) : Chg w w' q := ⟨h.os, h.tape, h.output, h.size, fun k hk hn => h.block k hk (fun hp => hn (hpq k hp))⟩

theorem RowAt.cellsAt {w : World} {base : Nat} {e : TypeId} {size g off cap n : Nat} {xs : List Value} (h : RowAt w base e size (.slice (some ⟨g, off, none⟩) n cap) n xs) (hn : 0 < n) : ∀ j, j < n * size → w.cell? ⟨g, off + j, none⟩ = xs[j]? := by
  obtain ⟨g', off', cap', hv, _, _, _, hc, _⟩ := h.at hn
  simp only [Value.slice.injEq, Option.some.injEq, Addr.mk.injEq, and_true, true_and] at hv
  obtain ⟨⟨rfl, rfl⟩, rfl⟩ := hv
  exact hc

theorem neq35 (y : Nat) (w : World) : (binOp .neq 35 (.pointer (some ⟨y, 0, none⟩)) (.pointer (some ⟨y, 0, none⟩))).run Yba.prog w = .ok (.bool false) w := by
  obtain ⟨j, hj⟩ : ∃ j, Yba.prog.info? 45 = some j := Option.isSome_iff_exists.1 (by kernel_rfl)
  have h : ∀ d : Nat, (Op.equalIn (d + 1) 35 (.pointer (some ⟨y, 0, none⟩)) (.pointer (some ⟨y, 0, none⟩))).run Yba.prog w = .ok true w := fun d => by
    simp [Op.equalIn, run_underlying Yba.underlying35, sizeOf, typeInfo, hj, run_sameAddr_same]
  simp only [binOp]
  simp [Op.equal, Op.maxDepth, h 9999]

theorem ring_at {ws : List Nat} {a m j : Nat} (hws : ws.length = a + m) (hj : j < m) : ∃ t y : Nat, t = a + j ∧ (ws.map ptr)[t]? = some (.pointer (some ⟨y, 0, none⟩)) ∧ ((List.range' a m).map fun i : Nat => Value.int .i64 i)[j]? = some (.int .i64 t) ∧
    ((ws.drop a).map ptr)[j]? = some (.pointer (some ⟨y, 0, none⟩)) := by
  have h : a + j < ws.length := by omega
  exact ⟨a + j, ws[a + j], rfl, by simp [h, ptr], by simp [hj], by simp [h, ptr]⟩

theorem drop_pop {ws : List Nat} {a m : Nat} (hws : ws.length = a + (m + 1)) : ∃ y, (ws.map ptr)[a]? = some (.pointer (some ⟨y, 0, none⟩)) ∧ (ws.drop a).map ptr = .pointer (some ⟨y, 0, none⟩) :: (ws.drop (a + 1)).map ptr := by
  have h : a < ws.length := by omega
  exact ⟨ws[a], by simp [h, ptr], by rw [List.drop_eq_getElem_cons h]; rfl⟩

set_option maxRecDepth 100000 in
set_option maxHeartbeats 1000000 in
theorem walk3 (b off len cap : Nat) (zs : List Int) (w : World) (hpos : 0 < len) (hlen : len ≤ 1024) (hlc : len ≤ cap) (hz : zs.length = cap) (hcell : ∀ i, i < zs.length → w.cell? ⟨b, off + i, none⟩ = some (.int .u8 (zs.getD i 0))) (hwf : ∀ n ∈ zs, (Lit.int .u8 n).wf = true) :
    Calls Yba.prog 3 #[.slice (some ⟨b, off, none⟩) len cap] w fun e w' => e = .returned (.bool true) ∧ Below w.heap.size w w' := by
  have hd : decide ((1024 : Int) < (len : Int)) = false := decide_eq_false (by omega)
  have hbB : b < w.heap.size := World.block_lt_of_cell? _ _ (hcell 0 (by omega))
  have R0 := rel0 w
  go_enter Yba.func3, Yba.ntmps3
  go_wp2_with fail
  go_loopg [4, 5, 6, 20] len (fun g s4 s5 s6 s20 wr => ∃ k : Nat, k ≤ len ∧ g = len - k ∧ s20 = .int .i64 k ∧ Rel w w.heap.size k s4 s5 s6 wr)
  case atStart => exact ⟨0, Nat.zero_le _, rfl, rfl, R0⟩
  case round =>
    clear R0
    obtain ⟨k, hk, rfl, rfl, R⟩ := hrel
    by_cases hlt : k < len
    · obtain ⟨a, m, c, ws, ys, rv, yv, rfl, hsum, hws, S⟩ := R
      obtain ⟨z, hzk⟩ : ∃ z, z = zs.getD k 0 := ⟨_, rfl⟩
      have hcx : wr.cell? ⟨b, off + k, none⟩ = some (.int .u8 z) := by rw [hzk]; exact (S.below.cell (p := ⟨b, off + k, none⟩) hbB).trans (hcell k (by omega))
      obtain ⟨hz0, hz1⟩ := bounds_u8 (hwf z (by rw [hzk]; simp [List.getD_eq_getElem?_getD, List.getElem?_eq_getElem (show k < zs.length by omega)]))
      have HW : Hid (ws.length = a + m) := hws
      clear hzk hcell hwf hws
      go_upto_block 2 with fail
      go_cut [4, 5, 6] (fun s4 s5 s6 wx => Rel w w.heap.size (k + 1) s4 s5 s6 wx)
      case first =>
        obtain ⟨pa, pc, rfl, hpc, hpm⟩ := S.pool.form
        obtain ⟨ma, mc, rfl, hmc, hmm⟩ := S.model.form
        unfold maxLen at hpm hmm
        have hBl := S.q.lt
        rcases (show z % 3 = 0 ∨ z % 3 = 1 ∨ z % 3 = 2 from by omega) with h3 | h3 | h3
        · have hb0 : (z % 3 == 0) = true := by simp [h3]
          have H3 : Hid (z % 3 = 0) := h3
          clear h3
          obtain ⟨i0, hi, hz0', hz1', hz2'⟩ := info_parts info35
          go_wp2_with (at_builtin; refine wpList_append_row _ rfl (.tmp 54) (.tmp 56) 24 rfl (w.heap.size + 1) 35 i0 (.pointer none) 1 8 Yba.underlying24 hi hz0' hz1' hz2' rfl (by decide) _ _ _ rfl ((S.pool.alloc _).alloc _) ⟨wr.heap.size + 1, 0, none⟩ 1 1 [ptr wr.heap.size] rfl rfl ?c1 ?c2 ?c3 ?c4 ?c5 ?c6 ?_)
          case c1 =>
            intro j u hj
            match j, hj with
            | 0, hj => simp at hj; subst hj; simp [Addr.add, ptr]
          case c2 => intro u hu; simp at hu; subst hu; rfl
          case c3 => decide
          case c4 => unfold maxLen; omega
          case c5 => omega
          case c6 => simp; omega
          intro v1 w1 hrow hg hl
          have S1 := ((S.alloc _).alloc _).pooled hg hrow (fun k hk => (hl k hk).imp id (fun h => by simpa using h))
          obtain ⟨pa1, pc1, rfl, hpc1, hpm1⟩ := hrow.form
          unfold maxLen at hpm1
          clear hrow hg hl S hcx
          go_wp2_with fail
          refine (pushRes w.heap.size rv yv _ m _ (some ⟨wr.heap.size, 0, none⟩) _ S1.q S1.res (by omega) (by omega) (by omega)).mono ?_
          rintro e w2 ⟨rfl, rv', hq2, hr2, C2, L2⟩
          have S2 := S1.resumed hq2 hr2 C2 L2
          clear S1 hq2 hr2 C2 L2 hi hz0' hz1' hz2'
          obtain ⟨i1, hi1, hz01, hz11, hz21⟩ := info_parts info3
          go_wp2_with (at_builtin; refine wpList_append_row _ rfl (.tmp 60) (.tmp 64) 34 rfl (w.heap.size + 1) 3 i1 (.int .i64 0) 1 8 Yba.underlying34 hi1 hz01 hz11 hz21 rfl (by decide) _ _ _ rfl (S2.model.alloc _) ⟨w2.heap.size, 0, none⟩ 1 1 [.int .i64 ((a : Int) + m)] rfl rfl ?c1 ?c2 ?c3 ?c4 ?c5 ?c6 ?_)
          case c1 =>
            intro j u hj
            match j, hj with
            | 0, hj => simp at hj; subst hj; simp [Addr.add]
          case c2 => intro u hu; simp at hu; subst hu; rfl
          case c3 => decide
          case c4 => unfold maxLen; omega
          case c5 => omega
          case c6 => have := S2.q.lt; simp; omega
          intro v3 w3 hrow hg hl
          have S3 := (S2.alloc _).modelled hg hrow
          have R := rel_push hsum HW.out rfl S3
          clear S3 S2 hrow hg hl hi1 hz01 hz11 hz21
          go_wp2
          go_meet
          case rel => exact R
        · have hb0 : (z % 3 == 0) = false := by simp [h3]
          have hb1 : (z % 3 == 1) = true := by simp [h3]
          clear h3
          go_wp2_with fail
          refine (pushYie w.heap.size rv yv _ c _ (some ⟨wr.heap.size, 0, none⟩) _ (S.alloc _).q (S.alloc _).yie (by omega) (by omega) (by omega)).mono ?_
          rintro e w2 ⟨rfl, yv', hq2, hr2, C2⟩
          have S2 := (S.alloc _).yielded (y := wr.heap.size) hq2 hr2 C2 (heap_alloc_new wr _) rfl
          have R := rel_yield hsum HW.out S2
          clear S2 S hq2 hr2 C2 hcx
          go_wp2
          go_meet
          case rel => exact R
        · have hb0 : (z % 3 == 0) = false := by simp [h3]
          have hb1 : (z % 3 == 1) = false := by simp [h3]
          clear h3
          have hc3 := S.q.c3
          cases m with
          | zero =>
            obtain ⟨ra, rc, rfl, _, _⟩ := S.res.form
            go_wp2_with (go_at_call 10; refine (popRes0 _ _ _ _ _ _ S.q).mono ?_; rintro e w' ⟨rfl, rfl⟩)
            have R := rel_pop0 hsum HW.out S
            clear S
            go_meet
            case rel => exact R
          | succ m =>
            obtain ⟨y, hy1, hy2⟩ := drop_pop HW.out
            obtain ⟨g, offr, capr, rfl, hlive, _, _, _, _⟩ := S.res.at (by omega)
            have hres := S.res
            rw [hy2] at hres
            go_wp2_with fail
            refine (popRes1 w.heap.size g offr capr yv _ m (some ⟨y, 0, none⟩) _ _ S.q hres (by omega) (by omega) (by omega)).mono ?_
            rintro e w2 ⟨rfl, ra, hq2, hr2, C2, L2, hnil⟩
            have S2 := S.resumed hq2 hr2 (C2.mono (fun k hk => hk.imp id (fun h => by rw [h]; exact hlive))) (fun k hk => .inl (by rw [L2 k hk]; exact hlive))
            obtain ⟨gm, offm, mc', hvm, _, _, _, hcm, _⟩ := S2.model.at (by omega)
            obtain ⟨gp, offp, pc', hvp, _, _, _, hcp, _⟩ := S2.pool.at (by omega)
            simp only [Value.slice.injEq, true_and] at hvm hvp
            obtain ⟨rfl, rfl⟩ := hvm
            obtain ⟨rfl, rfl⟩ := hvp
            have hcm0 : w2.cell? ⟨gm, offm, none⟩ = some (.int .i64 a) := by simpa [List.range'_succ] using hcm 0 (by omega)
            have hcp0 : w2.cell? ⟨gp, offp + a, none⟩ = some (.pointer (some ⟨y, 0, none⟩)) := by rw [hcp a (by omega)]; exact hy1
            have R : ∀ ao : Option Addr, ao = (if mc = 1 then some ⟨gm, offm, none⟩ else some ⟨gm, offm + 1, none⟩) → Rel w w.heap.size (k + 1) (.slice (some ⟨gp, offp, none⟩) (a + (m + 1)) pc) (.slice ao m (mc - 1)) (.int .i64 c) w2 :=
              fun ao hao => rel_pop hsum HW.out (S2.tailed (S2.model.tail ao hao))
            have HR : Hid (∀ ao : Option Addr, ao = (if mc = 1 then some ⟨gm, offm, none⟩ else some ⟨gm, offm + 1, none⟩) → Rel w w.heap.size (k + 1) (.slice (some ⟨gp, offp, none⟩) (a + (m + 1)) pc) (.slice ao m (mc - 1)) (.int .i64 c) w2) := R
            clear S2 S R hq2 hr2 C2 L2 hres hlive hy1 hy2 hcm hcp hc3 hcx
            have hneq := neq35 y
            go_wp2
            · go_meet
              case rel =>
                have h1 : mc = 1 := by assumption
                subst h1
                exact HR.out _ rfl
            · go_meet
              case rel =>
                have h1 : ¬ mc = 1 := by assumption
                exact HR.out _ (by rw [if_neg h1])
      case rest =>
        clear S hcx HW hsum
        obtain ⟨a, m, c, ws, ys, rv, yv, rfl, hsum, hws, S⟩ := hcut
        obtain ⟨pa, pc, rfl, hpc, hpm⟩ := S.pool.form
        obtain ⟨ma, mc, rfl, hmc, hmm⟩ := S.model.form
        obtain ⟨ra, rc, rfl, hrc, hrm⟩ := S.res.form
        obtain ⟨ya, yc, rfl, hyc, hym⟩ := S.yie.form
        unfold maxLen at hpm hmm hrm hym
        have HW : Hid (ws.length = a + m) := hws
        clear hws
        have hc3 := S.q.c3
        have hc4 := S.q.c4
        go_wp2_with (go_at_call 11; refine (qlen _ _ _ _ _ S.q).mono ?_; rintro e w' ⟨rfl, rfl⟩)
        go_loopg [97] m (fun g s97 wx => ∃ j : Nat, j ≤ m ∧ g = m - j ∧ s97 = .int .i64 j ∧ St w wx w.heap.size (.slice pa (a + m) pc) (.slice ma m mc) (.slice ra m rc) (.slice ya c yc) (a + m) (ws.map ptr) m ((List.range' a m).map fun i : Nat => Value.int .i64 i) m ((ws.drop a).map ptr) c ys ((m + c : Nat) : Int))
        case atStart => exact ⟨0, Nat.zero_le _, rfl, rfl, S⟩
        case round =>
          clear S hc3 hc4
          obtain ⟨j, hj, rfl, rfl, S⟩ := hrel
          by_cases hjm : j < m
          · obtain ⟨t, y, ht, hyp, hym', hyr⟩ := ring_at HW.out hjm
            obtain ⟨gr, offr, rc', hvr, _, _, _, hcr, _⟩ := S.res.at (by omega)
            obtain ⟨gm, offm, mc', hvm, _, _, _, hcm, _⟩ := S.model.at (by omega)
            obtain ⟨gp, offp, pc', hvp, _, _, _, hcp, _⟩ := S.pool.at (by omega)
            simp only [Value.slice.injEq, true_and] at hvr hvm hvp
            obtain ⟨rfl, rfl⟩ := hvr
            obtain ⟨rfl, rfl⟩ := hvm
            obtain ⟨rfl, rfl⟩ := hvp
            have hc3 := S.q.c3
            have c1 := (hcr j (by omega)).trans hyr
            have c2 := (hcm j (by omega)).trans hym'
            have c3 := (hcp t (by omega)).trans hyp
            have i1 : (j : Int) < (m : Int) := by omega
            have i2 : (t : Int) < ((a + m : Nat) : Int) := by omega
            have hneq := neq35 y
            clear hcr hcm hcp hyp hym' hyr ht
            go_wp2_with fail
            go_quiet (fail)
            go_wp2
            go_roundg (m - (j + 1))
            case measure => omega
            case rel => exact ⟨j + 1, by omega, rfl, by go_num, S.drewN _⟩
          · go_wp2
            go_loopg [14] c (fun g s14 wx => ∃ j : Nat, j ≤ c ∧ g = c - j ∧ s14 = .int .i64 j ∧ St w wx w.heap.size (.slice pa (a + m) pc) (.slice ma m mc) (.slice ra m rc) (.slice ya c yc) (a + m) (ws.map ptr) m ((List.range' a m).map fun i : Nat => Value.int .i64 i) m ((ws.drop a).map ptr) c ys ((m + c : Nat) : Int))
            case atStart => exact ⟨0, Nat.zero_le _, rfl, rfl, S⟩
            case round =>
              clear S
              obtain ⟨i, hi, rfl, rfl, S⟩ := hrel
              by_cases hic : i < c
              · obtain ⟨gy, offy, capy, y, hvy, cy1, cy2⟩ := S.yat i hic
                simp only [Value.slice.injEq, true_and] at hvy
                obtain ⟨rfl, rfl⟩ := hvy
                unfold ptr at cy1
                have hc4 := S.q.c4
                have i1 : (i : Int) < (c : Int) := by omega
                go_wp2
                go_roundg (c - (i + 1))
                case measure => omega
                case rel => exact ⟨i + 1, by omega, rfl, by go_num, S⟩
              · have R : Rel w w.heap.size (k + 1) (.slice pa (a + m) pc) (.slice ma m mc) (.int .i64 c) wr := ⟨a, m, c, ws, ys, _, _, rfl, hsum, HW.out, S⟩
                clear S
                go_wp2
                go_roundg (len - (k + 1))
                case measure => omega
                case rel => exact ⟨k + 1, by omega, rfl, by go_num, R⟩
    · obtain ⟨a, m, c, ws, ys, rv, yv, rfl, hsum, hws, S⟩ := R
      have hbel := S.below
      clear S hsum hws
      go_wp2
      go_ret
      exact ⟨rfl, hbel⟩

/-- An empty slice, nil or not. -/
theorem walk3_empty (ao : Option Addr) (cap : Nat) (w : World) :
    Calls Yba.prog 3 #[.slice ao 0 cap] w fun e w' => e = .returned (.bool true) ∧ Below w.heap.size w w' := by
  go_enter Yba.func3, Yba.ntmps3
  go_wp2_with fail
  refine wp_loop_rounds 1 ?_
  rw [rounds_succ]
  go_wp2
  go_ret
  exact ⟨rfl, (Below.refl _ _).alloc (Nat.le_refl _) _⟩

/-- More than 1024 ops. -/
theorem walk3_long (ao : Option Addr) (len cap : Nat) (hlen : 1024 < len) (w : World) :
    Calls Yba.prog 3 #[.slice ao len cap] w fun e w' => e = .returned (.bool true) ∧ Below w.heap.size w w' := by
  have h : (1024 : Int) < (len : Int) := by omega
  go_enter Yba.func3, Yba.ntmps3
  go_wp2
  go_ret
  exact ⟨rfl, Below.refl _ _⟩
end Go.Proofs.Ybulkbikc
