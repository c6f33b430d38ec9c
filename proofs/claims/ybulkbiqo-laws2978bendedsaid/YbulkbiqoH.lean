/-
  LawS2978BEnded: the walk. Written by tools/gen_biqo_h.py.
-/
import Derived.Test.YbulkbiqoI
namespace Go.Proofs.Ybulkbiqo
open Go Go.RowKit Go.MuLone

def Idents (n : Nat) (id inc A B : Nat → Int) : Prop := ∀ k, k < n → ∀ w, Calls Yba.prog 4 #[.int .u8 (id k), .int .u8 (inc k)] w fun e w' => e = .returned (.agg #[.int .i64 (A k), .int .u64 (B k)]) ∧ w' = w.alloc (.cells #[.int .i64 (A k), .int .u64 (B k)] 26)

theorem ta108 (ub : Nat) (w : World) : (Instr.typeAssert (.iface 108 (.pointer (some ⟨ub, 0, none⟩))) 29 108 true).run Yba.prog w = .ok (.tuple #[.pointer (some ⟨ub, 0, none⟩), .bool true]) w := by
  kernel_rfl

theorem Fin7.drewN {w W : World} {T base : Nat} {dv mv u23 u24 u29 : Value} {kl : List Nat} {A B : Nat → Int} {H : Nat → Bool} {ml : List (Int × Int × Value)} {L : List (Int × Int)} {ad : Bool} {ev : Value} {pv : Nat} (F : Fin7 w W T base dv mv u23 u24 u29 kl A B H ml L ad ev pv) (j : Nat) : Fin7 w (W.drewN j) T base dv mv u23 u24 u29 kl A B H ml L ad ev pv :=
  ⟨⟨F.be.os, F.be.tape, F.be.output, F.be.size, F.be.block⟩, ⟨F.tb.d, F.tb.mu, F.tb.m, F.tb.blk⟩, F.dr, F.mr, F.wr, F.hr, F.xr, F.mm⟩

theorem neq29 (y : Nat) (w : World) : (binOp .neq 29 (.iface 113 (.pointer (some ⟨y, 0, none⟩))) (.iface 113 (.pointer (some ⟨y, 0, none⟩)))).run Yba.prog w = .ok (.bool false) w := by
  obtain ⟨j, hj⟩ : ∃ j, Yba.prog.info? 115 = some j := Option.isSome_iff_exists.1 (by kernel_rfl)
  obtain ⟨i, hi, hc⟩ : ∃ i, Yba.prog.info? 113 = some i ∧ i.comparable = true := by
    have h : (Yba.prog.info? 113).map (fun i => i.comparable) = some true := by kernel_rfl
    obtain ⟨i, hi, hz⟩ := Option.map_eq_some_iff.1 h
    exact ⟨i, hi, hz⟩
  simp only [binOp]
  simp [Op.equal, Op.maxDepth, run_equalIn_iface_ptr_same w 9998 _ Yba.underlying29 Yba.underlying113 hi hc hj]

/-- Two cells of an older block, behind an append. -/
theorem keep_app {W W1 W2 : World} {s : Value} {a1 a2 : Addr} {x1 x2 : Value} {lo : Nat} (hg : W1.grownBy W2 (liveB s)) (e : Ext W W1) (h1 : W.cell? a1 = some x1) (h2 : W.cell? a2 = some x2) (hn : ∀ i, liveB s = some i → lo ≤ i) (b1 : a1.block < lo) (b2 : a2.block < lo) : W2.cell? a1 = some x1 ∧ W2.cell? a2 = some x2 :=
  ⟨(Chg.grown hg).cell (e.cell h1 (fun h => h)) (fun hh => by have := hn _ hh; omega), (Chg.grown hg).cell (e.cell h2 (fun h => h)) (fun hh => by have := hn _ hh; omega)⟩

theorem two_new (w : World) (x y : Value) (t : TypeId) (n : Nat) (hn : n = w.heap.size) : ∀ (j : Nat) (u : Value), [x, y][j]? = some u → (w.alloc (.cells #[x, y] t)).cell? ((⟨n, 0, none⟩ : Addr).add j) = some u := by
  subst hn
  intro j u hj
  match j, hj with
  | 0, hj => simp at hj; subst hj; simp [Addr.add]
  | 1, hj => simp at hj; subst hj; simp [Addr.add]
theorem one_new (w : World) (x : Value) (t : TypeId) (n : Nat) (hn : n = w.heap.size) : ∀ (j : Nat) (u : Value), [x][j]? = some u → (w.alloc (.cells #[x] t)).cell? ((⟨n, 0, none⟩ : Addr).add j) = some u := by
  subst hn
  intro j u hj
  match j, hj with
  | 0, hj => simp at hj; subst hj; simp [Addr.add]

set_option maxRecDepth 100000 in
set_option maxHeartbeats 40000000 in
theorem main3 (dao : Option Addr) (n dcap : Nat) (pao : Option Addr) (p pcap : Nat) (id inc : Nat → Int) (H : Nat → Bool) (pid pinc : Nat → Int) (A B P R : Nat → Int) (q0 q1 c d : Int) (f : Bool) (w : World)
    (hn : n ≤ 1024) (hp : p ≤ 1024) (hI : ∀ w, Calls Yba.prog 4 #[.int .u8 q0, .int .u8 q1] w fun e w' => e = .returned (.agg #[.int .i64 c, .int .u64 d]) ∧ w' = w.alloc (.cells #[.int .i64 c, .int .u64 d] 26))
    (hD : DIn w dao n id inc H) (hP : PIn w pao p pid pinc) (hK : Idents n id inc A B) (hL : Idents p pid pinc P R) :
    Calls Yba.prog 3 #[.slice dao n dcap, .slice pao p pcap, .int .u8 q0, .int .u8 q1, .bool f] w fun e w' => e = .returned (.bool true) ∧ Below w.heap.size w w' := by
  have hd1 : decide ((1024 : Int) < (n : Int)) = false := decide_eq_false (by omega)
  have hd2 : decide ((1024 : Int) < (p : Int)) = false := decide_eq_false (by omega)
  obtain ⟨i35, hi35, hz35, hs35, hb35⟩ := info_parts info35
  have HI : Hid (∀ w, Calls Yba.prog 4 #[.int .u8 q0, .int .u8 q1] w fun e w' => e = .returned (.agg #[.int .i64 c, .int .u64 d]) ∧ w' = w.alloc (.cells #[.int .i64 c, .int .u64 d] 26)) := hI
  have HD : Hid (DIn w dao n id inc H) := hD
  have HPI : Hid (PIn w pao p pid pinc) := hP
  have HKs : Hid (Idents n id inc A B) := hK
  have HLs : Hid (Idents p pid pinc P R) := hL
  clear hI hD hP hK hL
  go_enter Yba.func3, Yba.ntmps3
  go_upto_if 48 with (go_at_call 4; refine (HI.out _).mono ?_; rintro e w' ⟨rfl, rfl⟩)
  go_cut [12] from 49 to 49 (fun s12 wx => ErrOk f s12 ∧ E0 w wx (w.heap.size + 1) c d)
  case first =>
    have e0 := E0.start w c d
    cases f with
    | false =>
      go_wp2
      go_meet
      case rel => exact ⟨.no rfl rfl, e0⟩
    | true =>
      go_wp2_with fail
      refine (new5 _ _).mono ?_
      rintro e w' ⟨rfl, rfl⟩
      have e1 := e0.alloc (.cells #[.string { data := #[100, 105, 97, 108, 32, 102, 97, 105, 108, 101, 100] }] 115)
      clear e0
      go_wp2
      go_meet
      case rel => exact ⟨.yes rfl _ rfl, e1⟩
  case rest =>
    obtain ⟨hE, e0⟩ := hcut
    have HEr : Hid (ErrOk f u12) := hE
    clear hE HI
    go_wp2_with (first | (go_at_call 5; refine (new5 _ _).mono ?_; rintro e w' ⟨rfl, rfl⟩) | (at_make; refine wpList_make_full _ rfl (.tmp 52) (.tmp 52) 31 rfl w.heap.size 35 i35 (.agg #[.int .i64 0, .int .u64 0, .bool false]) 3 Yba.underlying31 hi35 hz35 hs35 .i64 .i64 _ _ n rfl rfl rfl rfl (by rw [hb35]; omega) (by unfold maxLen; omega) (by have := e0.size; simp; omega) ?_; intro w1 hown1 hgrow1))
    obtain ⟨gd, hgd⟩ : ∃ gd, gd = wc.heap.size + 1 := ⟨_, rfl⟩
    obtain ⟨pv, hpv⟩ : ∃ pv, pv = wc.heap.size := ⟨_, rfl⟩
    have l1 := L1.start A B H e0 hgrow1 hgd hown1 (by rw [hgd]; have := (hown1.lt _ rfl).2; simpa using this)
    rw [← hgd, ← hpv]
    clear e0 hown1 hgrow1 hgd hpv hi35 hz35 hs35 hb35
    go_loopg [56] n (fun q s56 wx => ∃ k : Nat, k ≤ n ∧ q = n - k ∧ s56 = .int .i64 k ∧ L1 w wx (w.heap.size + 1) gd n k c d A B H)
    case atStart => exact ⟨0, Nat.zero_le _, rfl, rfl, l1⟩
    case round =>
      clear l1
      obtain ⟨k, hk, rfl, rfl, l1⟩ := hrel
      by_cases hlt : k < n
      · skip
        obtain ⟨db, doff, rfl, hdb, hcs⟩ := HD.out (by omega)
        obtain ⟨k0, k1, k2, r0, r1, r2, r3⟩ := hcs k hlt
        have f0 : wr.cell? ⟨db, doff + k * 3, none⟩ = some (.int .u8 (id k)) := (l1.1.be.cell (p := ⟨db, doff + k * 3, none⟩) hdb).trans k0
        have f1 : wr.cell? ⟨db, doff + k * 3 + 1, none⟩ = some (.int .u8 (inc k)) := (l1.1.be.cell (p := ⟨db, doff + k * 3 + 1, none⟩) hdb).trans k1
        have f2 : wr.cell? ⟨db, doff + k * 3 + 2, none⟩ = some (.bool (H k)) := (l1.1.be.cell (p := ⟨db, doff + k * 3 + 2, none⟩) hdb).trans k2
        obtain ⟨⟨v0, c0⟩, ⟨v1, c1⟩, ⟨v2, c2⟩, hfz⟩ := row_there l1.2.1 k hlt
        have z0 := hfz (k * 3)
        have z1 := hfz (k * 3 + 1)
        have z2 := hfz (k * 3 + 2)
        have hgl := l1.2.2.1
        have i1 : (k : Int) < (n : Int) := by omega
        have HS : Hid (L1 w wr (w.heap.size + 1) gd n k c d A B H) := l1
        clear hcs k0 k1 k2 hfz l1 r0 r1 r2 r3
        go_wp2_with fail
        go_region_held3 (fun w' => w'.cell? ⟨wr.heap.size, 0, none⟩ = some (.int .u8 (id k)) ∧ w'.cell? ⟨wr.heap.size, 1, none⟩ = some (.int .u8 (inc k)) ∧ w'.cell? ⟨wr.heap.size, 2, none⟩ = some (.bool (H k))) (first | (go_keep; done) | ((try dsimp only); refine ⟨?_, ?_, ?_⟩ <;> exact keep_at _ _ _ _ _ _ (by simp))) (first | (go_at_call 4; refine (HKs.out k hlt _).mono ?_; rintro e w' ⟨rfl, rfl⟩))
        clear f0 f1 f2 c0 c1 c2 z0 z1 z2 hgl
        go_wp2_with fail
        go_roundg (n - (k + 1))
        case measure => omega
        case rel => exact ⟨k + 1, by omega, rfl, by go_num, HS.out.step hlt _ _⟩
      · have hkn : n = k := by omega
        subst hkn
        clear hlt hk
        obtain ⟨i40, hi40, hz40, hs40, hb40⟩ := info_parts info40
        go_wp2_with (at_make; refine wpList_make_full _ rfl (.tmp 74) (.tmp 74) 36 rfl w.heap.size 40 i40 (.agg #[.int .i64 0, .int .u64 0, .nilIface]) 3 Yba.underlying36 hi40 hz40 hs40 .i64 .i64 _ _ p rfl rfl rfl rfl (by rw [hb40]; omega) (by unfold maxLen; omega) l1.1.size ?_; intro w2 hown2 hgrow2)
        obtain ⟨gm, hgm⟩ : ∃ gm, gm = wr.heap.size := ⟨_, rfl⟩
        have l2 := L2.start P R pv l1 hgrow2 hgm hown2 (by rw [hgm]; exact (hown2.lt _ rfl).2)
        rw [← hgm]
        clear l1 hown2 hgrow2 hgm hi40 hz40 hs40 hb40
        go_loopg [78] p (fun q s78 wx => ∃ k : Nat, k ≤ p ∧ q = p - k ∧ s78 = .int .i64 k ∧ L2 w wx (w.heap.size + 1) gd gm n p k c d A B H P R pv)
        case atStart => exact ⟨0, Nat.zero_le _, rfl, rfl, l2⟩
        case round =>
          clear l2
          obtain ⟨k, hk, rfl, rfl, l2⟩ := hrel
          by_cases hlt : k < p
          · skip
            obtain ⟨db, doff, rfl, hdb, hcs⟩ := HPI.out (by omega)
            obtain ⟨k0, k1, r0, r1, r2, r3⟩ := hcs k hlt
            have f0 := (l2.1.be.cell (p := ⟨db, doff + k * 2, none⟩) hdb).trans k0
            have f1 := (l2.1.be.cell (p := ⟨db, doff + k * 2 + 1, none⟩) hdb).trans k1
            obtain ⟨⟨v0, c0⟩, ⟨v1, c1⟩, ⟨v2, c2⟩, hfz⟩ := row_there l2.2.2.1 k hlt
            have z0 := hfz (k * 3)
            have z1 := hfz (k * 3 + 1)
            have z2 := hfz (k * 3 + 2)
            have hgl := l2.2.2.2.1
            have i1 : (k : Int) < (p : Int) := by omega
            have HS : Hid (L2 w wr (w.heap.size + 1) gd gm n p k c d A B H P R pv) := l2
            clear hcs k0 k1 hfz l2 r0 r1 r2 r3
            go_wp2_with (go_at_call 4; refine (HLs.out k hlt _).mono ?_; rintro e w' ⟨rfl, rfl⟩)
            clear f0 f1 c0 c1 c2 z0 z1 z2 hgl
            go_roundg (p - (k + 1))
            case measure => omega
            case rel => exact ⟨k + 1, by omega, rfl, by go_num, HS.out.step hlt _ _⟩
          · have hkn : p = k := by omega
            subst hkn
            clear hlt hk
            have bs := Base.of l2
            clear l2
            go_upto_block 4 with fail
            go_cut [20, 21] from 94 to 113 (fun s20 s21 wx => s20 = .int .i64 (firstAt A B c d 0 n) ∧ Base w wx (w.heap.size + 1) gd gm n p c d A B H P R pv)
            case first =>
              go_wp2_with fail
              go_loopg [20, 21] n (fun q s20 s21 wx => ∃ k : Nat, k ≤ n ∧ q = n - k ∧ s20 = .int .i64 (-1) ∧ s21 = .int .i64 k ∧ Base w wx (w.heap.size + 1) gd gm n p c d A B H P R pv ∧ Hid (firstAt A B c d 0 n = firstAt A B c d k (n - k)))
              case atStart => exact ⟨0, Nat.zero_le _, rfl, rfl, rfl, bs, rfl⟩
              case round =>
                clear bs
                obtain ⟨k, hk, rfl, rfl, rfl, bs, hf⟩ := hrel
                by_cases hlt : k < n
                · obtain ⟨db, doff, rfl, hdb, hcs⟩ := HD.out (by omega)
                  obtain ⟨k0, k1, _, r0, r1, r2, r3⟩ := hcs k hlt
                  have f0 : wr.cell? ⟨db, doff + k * 3, none⟩ = some (.int .u8 (id k)) := (bs.e0.be.cell (p := ⟨db, doff + k * 3, none⟩) hdb).trans k0
                  have f1 : wr.cell? ⟨db, doff + k * 3 + 1, none⟩ = some (.int .u8 (inc k)) := (bs.e0.be.cell (p := ⟨db, doff + k * 3 + 1, none⟩) hdb).trans k1
                  have g0 := bs.e0.w0
                  have g1 := bs.e0.w1
                  have hsz := bs.e0.lt
                  have hdl : db < wr.heap.size := by have := bs.e0.size; omega
                  have i1 : (k : Int) < (n : Int) := by omega
                  have hF : firstAt A B c d k (n - k) = if (A k == c && B k == d) then (k : Int) else firstAt A B c d (k + 1) (n - (k + 1)) := by
                    rw [show n - k = (n - (k + 1)) + 1 from by omega, firstAt]
                  have HF : Hid (firstAt A B c d 0 n = if (A k == c && B k == d) then (k : Int) else firstAt A B c d (k + 1) (n - (k + 1))) := hf.out.trans hF
                  have HS : Hid (Base w wr (w.heap.size + 1) gd gm n p c d A B H P R pv) := bs
                  have HC := HKs.out k hlt
                  have HC : Hid (∀ w, Calls Yba.prog 4 #[.int .u8 (id k), .int .u8 (inc k)] w fun e w' => e = .returned (.agg #[.int .i64 (A k), .int .u64 (B k)]) ∧ w' = w.alloc (.cells #[.int .i64 (A k), .int .u64 (B k)] 26)) := HC
                  clear hcs k0 k1 r0 r1 r2 r3 hF hf bs hdb
                  obtain ⟨ak, ha⟩ : ∃ a, a = A k := ⟨_, rfl⟩
                  obtain ⟨bk, hb⟩ : ∃ a, a = B k := ⟨_, rfl⟩
                  rw [← ha, ← hb] at HC HF
                  clear ha hb
                  by_cases h1 : ak = c
                  · subst h1
                    by_cases h2 : bk = d
                    · subst h2
                      go_wp2_with fail
                      go_region_held3 (fun w' => w'.cell? ⟨db, doff + k * 3, none⟩ = some (.int .u8 (id k)) ∧ w'.cell? ⟨db, doff + k * 3 + 1, none⟩ = some (.int .u8 (inc k)) ∧ w'.cell? ⟨w.heap.size + 1, 0, none⟩ = some (.int .i64 ak) ∧ w'.cell? ⟨w.heap.size + 1, 1, none⟩ = some (.int .u64 bk)) (go_keep) (first | (go_at_call 4; refine (HC.out _).mono ?_; rintro e w' ⟨rfl, rfl⟩))
                      clear f0 f1 g0 g1
                      go_wp2_with fail
                      go_meet
                      case rel => exact ⟨by rw [HF.out]; simp, HS.out.ext (((Ext.refl _).alloc _).drew)⟩
                    · go_wp2_with fail
                      go_region_held3 (fun w' => w'.cell? ⟨db, doff + k * 3, none⟩ = some (.int .u8 (id k)) ∧ w'.cell? ⟨db, doff + k * 3 + 1, none⟩ = some (.int .u8 (inc k)) ∧ w'.cell? ⟨w.heap.size + 1, 0, none⟩ = some (.int .i64 ak) ∧ w'.cell? ⟨w.heap.size + 1, 1, none⟩ = some (.int .u64 d)) (go_keep) (first | (go_at_call 4; refine (HC.out _).mono ?_; rintro e w' ⟨rfl, rfl⟩))
                      clear f0 f1 g0 g1
                      go_wp2_with fail
                      go_roundg (n - (k + 1))
                      case measure => omega
                      case rel => exact ⟨k + 1, by omega, rfl, rfl, by go_num, HS.out.ext (((Ext.refl _).alloc _).drew), HF.out.trans (by simp [h2])⟩
                  · go_wp2_with fail
                    go_region_held3 (fun w' => w'.cell? ⟨db, doff + k * 3, none⟩ = some (.int .u8 (id k)) ∧ w'.cell? ⟨db, doff + k * 3 + 1, none⟩ = some (.int .u8 (inc k)) ∧ w'.cell? ⟨w.heap.size + 1, 0, none⟩ = some (.int .i64 c) ∧ w'.cell? ⟨w.heap.size + 1, 1, none⟩ = some (.int .u64 d)) (go_keep) (first | (go_at_call 4; refine (HC.out _).mono ?_; rintro e w' ⟨rfl, rfl⟩))
                    clear f0 f1 g0 g1
                    go_wp2_with fail
                    go_roundg (n - (k + 1))
                    case measure => omega
                    case rel => exact ⟨k + 1, by omega, rfl, rfl, by go_num, HS.out.ext (((Ext.refl _).alloc _).drew), HF.out.trans (by simp [h1])⟩
                · have hkn : n = k := by omega
                  subst hkn
                  have HF : Hid (firstAt A B c d 0 n = -1) := by show _ = _; rw [hf.out, Nat.sub_self]; rfl
                  clear hlt hk hf
                  go_wp2_with fail
                  go_meet
                  case rel => exact ⟨by rw [HF.out], bs⟩
            case rest =>
              obtain ⟨rfl, bs⟩ := hcut
              obtain ⟨t, ht⟩ : ∃ t, t = firstAt A B c d 0 n := ⟨_, rfl⟩
              rw [← ht]
              have HR : Hid (t = -1 ∨ ∃ k : Nat, k < n ∧ t = (k : Int)) := by
                show _ ∨ _
                rw [ht]
                rcases firstAt_range A B c d n 0 with h | ⟨k, _, hk, h⟩
                · exact .inl h
                · exact .inr ⟨k, by omega, h⟩
              have HT : Hid (t = firstAt A B c d 0 n) := ht
              clear ht
              go_upto_if 115 with fail
              go_cut [22] from 116 to 120 (fun s22 wx => s22 = .bool (heardAt H t) ∧ Base w wx (w.heap.size + 1) gd gm n p c d A B H P R pv)
              case first =>
                rcases HR.out with h | ⟨k, hk, h⟩
                · subst h
                  go_wp2_with fail
                  go_meet
                  case rel => exact ⟨rfl, bs⟩
                · subst h
                  obtain ⟨db, doff, rfl, hdb, hcs⟩ := HD.out (by omega)
                  obtain ⟨_, _, k2, _⟩ := hcs k hk
                  have f2 : wc.cell? ⟨db, doff + k * 3 + 2, none⟩ = some (.bool (H k)) := (bs.e0.be.cell (p := ⟨db, doff + k * 3 + 2, none⟩) hdb).trans k2
                  have i1 : (k : Int) < (n : Int) := by omega
                  have i0 : (0 : Int) ≤ (k : Int) := by omega
                  clear hcs k2
                  go_wp2_with fail
                  go_meet
                  case rel => exact ⟨by simp [heardAt], bs⟩
              case rest =>
                obtain ⟨rfl, bs⟩ := hcut
                obtain ⟨i26, hi26, hz26, hs26, hb26⟩ := info_parts info26
                obtain ⟨i4, hi4, hz4, hs4, hb4⟩ := info_parts info4
                obtain ⟨bb, hbb⟩ : ∃ b, b = wc.heap.size := ⟨_, rfl⟩
                have HBB : Hid (bb = wc.heap.size) := hbb
                clear hbb
                go_wp2_with (first | (at_make; refine wpList_make_own _ rfl (.const (.int .i64 0)) (.tmp 122) 41 rfl bb 26 i26 (.agg #[.int .i64 0, .int .u64 0]) 2 Yba.underlying41 hi26 hz26 hs26 .i64 .i64 _ n rfl rfl rfl (by rw [hb26]; omega) (by unfold maxLen; omega) (by rw [HBB.out]; exact Nat.le_refl _) ?_; intro w3 hown3 hgrow3) | (at_make; refine wpList_make_own _ rfl (.const (.int .i64 0)) (.tmp 125) 42 rfl bb 4 i4 (.bool false) 1 Yba.underlying42 hi4 hz4 hs4 .i64 .i64 _ n rfl rfl rfl (by rw [hb4]; omega) (by unfold maxLen; omega) (by rw [HBB.out]; exact hgrow3.size) ?_; intro w4 hown4 hgrow4))
                have l4 := L4.start t bs hgrow3 hgrow4 HBB.out hown3 hown4
                clear hown3 hgrow3 hown4 hgrow4 bs HBB
                go_loopg [23, 24, 25] n (fun q s23 s24 s25 wx => ∃ k : Nat, k ≤ n ∧ q = n - k ∧ s25 = .int .i64 k ∧ L4 w wx (w.heap.size + 1) gd gm n p c d A B H P R pv t k bb s23 s24)
                case atStart => exact ⟨0, Nat.zero_le _, rfl, rfl, l4⟩
                case round =>
                  clear l4
                  obtain ⟨k, hk, rfl, rfl, l4⟩ := hrel
                  by_cases hlt : k < n
                  · skip
                    obtain ⟨db, doff, rfl, hdb, hcs⟩ := HD.out (by omega)
                    obtain ⟨k0, k1, k2, _⟩ := hcs k hlt
                    have f0 : wr.cell? ⟨db, doff + k * 3, none⟩ = some (.int .u8 (id k)) := (l4.bs.e0.be.cell (p := ⟨db, doff + k * 3, none⟩) hdb).trans k0
                    have f1 : wr.cell? ⟨db, doff + k * 3 + 1, none⟩ = some (.int .u8 (inc k)) := (l4.bs.e0.be.cell (p := ⟨db, doff + k * 3 + 1, none⟩) hdb).trans k1
                    have f2' : wr.cell? ⟨db, doff + k * 3 + 2, none⟩ = some (.bool (H k)) := (l4.bs.e0.be.cell (p := ⟨db, doff + k * 3 + 2, none⟩) hdb).trans k2
                    have i1 : (k : Int) < (n : Int) := by omega
                    have hdbb : db < bb := by have := l4.lo; have := l4.bs.dm; have := l4.bs.wd; omega
                    have HFar : Hid (∀ i, liveB u23 = some i → bb ≤ i) := fun i hi => (l4.wr.lt i hi).1
                    have hbw : bb ≤ wr.heap.size := l4.hi
                    have HS : Hid (L4 w wr (w.heap.size + 1) gd gm n p c d A B H P R pv t k bb u23 u24) := l4
                    clear hcs k0 k1 k2 l4
                    by_cases hne : (k : Int) = t
                    · have hm : ((k : Int) != t) = false := by simp [hne]
                      go_wp2_with fail
                      clear f0 f1 f2'
                      go_roundg (n - (k + 1))
                      case measure => omega
                      case rel => exact ⟨k + 1, by omega, rfl, by go_num, HS.out.miss hm⟩
                    · have hm : ((k : Int) != t) = true := by simp [hne]
                      have HM : Hid (((k : Int) != t) = true) := hm
                      have HLe : Hid ((keepL t k).length ≤ k) := keepL_le t k
                      clear hm
                      go_wp2_with fail
                      go_region_held3 (fun w' => w'.cell? ⟨db, doff + k * 3, none⟩ = some (.int .u8 (id k)) ∧ w'.cell? ⟨db, doff + k * 3 + 1, none⟩ = some (.int .u8 (inc k))) (first | (go_keep; done) | exact keep_app g1 ((((Ext.refl _).alloc _).alloc _).drew) f0 f1 HFar.out hdbb hdbb) (first | (refine step_append_row _ rfl (.tmp 136) (.tmp 148) 41 rfl bb 26 i26 (.agg #[.int .i64 0, .int .u64 0]) 2 16 Yba.underlying41 hi26 hz26 hs26 hb26 rfl (by decide) u23 (keepL t k).length (f2 ((keepL t k).map fun i => (A i, B i))) ?h1 ?h2 ⟨wr.heap.size + 1, 0, none⟩ 1 1 [.int .i64 (A k), .int .u64 (B k)] ?h3 rfl ?h4 ?h5 (by decide) ?h6 ?h7 ?h8 ?_; (case h1 => simp [Act.eval]); (case h2 => exact (HS.out.wr.alloc _).alloc _); (case h3 => simp [Act.eval]); (case h4 => exact two_new _ _ _ _ _ (by simp)); (case h5 => simp [Value.oneCell']); (case h6 => have := HLe.out; unfold maxLen; omega); (case h7 => have := HLe.out; omega); (case h8 => simp [World.drew]; omega); intro v1 W2 r1 g1 _) | (go_at_call 4; refine (HKs.out k hlt _).mono ?_; rintro e w' ⟨rfl, rfl⟩))
                      have f2 : W2.cell? ⟨db, doff + k * 3 + 2, none⟩ = some (.bool (H k)) := (keep_app g1 ((((Ext.refl _).alloc _).alloc _).drew) f2' f2' HFar.out hdbb hdbb).1
                      have HM2 : Hid (RowAt W2 bb 4 1 u24 (keepL t k).length ((keepL t k).map fun i => Value.bool (H i))) := HS.out.mid ((((Ext.refl _).alloc _).alloc _).drew) g1
                      have hsz : bb ≤ W2.heap.size := by have := g1.size; simp [World.drew] at this; omega
                      have HN : Hid (∀ W3 W4 v2, Ext W2 W3 → W3.grownBy W4 (liveB u24) → RowAt W4 bb 4 1 v2 ((keepL t k).length + 1) (((keepL t k).map fun i => Value.bool (H i)) ++ [.bool (H k)]) → L4 w W4 (w.heap.size + 1) gd gm n p c d A B H P R pv t (k + 1) bb v1 v2) := fun W3 W4 v2 e2 g2 r2 => HS.out.hit HM.out ((((Ext.refl _).alloc _).alloc _).drew) g1 r1 e2 g2 r2
                      clear f0 f1 f2' r1 g1 HFar
                      go_wp2_with (at_builtin; refine wpList_append_row _ rfl (.tmp 150) (.tmp 156) 42 rfl bb 4 i4 (.bool false) 1 1 Yba.underlying42 hi4 hz4 hs4 hb4 rfl (by decide) u24 (keepL t k).length ((keepL t k).map fun i => Value.bool (H i)) rfl (HM2.out.alloc _) ⟨W2.heap.size, 0, none⟩ 1 1 [.bool (H k)] rfl rfl ?c1 ?c2 ?c3 ?c4 ?c5 ?c6 ?_)
                      case c1 => exact one_new _ _ _ _ rfl
                      case c2 => simp [Value.oneCell']
                      case c3 => decide
                      case c4 => have := HLe.out; unfold maxLen; omega
                      case c5 => have := HLe.out; omega
                      case c6 => simp; omega
                      intro v2 W4 r2 g2 _
                      have HL4 := HN.out _ _ _ ((Ext.refl W2).alloc _) g2 r2
                      have HL4 : Hid (L4 w W4 (w.heap.size + 1) gd gm n p c d A B H P R pv t (k + 1) bb v1 v2) := HL4
                      clear r2 g2 HN f2
                      go_wp2_with fail
                      go_roundg (n - (k + 1))
                      case measure => omega
                      case rel => exact ⟨k + 1, by omega, rfl, by go_num, HL4.out⟩
                  · have hkn : n = k := by omega
                    subst hkn
                    clear hlt hk
                    go_wp2_with fail
                    go_loopg [26, 27] p (fun q s26 s27 wx => ∃ k : Nat, k ≤ p ∧ q = p - k ∧ s26 = .bool (anyAt P R c d k) ∧ s27 = .int .i64 k ∧ L4 w wx (w.heap.size + 1) gd gm n p c d A B H P R pv t n bb u23 u24)
                    case atStart => exact ⟨0, Nat.zero_le _, rfl, rfl, rfl, l4⟩
                    case round =>
                      clear l4
                      obtain ⟨k, hk, rfl, rfl, rfl, l4⟩ := hrel
                      by_cases hlt : k < p
                      · skip
                        obtain ⟨db, doff, rfl, hdb, hcs⟩ := HPI.out (by omega)
                        obtain ⟨k0, k1, _⟩ := hcs k hlt
                        have f0 := (l4.bs.e0.be.cell (p := ⟨db, doff + k * 2, none⟩) hdb).trans k0
                        have f1 := (l4.bs.e0.be.cell (p := ⟨db, doff + k * 2 + 1, none⟩) hdb).trans k1
                        have g0 := l4.bs.e0.w0
                        have g1 := l4.bs.e0.w1
                        have hsz := l4.bs.e0.lt
                        have hdl : db < wr.heap.size := by have := l4.bs.e0.size; omega
                        have i1 : (k : Int) < (p : Int) := by omega
                        have HF : Hid (anyAt P R c d (k + 1) = (anyAt P R c d k || (P k == c && R k == d))) := anyAt_succ P R c d k
                        have HS : Hid (L4 w wr (w.heap.size + 1) gd gm n p c d A B H P R pv t n bb u23 u24) := l4
                        have HC := HLs.out k hlt
                        have HC : Hid (∀ w, Calls Yba.prog 4 #[.int .u8 (pid k), .int .u8 (pinc k)] w fun e w' => e = .returned (.agg #[.int .i64 (P k), .int .u64 (R k)]) ∧ w' = w.alloc (.cells #[.int .i64 (P k), .int .u64 (R k)] 26)) := HC
                        clear hcs k0 k1 l4 hdb
                        obtain ⟨ak, ha⟩ : ∃ a, a = P k := ⟨_, rfl⟩
                        obtain ⟨bk, hb⟩ : ∃ a, a = R k := ⟨_, rfl⟩
                        rw [← ha, ← hb] at HC HF
                        clear ha hb
                        by_cases h1 : ak = c
                        · subst h1
                          by_cases h2 : bk = d
                          · subst h2
                            go_wp2_with fail
                            go_region_held3 (fun w' => w'.cell? ⟨db, doff + k * 2, none⟩ = some (.int .u8 (pid k)) ∧ w'.cell? ⟨db, doff + k * 2 + 1, none⟩ = some (.int .u8 (pinc k)) ∧ w'.cell? ⟨w.heap.size + 1, 0, none⟩ = some (.int .i64 ak) ∧ w'.cell? ⟨w.heap.size + 1, 1, none⟩ = some (.int .u64 bk)) (go_keep) (first | (go_at_call 4; refine (HC.out _).mono ?_; rintro e w' ⟨rfl, rfl⟩))
                            clear f0 f1 g0 g1
                            go_wp2_with fail
                            go_roundg (p - (k + 1))
                            case measure => omega
                            case rel => exact ⟨k + 1, by omega, rfl, by rw [HF.out]; simp, by go_num, HS.out.ext (((Ext.refl _).alloc _).drew)⟩
                          · go_wp2_with fail
                            go_region_held3 (fun w' => w'.cell? ⟨db, doff + k * 2, none⟩ = some (.int .u8 (pid k)) ∧ w'.cell? ⟨db, doff + k * 2 + 1, none⟩ = some (.int .u8 (pinc k)) ∧ w'.cell? ⟨w.heap.size + 1, 0, none⟩ = some (.int .i64 ak) ∧ w'.cell? ⟨w.heap.size + 1, 1, none⟩ = some (.int .u64 d)) (go_keep) (first | (go_at_call 4; refine (HC.out _).mono ?_; rintro e w' ⟨rfl, rfl⟩))
                            clear f0 f1 g0 g1
                            go_wp2_with fail
                            go_roundg (p - (k + 1))
                            case measure => omega
                            case rel => exact ⟨k + 1, by omega, rfl, by rw [HF.out]; simp [h2], by go_num, HS.out.ext (((Ext.refl _).alloc _).drew)⟩
                        · go_wp2_with fail
                          go_region_held3 (fun w' => w'.cell? ⟨db, doff + k * 2, none⟩ = some (.int .u8 (pid k)) ∧ w'.cell? ⟨db, doff + k * 2 + 1, none⟩ = some (.int .u8 (pinc k)) ∧ w'.cell? ⟨w.heap.size + 1, 0, none⟩ = some (.int .i64 c) ∧ w'.cell? ⟨w.heap.size + 1, 1, none⟩ = some (.int .u64 d)) (go_keep) (first | (go_at_call 4; refine (HC.out _).mono ?_; rintro e w' ⟨rfl, rfl⟩))
                          clear f0 f1 g0 g1
                          go_wp2_with fail
                          go_roundg (p - (k + 1))
                          case measure => omega
                          case rel => exact ⟨k + 1, by omega, rfl, by rw [HF.out]; simp [h1], by go_num, HS.out.ext (((Ext.refl _).alloc _).drew)⟩
                      · have hkn : p = k := by omega
                        subst hkn
                        clear hlt hk
                        obtain ⟨hv, hhv⟩ : ∃ x, x = heardAt H t := ⟨_, rfl⟩
                        obtain ⟨av, hav⟩ : ∃ x, x = anyAt P R c d p := ⟨_, rfl⟩
                        rw [← hhv, ← hav]
                        have HHv : Hid (hv = heardAt H t) := hhv
                        have HAv : Hid (av = anyAt P R c d p) := hav
                        clear hhv hav
                        go_upto_region 43 with fail
                        go_cut [28] from 177 to 185 (fun s28 wx => s28 = .bool ((f && !hv) && !av) ∧ L4 w wx (w.heap.size + 1) gd gm n p c d A B H P R pv t n bb u23 u24)
                        case first =>
                          clear HEr HHv HAv
                          cases f <;> cases hv <;> cases av <;> (go_wp2_with fail; go_meet; exact ⟨rfl, l4⟩)
                        case rest =>
                          obtain ⟨rfl, l4⟩ := hcut
                          obtain ⟨ad, had⟩ : ∃ x, x = ((f && !hv) && !av) := ⟨_, rfl⟩
                          rw [← had]
                          have HAd : Hid (ad = ((f && !heardAt H t) && !anyAt P R c d p)) := by rw [← HHv.out, ← HAv.out]; exact had
                          clear had HHv HAv
                          obtain ⟨be, hbe⟩ : ∃ b, b = wc.heap.size := ⟨_, rfl⟩
                          have HBE : Hid (be = wc.heap.size) := hbe
                          clear hbe
                          go_wp2_with (at_make; refine wpList_make_own _ rfl (.const (.int .i64 0)) (.tmp 188) 41 rfl be 26 i26 (.agg #[.int .i64 0, .int .u64 0]) 2 Yba.underlying41 hi26 hz26 hs26 .i64 .i64 _ (p + 1) rfl rfl rfl (by rw [hb26]; omega) (by unfold maxLen; omega) (by rw [HBE.out]; exact Nat.le_refl _) ?_; intro w5 hown5 hgrow5)
                          have l6 := L6.start l4 hgrow5 HBE.out hown5
                          clear hown5 hgrow5 HBE l4
                          go_loopg [29, 30] p (fun q s29 s30 wx => ∃ k : Nat, k ≤ p ∧ q = p - k ∧ s30 = .int .i64 k ∧ L6 w wx (w.heap.size + 1) gd gm n p c d A B H P R pv t bb u23 u24 be s29 ((List.range k).map fun i => (P i, R i)))
                          case atStart => exact ⟨0, Nat.zero_le _, rfl, rfl, l6⟩
                          case round =>
                            clear l6
                            obtain ⟨k, hk, rfl, rfl, l6⟩ := hrel
                            by_cases hlt : k < p
                            · skip
                              obtain ⟨db, doff, rfl, hdb, hcs⟩ := HPI.out (by omega)
                              obtain ⟨k0, k1, _⟩ := hcs k hlt
                              have f0 := (l6.l4.bs.e0.be.cell (p := ⟨db, doff + k * 2, none⟩) hdb).trans k0
                              have f1 := (l6.l4.bs.e0.be.cell (p := ⟨db, doff + k * 2 + 1, none⟩) hdb).trans k1
                              have i1 : (k : Int) < (p : Int) := by omega
                              have hdbb : db < be := by have := l6.l4.lo; have := l6.l4.bs.dm; have := l6.l4.bs.wd; have := l6.le; omega
                              have HFar : Hid (∀ i, liveB u29 = some i → be ≤ i) := fun i hi => (l6.mr.lt i hi).1
                              have hbw : be ≤ wr.heap.size := l6.hi
                              have HS : Hid (L6 w wr (w.heap.size + 1) gd gm n p c d A B H P R pv t bb u23 u24 be u29 ((List.range k).map fun i => (P i, R i))) := l6
                              have HLe : Hid (((List.range k).map fun i => (P i, R i)).length = k) := by show _ = _; simp
                              clear hcs k0 k1 l6
                              go_wp2_with fail
                              go_region_held3 (fun w' => w'.cell? ⟨db, doff + k * 2, none⟩ = some (.int .u8 (pid k)) ∧ w'.cell? ⟨db, doff + k * 2 + 1, none⟩ = some (.int .u8 (pinc k))) (first | (go_keep; done) | exact keep_app g1 ((((Ext.refl _).alloc _).alloc _).drew) f0 f1 HFar.out hdbb hdbb) (first | (refine step_append_row _ rfl (.tmp 196) (.tmp 208) 41 rfl be 26 i26 (.agg #[.int .i64 0, .int .u64 0]) 2 16 Yba.underlying41 hi26 hz26 hs26 hb26 rfl (by decide) u29 ((List.range k).map fun i => (P i, R i)).length (f2 ((List.range k).map fun i => (P i, R i))) ?h1 ?h2 ⟨wr.heap.size + 1, 0, none⟩ 1 1 [.int .i64 (P k), .int .u64 (R k)] ?h3 rfl ?h4 ?h5 (by decide) ?h6 ?h7 ?h8 ?_; (case h1 => simp [Act.eval]); (case h2 => exact (HS.out.mr.alloc _).alloc _); (case h3 => simp [Act.eval]); (case h4 => exact two_new _ _ _ _ _ (by simp)); (case h5 => simp [Value.oneCell']); (case h6 => have := HLe.out; unfold maxLen; omega); (case h7 => have := HLe.out; omega); (case h8 => simp [World.drew]; omega); intro v1 W2 r1 g1 _) | (go_at_call 4; refine (HLs.out k hlt _).mono ?_; rintro e w' ⟨rfl, rfl⟩))
                              have HN : Hid (L6 w W2 (w.heap.size + 1) gd gm n p c d A B H P R pv t bb u23 u24 be v1 ((List.range (k + 1)).map fun i => (P i, R i))) := by
                                have := HS.out.push (x := (P k, R k)) ((((Ext.refl _).alloc _).alloc _).drew) g1 r1
                                show L6 ..
                                rw [List.range_succ, List.map_append]
                                exact this
                              clear f0 f1 r1 g1 HFar HLe
                              go_wp2_with fail
                              go_roundg (p - (k + 1))
                              case measure => omega
                              case rel => exact ⟨k + 1, by omega, rfl, by go_num, HN.out⟩
                            · have hkn : p = k := by omega
                              subst hkn
                              clear hlt hk
                              go_upto_if 210 with fail
                              go_cut [29] from 211 to 219 (fun s29 wx => L6 w wx (w.heap.size + 1) gd gm n p c d A B H P R pv t bb u23 u24 be s29 (wantM ad p P R c d))
                              case first =>
                                clear HAd
                                cases ad with
                                | false =>
                                  go_wp2_with fail
                                  go_meet
                                  case rel => exact l6
                                | true =>
                                  have g0 := l6.l4.bs.e0.w0
                                  have g1 := l6.l4.bs.e0.w1
                                  have hsz := l6.l4.bs.e0.lt
                                  have HLe : Hid (((List.range p).map fun i => (P i, R i)).length = p) := by show _ = _; simp
                                  by_cases h32 : p = 32
                                  · subst h32
                                    obtain ⟨g, off, cap, hu, _, hnc, hcm, _⟩ := l6.mr.at (by rw [HLe.out]; omega)
                                    rw [HLe.out] at hu hnc
                                    subst hu
                                    have hc1 : ¬ cap = 1 := by omega
                                    have HC : Hid (L6 w wr (w.heap.size + 1) gd gm n 32 c d A B H P R pv t bb u23 u24 be (.slice (some ⟨g, off + 2, none⟩) 31 (cap - 1)) (((List.range 32).map fun i => (P i, R i)).drop 1)) := l6.cut (m := 31) HLe.out (some ⟨g, off + 2, none⟩) (by rw [if_neg hc1])
                                    have HLd : Hid ((((List.range 32).map fun i => (P i, R i)).drop 1).length = 31) := by show _ = _; rw [List.length_drop, HLe.out]
                                    have hbw : be ≤ wr.heap.size := l6.hi
                                    clear l6
                                    go_wp2_with (at_builtin; refine wpList_append_row _ rfl (.tmp 216) (.tmp 218) 41 rfl be 26 i26 (.agg #[.int .i64 0, .int .u64 0]) 2 16 Yba.underlying41 hi26 hz26 hs26 hb26 rfl (by decide) (.slice (some ⟨g, off + 2, none⟩) 31 (cap - 1)) (((List.range 32).map fun i => (P i, R i)).drop 1).length (f2 (((List.range 32).map fun i => (P i, R i)).drop 1)) rfl (HC.out.mr.alloc _) ⟨wr.heap.size, 0, none⟩ 1 1 [.int .i64 c, .int .u64 d] rfl rfl ?c1 ?c2 ?c3 ?c4 ?c5 ?c6 ?_)
                                    case c1 => exact two_new _ _ _ _ _ rfl
                                    case c2 => simp [Value.oneCell']
                                    case c3 => decide
                                    case c4 => rw [HLd.out]; unfold maxLen; omega
                                    case c5 => rw [HLd.out]; omega
                                    case c6 => simp; omega
                                    intro v2 W4 r2 g2 _
                                    have HF : Hid (L6 w W4 (w.heap.size + 1) gd gm n 32 c d A B H P R pv t bb u23 u24 be v2 (wantM true 32 P R c d)) := HC.out.push (x := (c, d)) ((Ext.refl _).alloc _) g2 r2
                                    clear r2 g2 HC g0 g1
                                    go_wp2_with fail
                                    go_meet
                                    case rel => exact HF.out
                                  · obtain ⟨a, cc, hu, _, _⟩ := l6.mr.form
                                    rw [HLe.out] at hu
                                    subst hu
                                    have hne : ((p : Int) == 32) = false := beq_eq_false_iff_ne.2 (by omega)
                                    have HC : Hid (L6 w wr (w.heap.size + 1) gd gm n p c d A B H P R pv t bb u23 u24 be (.slice a p cc) ((List.range p).map fun i => (P i, R i))) := l6
                                    have hbw : be ≤ wr.heap.size := l6.hi
                                    have H32 : Hid (¬ p = 32) := h32
                                    clear l6 h32
                                    go_wp2_with (at_builtin; refine wpList_append_row _ rfl (.tmp 216) (.tmp 218) 41 rfl be 26 i26 (.agg #[.int .i64 0, .int .u64 0]) 2 16 Yba.underlying41 hi26 hz26 hs26 hb26 rfl (by decide) (.slice a p cc) ((List.range p).map fun i => (P i, R i)).length (f2 ((List.range p).map fun i => (P i, R i))) rfl (HC.out.mr.alloc _) ⟨wr.heap.size, 0, none⟩ 1 1 [.int .i64 c, .int .u64 d] rfl rfl ?c1 ?c2 ?c3 ?c4 ?c5 ?c6 ?_)
                                    case c1 => exact two_new _ _ _ _ _ rfl
                                    case c2 => simp [Value.oneCell']
                                    case c3 => decide
                                    case c4 => rw [HLe.out]; unfold maxLen; omega
                                    case c5 => rw [HLe.out]; omega
                                    case c6 => simp; omega
                                    intro v2 W4 r2 g2 _
                                    have HF : Hid (L6 w W4 (w.heap.size + 1) gd gm n p c d A B H P R pv t bb u23 u24 be v2 (wantM true p P R c d)) := by
                                      have := HC.out.push (x := (c, d)) ((Ext.refl _).alloc _) g2 (by rw [HLe.out]; exact r2)
                                      show L6 ..
                                      unfold wantM
                                      rw [if_pos rfl, if_neg H32.out]
                                      exact this
                                    clear r2 g2 HC g0 g1
                                    go_wp2_with fail
                                    go_meet
                                    case rel => exact HF.out
                              case rest =>
                                have l6 := hcut
                                clear hcut hi26 hz26 hs26 hb26 hi4 hz4 hs4 hb4
                                go_upto_region 54 with fail
                                refine wp_build106 rfl ?_
                                go_upto_region 54 with (refine wp_box106 _ rfl rfl ?_)
                                obtain ⟨T, hT⟩ : ∃ T, T = wc.heap.size := ⟨_, rfl⟩
                                obtain ⟨W0, hW0⟩ : ∃ W0, W0 = wc.alloc (.cells Yba.zeroCells106 106) := ⟨_, rfl⟩
                                have tb : TB W0 T 0 (.slice none 0 0) (.slice none 0 0) := by rw [hW0, hT]; exact train_new wc
                                have HE0 : Hid (Ext wc W0) := by rw [hW0]; exact (Ext.refl wc).alloc _
                                have HT0 : Hid (T = wc.heap.size) := hT
                                have HL6 : Hid (L6 w wc (w.heap.size + 1) gd gm n p c d A B H P R pv t bb u23 u24 be u29 (wantM ad p P R c d)) := l6
                                rw [← hT, ← hW0]
                                have c33 := tb.d
                                have c36 := tb.m
                                have y33 := tb.fz 33
                                have y36 := tb.fz 36
                                have HTB : Hid (TB W0 T 0 (.slice none 0 0) (.slice none 0 0)) := tb
                                clear hT hW0 tb l6
                                go_upto_region 56 with fail
                                obtain ⟨W1, hW1⟩ : ∃ W1, W1 = (W0.setCell ⟨T, 33, none⟩ (.slice (some ⟨gd, 0, none⟩) n n)).setCell ⟨T, 36, none⟩ (.slice (some ⟨gm, 0, none⟩) p p) := ⟨_, rfl⟩
                                rw [← hW1]
                                have tb1 : TB W1 T 0 (.slice (some ⟨gd, 0, none⟩) n n) (.slice (some ⟨gm, 0, none⟩) p p) := by rw [hW1]; exact (HTB.out.setD _).setM _
                                have HE1 : Hid (Ext wc W1) := by
                                  rw [hW1]
                                  have hT := HT0.out
                                  exact Chg.trans (Chg.trans HE0.out (Chg.setCell W0 ⟨T, 33, none⟩ _) (fun i hi (e : i = T) => by omega)) (Chg.setCell _ ⟨T, 36, none⟩ _) (fun i hi (e : i = T) => by omega)
                                have l6 := HL6.out.ext HE1.out
                                have g0 := l6.l4.bs.e0.w0
                                have g1 := l6.l4.bs.e0.w1
                                have HPre : Hid (LPre W1 T w.heap.size gd n gm p A B H P R (fun _ => .iface 113 (.pointer (some ⟨pv, 0, none⟩)))) := by
                                  have hT := HT0.out
                                  have h1 := HL6.out.l4.bs.ml
                                  have h2 := HL6.out.l4.bs.dm
                                  have h3 := l6.l4.bs.ml
                                  exact ⟨tb1, l6.l4.bs.dr, l6.l4.bs.mr, fun _ => .inr ⟨_, _, rfl⟩, hn, hp, by omega, by omega, by omega, l6.l4.bs.e0.size, by omega, by omega⟩
                                clear hW1 tb1 l6 c33 c36 y33 y36 HTB HE0
                                go_wp2_with fail
                                refine (link_all HPre.out c d f u12 HEr.out).mono ?_
                                rintro e w7 ⟨rfl, hpost⟩
                                obtain ⟨dv, mv, ml, F⟩ := fin_of HL6.out HT0.out HE1.out HT.out HAd.out hpost
                                clear hpost g0 g1 HPre HL6 HT0 HE1
                                obtain ⟨kl, hkl⟩ : ∃ kl, kl = keepL t n := ⟨_, rfl⟩
                                obtain ⟨L, hL⟩ : ∃ L, L = wantM ad p P R c d := ⟨_, rfl⟩
                                rw [← hkl, ← hL] at F
                                have hm1 : kl.length ≤ 1024 := by rw [hkl]; have := keepL_le t n; omega
                                have hr1 : L.length ≤ 1025 := by
                                  rw [hL]; unfold wantM
                                  split
                                  · split <;> simp <;> omega
                                  · simp; omega
                                clear hkl hL
                                obtain ⟨m, hm⟩ : ∃ m, m = kl.length := ⟨_, rfl⟩
                                obtain ⟨r, hr⟩ : ∃ r, r = L.length := ⟨_, rfl⟩
                                obtain ⟨da, dc, rfl, _, _⟩ := F.dr.form
                                obtain ⟨ma, mc, rfl, _, _⟩ := F.mr.form
                                obtain ⟨_, hx1⟩ := F.wr
                                obtain ⟨wa, wcp, rfl, _, _⟩ := hx1.form
                                obtain ⟨_, hx2⟩ := F.hr
                                obtain ⟨ha, hc, rfl, _, _⟩ := hx2.form
                                obtain ⟨_, hx3⟩ := F.xr
                                obtain ⟨xa, xc, rfl, _, _⟩ := hx3.form
                                rw [← hm] at F hm1 ⊢
                                rw [← hr] at F hr1 ⊢
                                clear hx1 hx2 hx3 hm hr
                                have c33 := F.tb.d
                                have HF : Hid (Fin7 w w7 T w.heap.size (.slice da m dc) (.slice ma r mc) (.slice wa m wcp) (.slice ha m hc) (.slice xa r xc) kl A B H ml L ad u12 pv) := F
                                clear F
                                go_wp2_with fail
                                clear c33
                                go_loopg [32] m (fun q s32 wx => ∃ k : Nat, k ≤ m ∧ q = m - k ∧ s32 = .int .i64 k ∧ Fin7 w wx T w.heap.size (.slice da m dc) (.slice ma r mc) (.slice wa m wcp) (.slice ha m hc) (.slice xa r xc) kl A B H ml L ad u12 pv)
                                case atStart => exact ⟨0, Nat.zero_le _, rfl, rfl, HF.out⟩
                                case round =>
                                  clear HF
                                  obtain ⟨k, hk, rfl, rfl, F⟩ := hrel
                                  by_cases hlt : k < m
                                  · skip
                                    obtain ⟨x, y, h, g, o, g2, o2, g3, o3, rfl, rfl, rfl, a0, a1, a2, b0, b1, b2⟩ := F.at7 hlt
                                    have c33 := F.tb.d
                                    have i1 : (k : Int) < (m : Int) := by omega
                                    have HF : Hid (Fin7 w wr T w.heap.size (.slice (some ⟨g, o, none⟩) m dc) (.slice ma r mc) (.slice (some ⟨g2, o2, none⟩) m wcp) (.slice (some ⟨g3, o3, none⟩) m hc) (.slice xa r xc) kl A B H ml L ad u12 pv) := F
                                    clear F
                                    go_wp2_with fail
                                    go_quiet (fail)
                                    clear c33 a0 a1 a2 b0 b1 b2
                                    go_wp2_with fail
                                    go_roundg (m - (k + 1))
                                    case measure => omega
                                    case rel => exact ⟨k + 1, by omega, rfl, by go_num, HF.out.drewN _⟩
                                  · have hkn : m = k := by omega
                                    subst hkn
                                    clear hlt hk
                                    have c36 := F.tb.m
                                    have HF : Hid (Fin7 w wr T w.heap.size (.slice da m dc) (.slice ma r mc) (.slice wa m wcp) (.slice ha m hc) (.slice xa r xc) kl A B H ml L ad u12 pv) := F
                                    clear F
                                    go_wp2_with fail
                                    clear c36
                                    go_loopg [34] r (fun q s34 wx => ∃ k : Nat, k ≤ r ∧ q = r - k ∧ s34 = .int .i64 k ∧ Fin7 w wx T w.heap.size (.slice da m dc) (.slice ma r mc) (.slice wa m wcp) (.slice ha m hc) (.slice xa r xc) kl A B H ml L ad u12 pv)
                                    case atStart => exact ⟨0, Nat.zero_le _, rfl, rfl, HF.out⟩
                                    case round =>
                                      clear HF
                                      obtain ⟨k, hk, rfl, rfl, F⟩ := hrel
                                      by_cases hlt : k < r
                                      · skip
                                        obtain ⟨x, y, v, g, o, g2, o2, rfl, rfl, a0, a1, a2, b0, b1, hv⟩ := F.at8 hlt
                                        have i1 : (k : Int) < (r : Int) := by omega
                                        have HF : Hid (Fin7 w wr T w.heap.size (.slice da m dc) (.slice (some ⟨g, o, none⟩) r mc) (.slice wa m wcp) (.slice ha m hc) (.slice (some ⟨g2, o2, none⟩) r xc) kl A B H ml L ad u12 pv) := F
                                        clear F
                                        by_cases hl : ad = true ∧ k + 1 = r
                                        · obtain ⟨had, hl⟩ := hl
                                          obtain ⟨ub, rfl, hub⟩ := hv.1 had hl
                                          have hfl : f = true := by
                                            have := HAd.out
                                            rw [had] at this
                                            cases f with
                                            | true => rfl
                                            | false => simp at this
                                          have hev : ∃ j : Nat, u12 = .iface 113 (.pointer (some ⟨j, 0, none⟩)) := by
                                            rcases HEr.out with ⟨h, _⟩ | ⟨_, j, h⟩
                                            · rw [hfl] at h; cases h
                                            · exact ⟨j, h⟩
                                          obtain ⟨j, rfl⟩ := hev
                                          subst had
                                          have hneq := neq29 j
                                          have hta := ta108 ub
                                          have hsub : (r : Int) - 1 = (k : Int) := by omega
                                          clear hv hfl HAd
                                          go_wp2_with fail
                                          go_quiet (fail)
                                          go_wp2_with fail
                                          clear a0 a1 a2 b0 b1 hub hneq hta
                                          go_roundg (r - (k + 1))
                                          case measure => omega
                                          case rel => exact ⟨k + 1, by omega, rfl, by go_num, HF.out.drewN _⟩
                                        · have hv2 := hv.2 hl
                                          subst hv2
                                          have hneq := neq29 pv
                                          cases ad with
                                          | false =>
                                            clear hv hl HAd
                                            go_wp2_with fail
                                            go_quiet (fail)
                                            go_wp2_with fail
                                            clear a0 a1 a2 b0 b1 hneq
                                            go_roundg (r - (k + 1))
                                            case measure => omega
                                            case rel => exact ⟨k + 1, by omega, rfl, by go_num, HF.out.drewN _⟩
                                          | true =>
                                            have hsub : ((k : Int) == (r : Int) - 1) = false := beq_eq_false_iff_ne.2 (fun e => hl ⟨rfl, by omega⟩)
                                            clear hv hl HAd
                                            go_wp2_with fail
                                            go_quiet (fail)
                                            go_wp2_with fail
                                            clear a0 a1 a2 b0 b1 hneq
                                            go_roundg (r - (k + 1))
                                            case measure => omega
                                            case rel => exact ⟨k + 1, by omega, rfl, by go_num, HF.out.drewN _⟩
                                      · have hkn : r = k := by omega
                                        subst hkn
                                        clear hlt hk
                                        have HF : Hid (Fin7 w wr T w.heap.size (.slice da m dc) (.slice ma r mc) (.slice wa m wcp) (.slice ha m hc) (.slice xa r xc) kl A B H ml L ad u12 pv) := F
                                        clear F
                                        go_wp2_with fail
                                        go_ret
                                        exact ⟨rfl, HF.out.be⟩
end Go.Proofs.Ybulkbiqo
