/-
  The local queue's state, and its methods' contracts (one goroutine).
-/
import Derived.Test.YbulkbikcLocks
import Derived.Test.YbulkbikcGq
import Derived.Defers
namespace Go.Proofs.Ybulkbikc
open Go Go.RowKit Go.MuLone

/-- A job, as the law makes it. -/
def Job (v : Value) : Prop := ∃ k : Nat, v = .iface 73 (.pointer (some ⟨k, 0, none⟩))

/-- The queue's cells. -/
structure LQ (w : World) (b : Nat) (l : Int) (nx : Value) (rg : Nat → Value) (hd tl : Int) (dr : Bool) : Prop where
  mu : w.cell? ⟨b, 0, none⟩ = some (.int .i32 l)
  next : w.cell? ⟨b, 2, none⟩ = some nx
  ring : ∀ i, i < 256 → w.cell? ⟨b, 3 + i, none⟩ = some (rg i)
  head : w.cell? ⟨b, 259, none⟩ = some (.int .u32 hd)
  tail : w.cell? ⟨b, 260, none⟩ = some (.int .u32 tl)
  drained : w.cell? ⟨b, 261, none⟩ = some (.bool dr)
  fz : ∀ j, w.frozen? ⟨b, j, none⟩ = false

section
variable {w : World} {b : Nat} {l : Int} {nx : Value} {rg : Nat → Value} {hd tl : Int} {dr : Bool}

theorem LQ.lt (h : LQ w b l nx rg hd tl dr) : b < w.heap.size := World.block_lt_of_cell? _ _ h.mu
theorem LQ.kept {w' : World} {p : Nat → Prop} (h : LQ w b l nx rg hd tl dr) (hc : Chg w w' p) (hp : ¬ p b) : LQ w' b l nx rg hd tl dr := by
  have hb := hc.block b h.lt hp
  have hcell : ∀ j, w'.cell? ⟨b, j, none⟩ = w.cell? ⟨b, j, none⟩ := fun j => World.cell?_of_block hb
  have hfz : ∀ j, w'.frozen? ⟨b, j, none⟩ = w.frozen? ⟨b, j, none⟩ := fun j => World.frozen?_of_block hb
  exact ⟨(hcell _).trans h.mu, (hcell _).trans h.next, fun i hi => (hcell _).trans (h.ring i hi), (hcell _).trans h.head, (hcell _).trans h.tail, (hcell _).trans h.drained, fun j => (hfz j).trans (h.fz j)⟩

theorem other (w : World) (b i j : Nat) (v : Value) (h : i ≠ j) : (w.setCell ⟨b, i, none⟩ v).cell? ⟨b, j, none⟩ = w.cell? ⟨b, j, none⟩ := World.cell?_setCell_other w ⟨b, i, none⟩ ⟨b, j, none⟩ v (fun e => h (congrArg Addr.off e))

theorem LQ.setMu (h : LQ w b l nx rg hd tl dr) (l' : Int) : LQ (w.setCell ⟨b, 0, none⟩ (.int .i32 l')) b l' nx rg hd tl dr :=
  ⟨World.cell?_setCell_same _ _ _ h.mu, (other _ _ _ _ _ (by omega)).trans h.next, fun i hi => (other _ _ _ _ _ (by omega)).trans (h.ring i hi), (other _ _ _ _ _ (by omega)).trans h.head, (other _ _ _ _ _ (by omega)).trans h.tail, (other _ _ _ _ _ (by omega)).trans h.drained, fun j => by simpa using h.fz j⟩
theorem LQ.setNext (h : LQ w b l nx rg hd tl dr) (v : Value) : LQ (w.setCell ⟨b, 2, none⟩ v) b l v rg hd tl dr :=
  ⟨(other _ _ _ _ _ (by omega)).trans h.mu, World.cell?_setCell_same _ _ _ h.next, fun i hi => (other _ _ _ _ _ (by omega)).trans (h.ring i hi), (other _ _ _ _ _ (by omega)).trans h.head, (other _ _ _ _ _ (by omega)).trans h.tail, (other _ _ _ _ _ (by omega)).trans h.drained, fun j => by simpa using h.fz j⟩
theorem LQ.setHead (h : LQ w b l nx rg hd tl dr) (x : Int) : LQ (w.setCell ⟨b, 259, none⟩ (.int .u32 x)) b l nx rg x tl dr :=
  ⟨(other _ _ _ _ _ (by omega)).trans h.mu, (other _ _ _ _ _ (by omega)).trans h.next, fun i hi => (other _ _ _ _ _ (by omega)).trans (h.ring i hi), World.cell?_setCell_same _ _ _ h.head, (other _ _ _ _ _ (by omega)).trans h.tail, (other _ _ _ _ _ (by omega)).trans h.drained, fun j => by simpa using h.fz j⟩
theorem LQ.setTail (h : LQ w b l nx rg hd tl dr) (x : Int) : LQ (w.setCell ⟨b, 260, none⟩ (.int .u32 x)) b l nx rg hd x dr :=
  ⟨(other _ _ _ _ _ (by omega)).trans h.mu, (other _ _ _ _ _ (by omega)).trans h.next, fun i hi => (other _ _ _ _ _ (by omega)).trans (h.ring i hi), (other _ _ _ _ _ (by omega)).trans h.head, World.cell?_setCell_same _ _ _ h.tail, (other _ _ _ _ _ (by omega)).trans h.drained, fun j => by simpa using h.fz j⟩
theorem LQ.setDrained (h : LQ w b l nx rg hd tl dr) (x : Bool) : LQ (w.setCell ⟨b, 261, none⟩ (.bool x)) b l nx rg hd tl x :=
  ⟨(other _ _ _ _ _ (by omega)).trans h.mu, (other _ _ _ _ _ (by omega)).trans h.next, fun i hi => (other _ _ _ _ _ (by omega)).trans (h.ring i hi), (other _ _ _ _ _ (by omega)).trans h.head, (other _ _ _ _ _ (by omega)).trans h.tail, World.cell?_setCell_same _ _ _ h.drained, fun j => by simpa using h.fz j⟩
theorem LQ.setRing (h : LQ w b l nx rg hd tl dr) (k : Nat) (hk : k < 256) (v : Value) : LQ (w.setCell ⟨b, 3 + k, none⟩ v) b l nx (fun i => if i = k then v else rg i) hd tl dr := by
  refine ⟨(other _ _ _ _ _ (by omega)).trans h.mu, (other _ _ _ _ _ (by omega)).trans h.next, fun i hi => ?_, (other _ _ _ _ _ (by omega)).trans h.head, (other _ _ _ _ _ (by omega)).trans h.tail, (other _ _ _ _ _ (by omega)).trans h.drained, fun j => by simpa using h.fz j⟩
  by_cases e : i = k
  · subst e; rw [World.cell?_setCell_same _ _ _ (h.ring i hi)]; simp
  · rw [other _ _ _ _ _ (by omega), h.ring i hi]; simp [e]
end

/-- The queue as the law's model sees it: is the runs-next slot set, how many lie in the ring, is it drained. -/
def Q (w : World) (b : Nat) (l : Int) (s : Bool) (n : Nat) (dr : Bool) : Prop :=
  ∃ nx rg, ∃ hd : Nat, LQ w b l nx rg hd (((hd + n) % 4294967296 : Nat) : Int) dr ∧ hd < 4294967296 ∧ n ≤ 256 ∧ (s = true → Job nx) ∧ (s = false → nx = .nilIface) ∧ ∀ i, i < n → Job (rg ((hd + i) % 256))

theorem Q.kept {w w' : World} {b : Nat} {l : Int} {s : Bool} {n : Nat} {dr : Bool} {p : Nat → Prop} (h : Q w b l s n dr) (hc : Chg w w' p) (hp : ¬ p b) : Q w' b l s n dr := by
  obtain ⟨nx, rg, hd, h, r⟩ := h
  exact ⟨nx, rg, hd, h.kept hc hp, r⟩
theorem Q.lt {w : World} {b : Nat} {l : Int} {s : Bool} {n : Nat} {dr : Bool} (h : Q w b l s n dr) : b < w.heap.size := by
  obtain ⟨nx, rg, hd, h, r⟩ := h
  exact h.lt

theorem loadU32 (b off : Nat) (x : Int) (w : World) (hc : w.cell? ⟨b, off, none⟩ = some (.int .u32 x)) :
    Calls Yba.prog 38 #[.pointer (some ⟨b, off, none⟩)] w fun e w' => e = .returned (.int .u32 x) ∧ w' = w := by
  have hl := run_call_load (P := Yba.prog) Yba.func47 (by kernel_rfl) (by kernel_rfl) (by kernel_rfl) .u32 (by kernel_rfl) hc
  go_enter Yba.func38, Yba.ntmps38
  go_wp2
  go_ret
  exact ⟨rfl, rfl⟩

theorem storeU32 (b off : Nat) (u : Value) (y : Int) (w : World) (hc : w.cell? ⟨b, off, none⟩ = some u) (hz : w.frozen? ⟨b, off, none⟩ = false) :
    Calls Yba.prog 12 #[.pointer (some ⟨b, off, none⟩), .int .u32 y] w fun e w' => e = .returned (.tuple #[]) ∧ w' = w.setCell ⟨b, off, none⟩ (.int .u32 y) := by
  have hl := run_call_store (P := Yba.prog) Yba.func24 (by kernel_rfl) (by kernel_rfl) (by kernel_rfl) (by kernel_rfl) (k := .u32) (y := y) hc hz
  go_enter Yba.func12, Yba.ntmps12
  go_wp2
  go_end0
  exact ⟨rfl, rfl⟩

theorem qLock {w : World} {b : Nat} {s : Bool} {n : Nat} {dr : Bool} (h : Q w b 0 s n dr) :
    Calls Yba.prog 25 #[.pointer (some ⟨b, 0, none⟩)] w fun e w' => e = .returned (.tuple #[]) ∧ Q w' b 1 s n dr ∧ Chg w w' (fun k => k = b) := by
  obtain ⟨nx, rg, hd, h, r⟩ := h
  refine (lock_free Yba.muLib ⟨b, 0, none⟩ w h.mu (h.fz 0)).mono ?_
  rintro e w' ⟨rfl, rfl⟩
  exact ⟨rfl, ⟨nx, rg, hd, h.setMu 1, r⟩, Chg.setCell _ _ _⟩

theorem qUnlock {w : World} {b : Nat} {s : Bool} {n : Nat} {dr : Bool} (u : FrameMode) (h : Q w b 1 s n dr) :
    CallsD Yba.prog 26 #[.pointer (some ⟨b, 0, none⟩)] u w fun e u' w' => u' = u ∧ (e = .returned (.tuple #[]) ∧ Q w' b 0 s n dr ∧ Chg w w' (fun k => k = b)) := by
  obtain ⟨nx, rg, hd, h, r⟩ := h
  refine (unlock_deferred Yba.muLib ⟨b, 0, none⟩ u w h.mu (h.fz 0)).mono ?_
  rintro e u' w' ⟨rfl, rfl, rfl⟩
  exact ⟨rfl, rfl, ⟨nx, rg, hd, h.setMu 0, r⟩, Chg.setCell _ _ _⟩

theorem ret_int {k : IntKind} {a b : Int} (h : a = b) : Ending.returned (.int k a) = .returned (.int k b) := by rw [h]

/-- ringLen -/
theorem ringLen {w : World} {b : Nat} {l : Int} {s : Bool} {n : Nat} {dr : Bool} (h : Q w b l s n dr) :
    Calls Yba.prog 27 #[.pointer (some ⟨b, 0, none⟩)] w fun e w' => e = .returned (.int .i64 n) ∧ w' = w := by
  obtain ⟨nx, rg, hd, h, hhd, hn, _⟩ := h
  have hh := h.head
  have ht := h.tail
  obtain ⟨t, htt⟩ : ∃ t : Nat, t = (hd + n) % 4294967296 := ⟨_, rfl⟩
  rw [← htt] at ht h
  go_enter Yba.func27, Yba.ntmps27
  go_wp2_with (first | (go_at_call 38; refine (loadU32 b 259 _ _ hh).mono ?_; rintro e w' ⟨rfl, rfl⟩) | (go_at_call 38; refine (loadU32 b 260 _ _ ht).mono ?_; rintro e w' ⟨rfl, rfl⟩))
  go_ret
  exact ⟨ret_int (by omega), rfl⟩

/-- pushLocked -/
theorem pushLocked {w : World} {b : Nat} {l : Int} {s : Bool} {n : Nat} {dr : Bool} (h : Q w b l s n dr) (hn : n < 256) {j : Value} (hj : Job j) :
    Calls Yba.prog 28 #[.pointer (some ⟨b, 0, none⟩), j] w fun e w' => e = .returned (.tuple #[]) ∧ Q w' b l s (n + 1) dr ∧ Chg w w' (fun k => k = b) := by
  obtain ⟨nx, rg, hd, h, hhd, _, h1, h2, h3⟩ := h
  obtain ⟨jk, rfl⟩ := hj
  obtain ⟨t, htt⟩ : ∃ t : Nat, t = (hd + n) % 4294967296 := ⟨_, rfl⟩
  obtain ⟨k, hk⟩ : ∃ k : Nat, k = t % 256 := ⟨_, rfl⟩
  have hk256 : k < 256 := by omega
  have hmod : (t : Int) % 256 = (k : Int) := by omega
  have hkd : k = (hd + n) % 256 := by omega
  have htb : (t : Int) ≤ 4294967295 := by omega
  have ht1 : ((t : Int) + 1) % 4294967296 = (((hd + (n + 1)) % 4294967296 : Nat) : Int) := by omega
  rw [← htt] at h
  have ht := h.tail
  have hr := h.ring k hk256
  have hf := h.fz (3 + k)
  have fin : Q ((w.setCell ⟨b, 3 + k, none⟩ (.iface 73 (.pointer (some ⟨jk, 0, none⟩)))).setCell ⟨b, 260, none⟩ (.int .u32 (((t : Int) + 1) % 4294967296))) b l s (n + 1) dr := by
    rw [ht1]
    refine ⟨nx, _, hd, (h.setRing k hk256 _).setTail _, hhd, by omega, h1, h2, fun i hi => ?_⟩
    by_cases e : i = n
    · subst e; simp only [hkd, if_true]; exact ⟨jk, rfl⟩
    · rw [if_neg (by omega)]; exact h3 i (by omega)
  have H : Hid (Q ((w.setCell ⟨b, 3 + k, none⟩ (.iface 73 (.pointer (some ⟨jk, 0, none⟩)))).setCell ⟨b, 260, none⟩ (.int .u32 (((t : Int) + 1) % 4294967296))) b l s (n + 1) dr) := fin
  clear fin h1 h2 h3 hkd htt hk ht1
  go_enter Yba.func28, Yba.ntmps28
  go_wp2_with (first | (go_at_call 38; refine (loadU32 b 260 _ _ ht).mono ?_; rintro e w' ⟨rfl, rfl⟩) | (go_at_call 12; refine (storeU32 b 260 _ _ _ (h.setRing k hk256 _).tail ((h.setRing k hk256 _).fz 260)).mono ?_; rintro e w' ⟨rfl, rfl⟩))
  go_end0
  exact ⟨rfl, H.out, ((Chg.refl _ _).trans (Chg.setCell _ _ _) (fun _ _ h => h)).trans (Chg.setCell _ _ _) (fun _ _ h => h)⟩

/-- popRingLocked, the ring empty -/
theorem popRing0 {w : World} {b : Nat} {l : Int} {s : Bool} {dr : Bool} (h : Q w b l s 0 dr) :
    Calls Yba.prog 29 #[.pointer (some ⟨b, 0, none⟩)] w fun e w' => e = .returned .nilIface ∧ w' = w := by
  obtain ⟨nx, rg, hd, h, hhd, _⟩ := h
  have hh := h.head
  have ht := h.tail
  rw [show (hd + 0) % 4294967296 = hd from by omega] at ht
  go_enter Yba.func29, Yba.ntmps29
  go_wp2_with (go_at_call 38; first | (refine (loadU32 b 259 _ _ hh).mono ?_; rintro e w' ⟨rfl, rfl⟩) | (refine (loadU32 b 260 _ _ ht).mono ?_; rintro e w' ⟨rfl, rfl⟩))
  go_ret
  exact ⟨rfl, rfl⟩

/-- popRingLocked, the ring not empty -/
theorem popRing1 {w : World} {b : Nat} {l : Int} {s : Bool} {n : Nat} {dr : Bool} (h : Q w b l s (n + 1) dr) :
    Calls Yba.prog 29 #[.pointer (some ⟨b, 0, none⟩)] w fun e w' => ∃ j : Nat, e = .returned (.iface 73 (.pointer (some ⟨j, 0, none⟩))) ∧ Q w' b l s n dr ∧ Chg w w' (fun k => k = b) := by
  obtain ⟨nx, rg, hd, h, hhd, hn, h1, h2, h3⟩ := h
  obtain ⟨t, htt⟩ : ∃ t : Nat, t = (hd + (n + 1)) % 4294967296 := ⟨_, rfl⟩
  obtain ⟨k, hk⟩ : ∃ k : Nat, k = hd % 256 := ⟨_, rfl⟩
  have hk256 : k < 256 := by omega
  have hmod : (hd : Int) % 256 = (k : Int) := by omega
  have htb : (hd : Int) ≤ 4294967295 := by omega
  have hne : ((hd : Int) == (t : Int)) = false := beq_eq_false_iff_ne.2 (by omega)
  have ht1 : ((hd : Int) + 1) % 4294967296 = (((hd + 1) % 4294967296 : Nat) : Int) := by omega
  obtain ⟨j, hj⟩ := h3 0 (by omega)
  rw [show (hd + 0) % 256 = k from by omega] at hj
  rw [← htt] at h
  have hh := h.head
  have ht := h.tail
  have hr := h.ring k hk256
  rw [hj] at hr
  have hf := h.fz (3 + k)
  have fin : Q ((w.setCell ⟨b, 3 + k, none⟩ .nilIface).setCell ⟨b, 259, none⟩ (.int .u32 (((hd : Int) + 1) % 4294967296))) b l s n dr := by
    rw [ht1]
    refine ⟨nx, fun i => if i = k then .nilIface else rg i, (hd + 1) % 4294967296, ?_, by omega, by omega, h1, h2, fun i hi => ?_⟩
    · rw [show ((hd + 1) % 4294967296 + n) % 4294967296 = t from by omega]
      exact (h.setRing k hk256 _).setHead _
    · show Job (if _ then _ else _)
      rw [if_neg (by omega), show ((hd + 1) % 4294967296 + i) % 256 = (hd + (i + 1)) % 256 from by omega]; exact h3 (i + 1) (by omega)
  have H : Hid (Q ((w.setCell ⟨b, 3 + k, none⟩ .nilIface).setCell ⟨b, 259, none⟩ (.int .u32 (((hd : Int) + 1) % 4294967296))) b l s n dr) := fin
  clear fin h1 h2 h3 htt hk ht1 hj
  go_enter Yba.func29, Yba.ntmps29
  go_wp2_with (first | (go_at_call 38; first | (refine (loadU32 b 259 _ _ hh).mono ?_; rintro e w' ⟨rfl, rfl⟩) | (refine (loadU32 b 260 _ _ ht).mono ?_; rintro e w' ⟨rfl, rfl⟩)) | (go_at_call 12; refine (storeU32 b 259 _ _ _ (h.setRing k hk256 _).head ((h.setRing k hk256 _).fz 259)).mono ?_; rintro e w' ⟨rfl, rfl⟩))
  go_ret
  exact ⟨j, rfl, H.out, ((Chg.refl _ _).trans (Chg.setCell _ _ _) (fun _ _ h => h)).trans (Chg.setCell _ _ _) (fun _ _ h => h)⟩
end Go.Proofs.Ybulkbikc
