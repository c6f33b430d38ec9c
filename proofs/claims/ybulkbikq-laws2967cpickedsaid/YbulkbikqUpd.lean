/-
  toUpdate and zzs2967ccheck: one contract each.
-/
import Derived.Test.YbulkbikqRows
import Derived.WalkKit
import Derived.WalkSpells
namespace Go.Proofs.Ybulkbikq
open Go Go.RowKit

/-- Of the first k versions the indices of those that are not t. -/
def pend (ss : Nat → ByteArray) (t : ByteArray) (k : Nat) : List Nat := (List.range k).filter fun i => !((ss i).toList == t.toList)

theorem pend_zero (ss : Nat → ByteArray) (t : ByteArray) : pend ss t 0 = [] := rfl
theorem pend_hit {ss : Nat → ByteArray} {t : ByteArray} {k : Nat} (h : ((ss k).toList == t.toList) = false) : pend ss t (k + 1) = pend ss t k ++ [k] := by
  unfold pend; rw [List.range_succ, List.filter_append]; simp [h]
theorem pend_miss {ss : Nat → ByteArray} {t : ByteArray} {k : Nat} (h : ((ss k).toList == t.toList) = true) : pend ss t (k + 1) = pend ss t k := by
  unfold pend; rw [List.range_succ, List.filter_append]; simp [h]
theorem pend_le (ss : Nat → ByteArray) (t : ByteArray) (k : Nat) : (pend ss t k).length ≤ k := by
  unfold pend
  exact Nat.le_trans (List.length_filter_le _ _) (by simp)
theorem pend_prefix (ss : Nat → ByteArray) (t : ByteArray) (k m : Nat) : ∃ r, pend ss t (k + m) = pend ss t k ++ r := by
  induction m with
  | zero => exact ⟨[], by simp⟩
  | succ m ih =>
    obtain ⟨r, hr⟩ := ih
    cases h : ((ss (k + m)).toList == t.toList) with
    | true => exact ⟨r, by rw [← Nat.add_assoc, pend_miss h, hr]⟩
    | false => exact ⟨r ++ [k + m], by rw [← Nat.add_assoc, pend_hit h, hr, List.append_assoc]⟩
/-- Where the k-th version is none of t it stands in the whole list at the place that the count says. -/
theorem pend_at {ss : Nat → ByteArray} {t : ByteArray} {k n : Nat} (hk : k < n) (h : ((ss k).toList == t.toList) = false) : (pend ss t n)[(pend ss t k).length]? = some k := by
  obtain ⟨r, hr⟩ := pend_prefix ss t (k + 1) (n - (k + 1))
  rw [show k + 1 + (n - (k + 1)) = n from by omega, pend_hit h] at hr
  rw [hr, List.append_assoc, List.getElem?_append_right (Nat.le_refl _)]
  simp

def ints (l : List Nat) : List Value := l.map fun i : Nat => Value.int .i64 i

theorem info3 : (Yba.prog.info? 3).map (fun i => (i.zero, i.size, i.bytes)) = some (some (.int .i64 0), 1, 8) := by kernel_rfl
theorem info9 : (Yba.prog.info? 9).map (fun i => (i.zero, i.size, i.bytes)) = some (some (.string ByteArray.empty), 1, 16) := by kernel_rfl

theorem one_new (w : World) (x : Value) (t : TypeId) : ∀ (j : Nat) (u : Value), [x][j]? = some u → (w.alloc (.cells #[x] t)).cell? ((⟨w.heap.size, 0, none⟩ : Addr).add j) = some u := by
  intro j u hj
  match j, hj with
  | 0, hj => simp at hj; subst hj; simp [Addr.add]

/-- toUpdate of an empty slice -/
theorem upd0 (ao : Option Addr) (cap : Nat) (t : ByteArray) (w : World) :
    Calls Yba.prog 10 #[.slice ao 0 cap, .string t] w fun e w' => e = .returned (.slice none 0 0) ∧ w' = w := by
  go_enter Yba.func10, Yba.ntmps10
  go_wp2
  refine wp_loop_rounds 1 ?_
  rw [rounds_succ]
  go_wp2
  go_ret
  exact ⟨rfl, rfl⟩

/-- toUpdate -/
theorem upd (b off len cap : Nat) (ss : Nat → ByteArray) (t : ByteArray) (w : World) (hpos : 0 < len) (hlen : len ≤ 4096) (hc : ∀ i, i < len → w.cell? ⟨b, off + i, none⟩ = some (.string (ss i))) :
    Calls Yba.prog 10 #[.slice (some ⟨b, off, none⟩) len cap, .string t] w fun e w' => ∃ v, e = .returned v ∧ w'.ownsRow w.heap.size 3 1 v (pend ss t len).length (ints (pend ss t len)) ∧ Below w.heap.size w w' ∧
      (pend ss t len = [] → v = .slice none 0 0) := by
  have hbB : b < w.heap.size := World.block_lt_of_cell? _ _ (hc 0 hpos)
  obtain ⟨i0, hi, hz0, hz1, hz2⟩ := info_parts info3
  go_enter Yba.func10, Yba.ntmps10
  go_wp2
  go_loopw [5, 10] (fun v i wr => ∃ k : Nat, k ≤ len ∧ i = .int .i64 k ∧ wr.ownsRow w.heap.size 3 1 v (pend ss t k).length (ints (pend ss t k)) ∧ Below w.heap.size w wr ∧ (pend ss t k = [] → v = .slice none 0 0))
    (fun _ i _ => len - (intOf i).toNat)
  case atStart => exact ⟨0, Nat.zero_le _, rfl, World.ownsRow_nil _ _ _ _, Below.refl _ _, fun _ => rfl⟩
  case round =>
    obtain ⟨k, hk, rfl, hown, hbe, hnil⟩ := hrel
    have hpl := pend_le ss t k
    have hsz : w.heap.size ≤ wr.heap.size := hbe.size
    by_cases hlt : k < len
    · have hcx : wr.cell? ⟨b, off + k, none⟩ = some (.string (ss k)) := (hbe.cell (p := ⟨b, off + k, none⟩) hbB).trans (hc k hlt)
      obtain ⟨sk, hsk⟩ : ∃ sk, sk = ss k := ⟨_, rfl⟩
      rw [← hsk] at hcx
      cases hb : (sk.toList == t.toList) with
      | true =>
        have hp := pend_miss (ss := ss) (t := t) (k := k) (by rw [← hsk]; exact hb)
        have R : wr.ownsRow w.heap.size 3 1 u5 (pend ss t (k + 1)).length (ints (pend ss t (k + 1))) ∧ (pend ss t (k + 1) = [] → u5 = .slice none 0 0) := by rw [hp]; exact ⟨hown, hnil⟩
        clear hp hown hnil hsk hc
        go_wp2
        go_roundw
        case rel => exact ⟨k + 1, by omega, by go_num, R.1, hbe, R.2⟩
        case measure => simp [intOf]; omega
      | false =>
        have hp := pend_hit (ss := ss) (t := t) (k := k) (by rw [← hsk]; exact hb)
        have HP : Hid (pend ss t (k + 1) = pend ss t k ++ [k]) := hp
        obtain ⟨n, hn⟩ : ∃ n, n = (pend ss t k).length := ⟨_, rfl⟩
        rw [← hn] at hown hpl
        have HN : Hid (n = (pend ss t k).length) := hn
        clear hp hnil hsk hc hn
        go_wp2_with (at_builtin; refine wpList_append_own _ rfl _ _ 35 rfl w.heap.size 3 i0 (.int .i64 0) 1 8 Yba.underlying35 hi hz0 hz1 hz2 rfl (by decide) _ _ _ rfl (hown.alloc _) ⟨wr.heap.size, 0, none⟩ 1 1 [.int .i64 k] rfl rfl ?c1 ?c2 ?c3 ?c4 ?c5 ?_)
        case c1 => exact one_new wr (.int .i64 k) 3
        case c2 => intro u hu; simp at hu; subst hu; rfl
        case c3 => unfold maxLen; omega
        case c4 => omega
        case c5 => simp; omega
        intro v' w1 hown' hgrow _
        have hown2 : w1.ownsRow w.heap.size 3 1 v' (pend ss t (k + 1)).length (ints (pend ss t (k + 1))) := by
          rw [HP.out]; unfold ints at hown' ⊢; simpa [HN.out] using hown'
        have hbe2 : Below w.heap.size w w1 := (hbe.alloc hsz _).grown hgrow (by simp; omega) (fun k hk => (hown.lt k hk).1)
        have hne : Hid (pend ss t (k + 1) ≠ []) := by show pend ss t (k + 1) ≠ []; rw [HP.out]; simp
        clear hown hown' hgrow hbe hi hz0 hz1 hz2 hcx
        go_wp2
        go_roundw
        case rel => exact ⟨k + 1, by omega, by go_num, hown2, hbe2, fun h => absurd h hne.out⟩
        case measure => simp [intOf]; omega
    · obtain rfl : k = len := by omega
      go_wp2
      go_ret
      exact ⟨_, rfl, hown, hbe, hnil⟩

/-- zzs2967ccheck of an empty slice -/
theorem chk0 (ao : Option Addr) (cap : Nat) (t : ByteArray) (w : World) :
    Calls Yba.prog 11 #[.slice ao 0 cap, .string t, .slice none 0 0] w fun e w' => e = .returned (.bool true) ∧ w' = w := by
  have hnil := run_neq_slice_nil_any (P := Yba.prog) w 35 3 none 0 0 0 0 Yba.underlying35
  go_enter Yba.func11, Yba.ntmps11
  go_wp2
  refine wp_loop_rounds 1 ?_
  rw [rounds_succ]
  go_wp2
  go_ret
  exact ⟨rfl, rfl⟩

/-- zzs2967ccheck -/
theorem chk (b off len cap base : Nat) (ss : Nat → ByteArray) (t : ByteArray) (v : Value) (w : World) (hlen : len ≤ 4096) (hc : ∀ i, i < len → w.cell? ⟨b, off + i, none⟩ = some (.string (ss i)))
    (hown : w.ownsRow base 3 1 v (pend ss t len).length (ints (pend ss t len))) (hv : pend ss t len = [] → v = .slice none 0 0) :
    Calls Yba.prog 11 #[.slice (some ⟨b, off, none⟩) len cap, .string t, v] w fun e w' => e = .returned (.bool true) ∧ w' = w := by
  obtain ⟨n, hn⟩ : ∃ n, n = (pend ss t len).length := ⟨_, rfl⟩
  have hnl : n ≤ 4096 := by rw [hn]; exact Nat.le_trans (pend_le ss t len) hlen
  -- the value's shape, and its cells
  obtain ⟨ga, gc, rfl, hcells⟩ : ∃ ga gc, v = .slice ga n gc ∧ ∀ j x : Nat, (pend ss t len)[j]? = some x → ∃ g, ga = some ⟨g, 0, none⟩ ∧ w.cell? ⟨g, j, none⟩ = some (.int .i64 x) := by
    rw [← hn] at hown
    rcases hown.2 with ⟨rfl, h0⟩ | ⟨g, cp, cur, rfl, _, hg, _, _, _, htake⟩
    · subst h0
      exact ⟨none, 0, rfl, fun j x hj => by rw [List.eq_nil_of_length_eq_zero hn.symm] at hj; simp at hj⟩
    · refine ⟨_, _, rfl, fun j x hj => ⟨g, rfl, ?_⟩⟩
      have hjl : j < n := by rw [hn]; exact (List.getElem?_eq_some_iff.1 hj).1
      rw [cell_of_row w g j cur 3 (0, 0) hg]
      have : (cur.toList.take (n * 1))[j]? = some (.int .i64 x) := by rw [htake]; simp [ints, hj]
      rw [List.getElem?_take, if_pos (by omega)] at this
      simpa using this
  have hv0 : n = 0 → ga = none ∧ gc = 0 := by
    intro h0
    have := hv (List.eq_nil_of_length_eq_zero (by omega))
    simp at this
    exact ⟨this.1, this.2.2⟩
  have HN : Hid (n = (pend ss t len).length) := hn
  have HV : Hid (n = 0 → ga = none ∧ gc = 0) := hv0
  have HC : Hid (∀ j x : Nat, (pend ss t len)[j]? = some x → ∃ g, ga = some ⟨g, 0, none⟩ ∧ w.cell? ⟨g, j, none⟩ = some (.int .i64 x)) := hcells
  clear hn hv0 hcells hv hown
  go_enter Yba.func11, Yba.ntmps11
  go_wp2
  go_loop [7, 8] (fun kk i => ∃ k c : Nat, k ≤ len ∧ i = .int .i64 k ∧ kk = .int .i64 c ∧ Hid (c = (pend ss t k).length)) (fun _ i => len - (intOf i).toNat)
  case atStart => exact ⟨0, 0, Nat.zero_le _, rfl, rfl, rfl⟩
  case round =>
    obtain ⟨k, c, hk, rfl, rfl, hck⟩ := hrel
    have hcl : c ≤ k := by rw [hck.out]; exact pend_le ss t k
    by_cases hlt : k < len
    · have hcx := hc k hlt
      obtain ⟨sk, hsk⟩ : ∃ sk, sk = ss k := ⟨_, rfl⟩
      rw [← hsk] at hcx
      cases hb : (sk.toList == t.toList) with
      | true =>
        have hp := pend_miss (ss := ss) (t := t) (k := k) (by rw [← hsk]; exact hb)
        have R : Hid (c = (pend ss t (k + 1)).length) := by show _ = _; rw [hp]; exact hck
        clear hp hsk hck hc
        go_wp2
        go_round
        case rel => exact ⟨k + 1, c, by omega, by go_num, rfl, R⟩
        case measure => simp [intOf]; omega
      | false =>
        have hb' : ((ss k).toList == t.toList) = false := by rw [← hsk]; exact hb
        have hp := pend_hit (ss := ss) (t := t) (k := k) hb'
        have R : Hid (c + 1 = (pend ss t (k + 1)).length) := by show _ = _; rw [hp, hck.out]; simp
        have hat := pend_at hlt hb'
        rw [← hck.out] at hat
        have hcn : c < n := by rw [HN.out]; exact (List.getElem?_eq_some_iff.1 hat).1
        obtain ⟨g, rfl, hg⟩ := HC.out c k hat
        have i1 : (c : Int) < (n : Int) := by omega
        clear hp hsk hck hc hat hb'
        go_wp2
        go_round
        case rel => exact ⟨k + 1, c + 1, by omega, by go_num, by go_num, R⟩
        case measure => simp [intOf]; omega
    · obtain rfl : k = len := by omega
      obtain rfl : c = n := by rw [hck.out, HN.out]
      clear hck hc
      by_cases h0 : c = 0
      · obtain ⟨rfl, rfl⟩ := HV.out h0
        subst h0
        have hnil := run_neq_slice_nil_any (P := Yba.prog) w 35 3 none 0 0 0 0 Yba.underlying35
        go_wp2
        go_ret
        exact ⟨rfl, rfl⟩
      · have h0' : ((c : Int) == 0) = false := beq_eq_false_iff_ne.2 (by omega)
        go_wp2
        go_ret
        exact ⟨rfl, rfl⟩
end Go.Proofs.Ybulkbikq
