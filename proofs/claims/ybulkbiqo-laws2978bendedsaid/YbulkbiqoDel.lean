/-
  slices.Delete at the two element types: one element taken out of a row of the call's own.
-/
import Derived.Test.YbulkbiqoA
import Derived.Deep.RegionLaw
namespace Go.Proofs.Ybulkbiqo
open Go Go.RowKit

/-- append within the row's room, as one step of a region that draws. -/
theorem step_append_in {P : Program} {ops : Array Oper} {o : Oper} {a : Act} {w : World} {K : Act → World → Prop} {Q : Exit → Act → World → Prop} {E : Prop}
    (hgd : o.guard = none) (s x : Operand) (t : TypeId) (ho : o.op = Op.call { callee := Callee.builtin Builtin.append, args := #[s, x], argTypes := #[t, t] })
    (e : TypeId) (i : TypeInfo) (size : Nat) (h1 : P.underlying t = some (.slice e)) (h2 : P.info? e = some i) (h4 : i.size = size)
    (g k cap : Nat) (cur : Array Value) (hg : w.heap[g]? = some (.cells cur e (0, 0))) (hs : a.eval s = .slice (some ⟨g, 0, none⟩) k cap)
    (ad : Addr) (m c : Nat) (news : List Value) (hx : a.eval x = .slice (some ad) m c) (hn : news.length = m * size) (hc : ∀ j u, news[j]? = some u → w.cell? (ad.add j) = some u) (h1c : ∀ u ∈ news, u.oneCell' = true)
    (hroom : k + m ≤ cap) (hfit : k * size + news.length ≤ cur.size)
    (hK : K (a.put o.dst (.slice (some ⟨g, 0, none⟩) (k + m) cap)) (w.setRow g (cur.toList.take (k * size) ++ news ++ cur.toList.drop (k * size + news.length)).toArray)) :
    if Region.wanted o (yielded ops a.tmps) = true then Oper.wp P o a w K Q else E := by
  have hw : Region.wanted o (yielded ops a.tmps) = true := by simp [Region.wanted, hgd]
  rw [if_pos hw]
  subst h4
  have hrun := run_append_room (P := P) w t o.type e i h1 h2 g k cap cur hg ad m c news hn hc h1c hroom hfit
  unfold Oper.wp
  simp only [execOp, ho, resolve, invoke, builtin, Sem.run_bind, Sem.run_pure, Result.andThen_ok, List.map_toArray, List.map_cons, List.map_nil, hs, hx, hrun]
  exact hK

/-- clear of one element of three cells. -/
theorem run_clear3 {P : Program} (W : World) (t ty e : TypeId) (g o c : Nat) (cur : Array Value) (z : Value) (zs : List Value) (ht : P.underlying t = some (.slice e)) (hz : ∀ w, (zeroValue e).run P w = .ok z w) (hzz : (Builtin.zeroCells z.cells 1).toList = zs) (hz3 : zs.length = 3)
    (h1 : ∀ v ∈ zs, v.oneCell' = true) (hg : W.heap[g]? = some (.cells cur e (0, 0))) (hfit : o + 3 ≤ cur.size) :
    (Builtin.clear_ #[t] ty #[.slice (some ⟨g, o, none⟩) 1 c]).run P W = .ok (.tuple #[]) (W.setRow g (cur.toList.take o ++ zs ++ cur.toList.drop (o + 3)).toArray) := by
  have hst := run_storeCells_at P g o e zs 0 cur W hg (by rw [hz3]; omega) h1
  simp only [Nat.add_zero, hz3] at hst
  simp [Builtin.clear_, run_underlying ht, hz, hzz, hst]

theorem info35 : (Yba.prog.info? 35).map (fun i => (i.zero, i.size, i.bytes)) = some (some (.agg #[.int .i64 0, .int .u64 0, .bool false]), 3, 24) := by kernel_rfl
theorem info40 : (Yba.prog.info? 40).map (fun i => (i.zero, i.size, i.bytes)) = some (some (.agg #[.int .i64 0, .int .u64 0, .nilIface]), 3, 32) := by kernel_rfl

/-- What taking element i out leaves: the cells behind it come three places down. -/
def Taken (w w' : World) (g i n : Nat) (e : TypeId) : Prop :=
  (∃ cur, w'.heap[g]? = some (.cells cur e (0, 0)) ∧ cur.size = n * 3) ∧ Chg w w' (fun k => k = g) ∧ ∀ j, j < (n - 1) * 3 → w'.cell? ⟨g, j, none⟩ = w.cell? ⟨g, if j < i * 3 then j else j + 3, none⟩

/-- What the append and the clear leave. -/
theorem taken_fin {w : World} {g i m : Nat} {e : TypeId} {cur : Array Value} {news zs L1 : List Value} (hg : w.heap[g]? = some (.cells cur e (0, 0))) (hs : cur.size = (i + 1 + m) * 3) (hz3 : zs.length = 3)
    (hnews : news = cur.toList.drop ((i + 1) * 3)) (hL : L1 = cur.toList.take (i * 3) ++ (news ++ cur.toList.drop (i * 3 + news.length))) :
    (w.drew.setRow g L1.toArray).heap[g]? = some (.cells L1.toArray e (0, 0)) ∧ L1.length = (i + 1 + m) * 3 ∧
      Taken w ((w.drew.setRow g L1.toArray).setRow g (L1.toArray.toList.take ((i + m) * 3) ++ zs ++ L1.toArray.toList.drop ((i + m) * 3 + 3)).toArray) g i (i + 1 + m) e := by
  have hnl : news.length = m * 3 := by rw [hnews, List.length_drop, Array.length_toList, hs]; omega
  have hcl : cur.toList.length = (i + 1 + m) * 3 := by rw [Array.length_toList, hs]
  have h1 : (w.drew.setRow g L1.toArray).heap[g]? = some (.cells L1.toArray e (0, 0)) := setRow_heap w.drew g cur L1.toArray e (0, 0) hg
  have hLl : L1.length = (i + 1 + m) * 3 := by rw [hL]; simp only [List.length_append, List.length_take, List.length_drop, hnl, hcl]; omega
  have h2 := setRow_heap _ g L1.toArray (L1.toArray.toList.take ((i + m) * 3) ++ zs ++ L1.toArray.toList.drop ((i + m) * 3 + 3)).toArray e (0, 0) h1
  refine ⟨h1, hLl, ⟨_, h2, ?_⟩, ?_, ?_⟩
  · simp only [List.size_toArray, List.length_append, List.length_take, List.length_drop, hz3, hLl]; omega
  · exact ⟨rfl, rfl, rfl, by simp [World.setRow], fun k hk hp => (setRow_other _ g k _ hp).trans (setRow_other _ g k _ hp)⟩
  · intro j hj
    have hj' : j < (i + m) * 3 := by omega
    rw [cell_of_row _ g j _ e (0, 0) h2, cell_of_row w g _ cur e (0, 0) hg, List.getElem?_toArray, List.append_assoc, List.getElem?_append_left (by simp only [List.length_take, hLl]; omega), List.getElem?_take, if_pos hj']
    show L1[j]? = _
    rw [hL]
    by_cases hji : j < i * 3
    · rw [if_pos hji, List.getElem?_append_left (by simp only [List.length_take, hcl]; omega), List.getElem?_take, if_pos hji]
      simp
    · rw [if_neg hji, List.getElem?_append_right (by simp only [List.length_take, hcl]; omega), List.length_take, hcl, Nat.min_eq_left (by omega), List.getElem?_append_left (by omega), hnews, List.getElem?_drop,
        show (i + 1) * 3 + (j - i * 3) = j + 3 from by omega]
      simp

set_option maxRecDepth 100000 in
theorem del8 (g n i : Nat) (cur : Array Value) (w : World) (hn : n ≤ 1024) (hi : i < n) (hg : w.heap[g]? = some (.cells cur 35 (0, 0))) (hs : cur.size = n * 3) (h1 : ∀ v ∈ cur.toList, v.oneCell' = true) :
    Calls Yba.prog 8 #[.slice (some ⟨g, 0, none⟩) n n, .int .i64 i, .int .i64 ((i : Int) + 1)] w fun e w' => e = .returned (.slice (some ⟨g, 0, none⟩) (n - 1) n) ∧ Taken w w' g i n 35 := by
  obtain ⟨i0, hi0, hz0, hz1, hz2⟩ := info_parts info35
  have hne : ((i : Int) == (i : Int) + 1) = false := beq_eq_false_iff_ne.2 (by omega)
  obtain ⟨m, rfl⟩ : ∃ m, n = i + 1 + m := ⟨n - (i + 1), by omega⟩
  obtain ⟨news, hnews⟩ : ∃ news, news = cur.toList.drop ((i + 1) * 3) := ⟨_, rfl⟩
  have hnl : news.length = m * 3 := by rw [hnews, List.length_drop, Array.length_toList, hs]; omega
  have hn1 : ∀ u ∈ news, u.oneCell' = true := by rw [hnews]; exact fun u hu => h1 u (List.mem_of_mem_drop hu)
  have hnc : ∀ j u, news[j]? = some u → w.cell? ((⟨g, (i + 1) * 3, none⟩ : Addr).add j) = some u := by
    intro j u hj
    rw [Addr.add_lit, cell_of_row w g _ cur 35 (0, 0) hg]
    rw [hnews, List.getElem?_drop] at hj
    simpa using hj
  have HN : Hid (news = cur.toList.drop ((i + 1) * 3)) := hnews
  have HC : Hid (∀ j u, news[j]? = some u → w.cell? ((⟨g, (i + 1) * 3, none⟩ : Addr).add j) = some u) := hnc
  have HL : Hid (news.length = m * 3) := hnl
  have H1 : Hid (∀ u ∈ news, u.oneCell' = true) := hn1
  have HG : Hid (w.heap[g]? = some (.cells cur 35 (0, 0))) := hg
  have HS : Hid (cur.size = (i + 1 + m) * 3) := hs
  clear hnews hnc hnl hn1 hg hs h1
  cases m with
  | zero =>
    rw [show i + 1 + 0 - 1 = i from by omega]
    have b1 : (i : Int) ≤ (i : Int) + 1 := by omega
    have b0 : 0 ≤ (i : Int) + 1 := by omega
    go_enter Yba.func8, Yba.ntmps8
    go_wp2_with fail
    go_region_law (refine step_append_in rfl (.tmp 22) (.tmp 25) 31 rfl 35 i0 3 Yba.underlying31 hi0 hz1 g i (i + 1) cur ?h1 ?h2 ⟨g, 0, none⟩ 0 0 news ?h3 ?h4 ?h5 H1.out ?h7 ?h8 ?_; (case h1 => exact HG.out); (case h2 => simp [Act.eval, Act.put]); (case h3 => simp [Act.eval, Act.put]); (case h4 => exact HL.out); (case h5 => intro j u hj; rw [List.eq_nil_of_length_eq_zero HL.out] at hj; simp at hj); (case h7 => omega); (case h8 => have e1 := HS.out; have e2 := HL.out; omega))
    all_goals
      go_wp2_with fail
      obtain ⟨L1, hL⟩ : ∃ L1, L1 = cur.toList.take (i * 3) ++ (news ++ cur.toList.drop (i * 3 + news.length)) := ⟨_, rfl⟩
      rw [← hL]
      obtain ⟨t1, t2, t3⟩ := taken_fin (m := 0) (zs := [Value.int .i64 0, Value.int .u64 0, Value.bool false]) HG.out HS.out rfl HN.out hL
      rw [run_clear3 (P := Yba.prog) (w.drew.setRow g L1.toArray) 31 0 35 g (i * 3) 1 L1.toArray (.agg #[.int .i64 0, .int .u64 0, .bool false]) [Value.int .i64 0, Value.int .u64 0, Value.bool false] Yba.underlying31 Yba.zeroValue35 (by kernel_rfl) rfl (by simp [Value.oneCell']) t1 (by simp only [List.size_toArray, t2]; omega)]
      obtain ⟨W2, hW2⟩ : ∃ W2, W2 = (w.drew.setRow g L1.toArray).setRow g (L1.toArray.toList.take (i * 3) ++ [Value.int .i64 0, Value.int .u64 0, Value.bool false] ++ L1.toArray.toList.drop (i * 3 + 3)).toArray := ⟨_, rfl⟩
      rw [← hW2]
      have HT : Taken w W2 g i (i + 1 + 0) 35 := by rw [hW2]; exact t3
      clear t1 t2 t3 hL HN HC HL H1 HG HS hW2
      go_wp2
      go_ret
      exact ⟨rfl, HT⟩
  | succ m =>
    rw [show i + 1 + (m + 1) - 1 = i + (m + 1) from by omega]
    have b1 : (i : Int) ≤ (i : Int) + 1 + ((m : Int) + 1) := by omega
    have b2 : (i : Int) + 1 ≤ (i : Int) + 1 + ((m : Int) + 1) := by omega
    have b0 : 0 ≤ (i : Int) + 1 := by omega
    go_enter Yba.func8, Yba.ntmps8
    go_wp2_with fail
    go_region_law (refine step_append_in rfl (.tmp 22) (.tmp 25) 31 rfl 35 i0 3 Yba.underlying31 hi0 hz1 g i (i + 1 + (m + 1)) cur ?k1 ?k2 ⟨g, (i + 1) * 3, none⟩ (m + 1) (m + 1) news ?k3 ?k4 ?k5 H1.out ?k7 ?k8 ?_; (case k1 => exact HG.out); (case k2 => simp [Act.eval, Act.put]); (case k3 => simp [Act.eval, Act.put]); (case k4 => exact HL.out); (case k5 => exact HC.out); (case k7 => omega); (case k8 => have e1 := HS.out; have e2 := HL.out; omega))
    all_goals
      go_wp2_with fail
      obtain ⟨L1, hL⟩ : ∃ L1, L1 = cur.toList.take (i * 3) ++ (news ++ cur.toList.drop (i * 3 + news.length)) := ⟨_, rfl⟩
      rw [← hL]
      obtain ⟨t1, t2, t3⟩ := taken_fin (m := (m + 1)) (zs := [Value.int .i64 0, Value.int .u64 0, Value.bool false]) HG.out HS.out rfl HN.out hL
      rw [show i + 1 + (m + 1) - (i + (m + 1)) = 1 from by omega]
      rw [run_clear3 (P := Yba.prog) (w.drew.setRow g L1.toArray) 31 0 35 g ((i + (m + 1)) * 3) 1 L1.toArray (.agg #[.int .i64 0, .int .u64 0, .bool false]) [Value.int .i64 0, Value.int .u64 0, Value.bool false] Yba.underlying31 Yba.zeroValue35 (by kernel_rfl) rfl (by simp [Value.oneCell']) t1 (by simp only [List.size_toArray, t2]; omega)]
      obtain ⟨W2, hW2⟩ : ∃ W2, W2 = (w.drew.setRow g L1.toArray).setRow g (L1.toArray.toList.take ((i + (m + 1)) * 3) ++ [Value.int .i64 0, Value.int .u64 0, Value.bool false] ++ L1.toArray.toList.drop ((i + (m + 1)) * 3 + 3)).toArray := ⟨_, rfl⟩
      rw [← hW2]
      have HT : Taken w W2 g i (i + 1 + (m + 1)) 35 := by rw [hW2]; exact t3
      clear t1 t2 t3 hL HN HC HL H1 HG HS hW2
      go_wp2
      go_ret
      exact ⟨rfl, HT⟩

set_option maxRecDepth 100000 in
theorem del21 (g n i : Nat) (cur : Array Value) (w : World) (hn : n ≤ 1024) (hi : i < n) (hg : w.heap[g]? = some (.cells cur 40 (0, 0))) (hs : cur.size = n * 3) (h1 : ∀ v ∈ cur.toList, v.oneCell' = true) :
    Calls Yba.prog 21 #[.slice (some ⟨g, 0, none⟩) n n, .int .i64 i, .int .i64 ((i : Int) + 1)] w fun e w' => e = .returned (.slice (some ⟨g, 0, none⟩) (n - 1) n) ∧ Taken w w' g i n 40 := by
  obtain ⟨i0, hi0, hz0, hz1, hz2⟩ := info_parts info40
  have hne : ((i : Int) == (i : Int) + 1) = false := beq_eq_false_iff_ne.2 (by omega)
  obtain ⟨m, rfl⟩ : ∃ m, n = i + 1 + m := ⟨n - (i + 1), by omega⟩
  obtain ⟨news, hnews⟩ : ∃ news, news = cur.toList.drop ((i + 1) * 3) := ⟨_, rfl⟩
  have hnl : news.length = m * 3 := by rw [hnews, List.length_drop, Array.length_toList, hs]; omega
  have hn1 : ∀ u ∈ news, u.oneCell' = true := by rw [hnews]; exact fun u hu => h1 u (List.mem_of_mem_drop hu)
  have hnc : ∀ j u, news[j]? = some u → w.cell? ((⟨g, (i + 1) * 3, none⟩ : Addr).add j) = some u := by
    intro j u hj
    rw [Addr.add_lit, cell_of_row w g _ cur 40 (0, 0) hg]
    rw [hnews, List.getElem?_drop] at hj
    simpa using hj
  have HN : Hid (news = cur.toList.drop ((i + 1) * 3)) := hnews
  have HC : Hid (∀ j u, news[j]? = some u → w.cell? ((⟨g, (i + 1) * 3, none⟩ : Addr).add j) = some u) := hnc
  have HL : Hid (news.length = m * 3) := hnl
  have H1 : Hid (∀ u ∈ news, u.oneCell' = true) := hn1
  have HG : Hid (w.heap[g]? = some (.cells cur 40 (0, 0))) := hg
  have HS : Hid (cur.size = (i + 1 + m) * 3) := hs
  clear hnews hnc hnl hn1 hg hs h1
  cases m with
  | zero =>
    rw [show i + 1 + 0 - 1 = i from by omega]
    have b1 : (i : Int) ≤ (i : Int) + 1 := by omega
    have b0 : 0 ≤ (i : Int) + 1 := by omega
    go_enter Yba.func21, Yba.ntmps21
    go_wp2_with fail
    go_region_law (refine step_append_in rfl (.tmp 22) (.tmp 25) 36 rfl 40 i0 3 Yba.underlying36 hi0 hz1 g i (i + 1) cur ?h1 ?h2 ⟨g, 0, none⟩ 0 0 news ?h3 ?h4 ?h5 H1.out ?h7 ?h8 ?_; (case h1 => exact HG.out); (case h2 => simp [Act.eval, Act.put]); (case h3 => simp [Act.eval, Act.put]); (case h4 => exact HL.out); (case h5 => intro j u hj; rw [List.eq_nil_of_length_eq_zero HL.out] at hj; simp at hj); (case h7 => omega); (case h8 => have e1 := HS.out; have e2 := HL.out; omega))
    all_goals
      go_wp2_with fail
      obtain ⟨L1, hL⟩ : ∃ L1, L1 = cur.toList.take (i * 3) ++ (news ++ cur.toList.drop (i * 3 + news.length)) := ⟨_, rfl⟩
      rw [← hL]
      obtain ⟨t1, t2, t3⟩ := taken_fin (m := 0) (zs := [Value.int .i64 0, Value.int .u64 0, Value.nilIface]) HG.out HS.out rfl HN.out hL
      rw [run_clear3 (P := Yba.prog) (w.drew.setRow g L1.toArray) 36 0 40 g (i * 3) 1 L1.toArray (.agg #[.int .i64 0, .int .u64 0, .nilIface]) [Value.int .i64 0, Value.int .u64 0, Value.nilIface] Yba.underlying36 Yba.zeroValue40 (by kernel_rfl) rfl (by simp [Value.oneCell']) t1 (by simp only [List.size_toArray, t2]; omega)]
      obtain ⟨W2, hW2⟩ : ∃ W2, W2 = (w.drew.setRow g L1.toArray).setRow g (L1.toArray.toList.take (i * 3) ++ [Value.int .i64 0, Value.int .u64 0, Value.nilIface] ++ L1.toArray.toList.drop (i * 3 + 3)).toArray := ⟨_, rfl⟩
      rw [← hW2]
      have HT : Taken w W2 g i (i + 1 + 0) 40 := by rw [hW2]; exact t3
      clear t1 t2 t3 hL HN HC HL H1 HG HS hW2
      go_wp2
      go_ret
      exact ⟨rfl, HT⟩
  | succ m =>
    rw [show i + 1 + (m + 1) - 1 = i + (m + 1) from by omega]
    have b1 : (i : Int) ≤ (i : Int) + 1 + ((m : Int) + 1) := by omega
    have b2 : (i : Int) + 1 ≤ (i : Int) + 1 + ((m : Int) + 1) := by omega
    have b0 : 0 ≤ (i : Int) + 1 := by omega
    go_enter Yba.func21, Yba.ntmps21
    go_wp2_with fail
    go_region_law (refine step_append_in rfl (.tmp 22) (.tmp 25) 36 rfl 40 i0 3 Yba.underlying36 hi0 hz1 g i (i + 1 + (m + 1)) cur ?k1 ?k2 ⟨g, (i + 1) * 3, none⟩ (m + 1) (m + 1) news ?k3 ?k4 ?k5 H1.out ?k7 ?k8 ?_; (case k1 => exact HG.out); (case k2 => simp [Act.eval, Act.put]); (case k3 => simp [Act.eval, Act.put]); (case k4 => exact HL.out); (case k5 => exact HC.out); (case k7 => omega); (case k8 => have e1 := HS.out; have e2 := HL.out; omega))
    all_goals
      go_wp2_with fail
      obtain ⟨L1, hL⟩ : ∃ L1, L1 = cur.toList.take (i * 3) ++ (news ++ cur.toList.drop (i * 3 + news.length)) := ⟨_, rfl⟩
      rw [← hL]
      obtain ⟨t1, t2, t3⟩ := taken_fin (m := (m + 1)) (zs := [Value.int .i64 0, Value.int .u64 0, Value.nilIface]) HG.out HS.out rfl HN.out hL
      rw [show i + 1 + (m + 1) - (i + (m + 1)) = 1 from by omega]
      rw [run_clear3 (P := Yba.prog) (w.drew.setRow g L1.toArray) 36 0 40 g ((i + (m + 1)) * 3) 1 L1.toArray (.agg #[.int .i64 0, .int .u64 0, .nilIface]) [Value.int .i64 0, Value.int .u64 0, Value.nilIface] Yba.underlying36 Yba.zeroValue40 (by kernel_rfl) rfl (by simp [Value.oneCell']) t1 (by simp only [List.size_toArray, t2]; omega)]
      obtain ⟨W2, hW2⟩ : ∃ W2, W2 = (w.drew.setRow g L1.toArray).setRow g (L1.toArray.toList.take ((i + (m + 1)) * 3) ++ [Value.int .i64 0, Value.int .u64 0, Value.nilIface] ++ L1.toArray.toList.drop ((i + (m + 1)) * 3 + 3)).toArray := ⟨_, rfl⟩
      rw [← hW2]
      have HT : Taken w W2 g i (i + 1 + (m + 1)) 40 := by rw [hW2]; exact t3
      clear t1 t2 t3 hL HN HC HL H1 HG HS hW2
      go_wp2
      go_ret
      exact ⟨rfl, HT⟩
end Go.Proofs.Ybulkbiqo
