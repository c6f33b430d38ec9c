/-
  LawS2966AFifo: the state of its memory, and what each step makes of it. No walk.
-/
import Derived.Test.YbulkbikcGq2
import Derived.Deep.QuietTactic
import Derived.BigQuiet
namespace Go.Proofs.Ybulkbikc
open Go Go.RowKit

def ptr (b : Nat) : Value := .pointer (some ⟨b, 0, none⟩)

theorem row_ne {w : World} {b b' : Nat} {e e' : TypeId} {s s' : Nat} {v v' : Value} {n n' : Nat} {xs xs' : List Value} (r : RowAt w b e s v n xs) (r' : RowAt w b' e' s' v' n' xs') (he : e ≠ e') : ∀ k, liveB v = some k → liveB v' ≠ some k := by
  intro k h h'
  obtain ⟨_, _, c, hc⟩ := r.lt k h
  obtain ⟨_, _, c', hc'⟩ := r'.lt k h'
  rw [hc] at hc'
  simp only [Option.some.injEq, Obj.cells.injEq] at hc'
  exact he hc'.2.1

/-- What the call's own memory holds. -/
structure St (w0 w : World) (B : Nat) (pv mv rv yv : Value) (np : Nat) (pl : List Value) (nm : Nat) (ml : List Value) (nr : Nat) (rl : List Value) (ny : Nat) (ys : List Nat) (n : Int) : Prop where
  pool : RowAt w (B + 1) 35 1 pv np pl
  model : RowAt w (B + 1) 3 1 mv nm ml
  q : QB w B rv yv n
  res : RowAt w (B + 1) 35 1 rv nr rl
  yie : RowAt w (B + 1) 50 2 yv ny (ys.flatMap fun y => [ptr y, .int .u64 0])
  sep : ∀ k, liveB pv = some k → liveB rv ≠ some k
  below : Below B w0 w
  ysok : ∀ y ∈ ys, ∃ cur, w.heap[y]? = some (.cells cur 45 (0, 0)) ∧ cur[7]? = some (.bool true)

section
variable {w0 w w' : World} {B : Nat} {pv mv rv yv v' : Value} {np nm nr ny : Nat} {pl ml rl : List Value} {ys : List Nat} {n : Int} {x : Value} {row : Option Nat}

theorem St.alloc (S : St w0 w B pv mv rv yv np pl nm ml nr rl ny ys n) (o : Obj) : St w0 (w.alloc o) B pv mv rv yv np pl nm ml nr rl ny ys n :=
  ⟨S.pool.alloc o, S.model.alloc o, S.q.kept (Chg.alloc w o) id, S.res.alloc o, S.yie.alloc o, S.sep, S.below.alloc (Nat.le_of_lt S.q.lt) o,
    fun y hy => (S.ysok y hy).imp fun _ h => ⟨(Below.heap_alloc w o y (Array.getElem?_eq_some_iff.1 h.1).1).trans h.1, h.2⟩⟩

theorem St.drewN (S : St w0 w B pv mv rv yv np pl nm ml nr rl ny ys n) (k : Nat) : St w0 (w.drewN k) B pv mv rv yv np pl nm ml nr rl ny ys n := ⟨S.pool, S.model, S.q, S.res, S.yie, S.sep, ⟨S.below.os, S.below.tape, S.below.output, S.below.size, S.below.block⟩, S.ysok⟩

theorem ys_ne {e : TypeId} {s : Nat} {v : Value} {m : Nat} {xs : List Value} {b : Nat} (r : RowAt w b e s v m xs) (he : e ≠ 45) {y : Nat} {cur : Array Value} (hy : w.heap[y]? = some (.cells cur 45 (0, 0))) : ¬ liveB v = some y := by
  intro h
  obtain ⟨_, _, c, hc⟩ := r.lt y h
  rw [hy] at hc
  simp only [Option.some.injEq, Obj.cells.injEq] at hc
  exact he hc.2.1.symm

/-- The pool has grown. -/
theorem St.pooled (S : St w0 w B pv mv rv yv np pl nm ml nr rl ny ys n) (hg : w.grownBy w' (liveB pv)) (hr : RowAt w' (B + 1) 35 1 v' (np + 1) (pl ++ [x])) (hl : ∀ k, liveB v' = some k → liveB pv = some k ∨ w.heap.size ≤ k) :
    St w0 w' B v' mv rv yv (np + 1) (pl ++ [x]) nm ml nr rl ny ys n := by
  have C := Chg.grown hg
  have hB := S.q.ne S.pool (by decide)
  refine ⟨hr, C.row S.model (fun k hk h => row_ne S.model S.pool (by decide) k hk h), S.q.kept C hB, C.row S.res (fun k hk h => S.sep k h hk), C.row S.yie (fun k hk h => row_ne S.yie S.pool (by decide) k hk h), ?_, ?_, ?_⟩
  · intro k hk h
    rcases hl k hk with h1 | h1
    · exact S.sep k h1 h
    · have := (S.res.lt k h).2.1; omega
  · exact S.below.trans (C.below (Nat.le_of_lt S.q.lt) (fun k hk h => by have := (S.pool.lt k h).1; omega))
  · exact fun y hy => (S.ysok y hy).imp fun _ h => ⟨(C.block y (Array.getElem?_eq_some_iff.1 h.1).1 (ys_ne S.pool (by decide) h.1)).trans h.1, h.2⟩

/-- The model has grown. -/
theorem St.modelled (S : St w0 w B pv mv rv yv np pl nm ml nr rl ny ys n) (hg : w.grownBy w' (liveB mv)) (hr : RowAt w' (B + 1) 3 1 v' (nm + 1) (ml ++ [x])) :
    St w0 w' B pv v' rv yv np pl (nm + 1) (ml ++ [x]) nr rl ny ys n := by
  have C := Chg.grown hg
  have hB := S.q.ne S.model (by decide)
  refine ⟨C.row S.pool (fun k hk h => row_ne S.pool S.model (by decide) k hk h), hr, S.q.kept C hB, C.row S.res (fun k hk h => row_ne S.res S.model (by decide) k hk h), C.row S.yie (fun k hk h => row_ne S.yie S.model (by decide) k hk h), S.sep, ?_, ?_⟩
  · exact S.below.trans (C.below (Nat.le_of_lt S.q.lt) (fun k hk h => by have := (S.model.lt k h).1; omega))
  · exact fun y hy => (S.ysok y hy).imp fun _ h => ⟨(C.block y (Array.getElem?_eq_some_iff.1 h.1).1 (ys_ne S.model (by decide) h.1)).trans h.1, h.2⟩

/-- A resumed worker has been queued. -/
theorem St.resumed {nr' : Nat} {rl' : List Value} {n' : Int} (S : St w0 w B pv mv rv yv np pl nm ml nr rl ny ys n) (hq : QB w' B v' yv n') (hr : RowAt w' (B + 1) 35 1 v' nr' rl') (C : Chg w w' (fun k => k = B ∨ liveB rv = some k))
    (hl : ∀ k, liveB v' = some k → liveB rv = some k ∨ w.heap.size ≤ k) : St w0 w' B pv mv v' yv np pl nm ml nr' rl' ny ys n' := by
  refine ⟨C.row S.pool ?_, C.row S.model ?_, hq, hr, C.row S.yie ?_, ?_, ?_, ?_⟩
  · rintro k hk (rfl | h)
    · exact S.q.ne S.pool (by decide) hk
    · exact S.sep k hk h
  · rintro k hk (rfl | h)
    · exact S.q.ne S.model (by decide) hk
    · exact row_ne S.model S.res (by decide) k hk h
  · rintro k hk (rfl | h)
    · exact S.q.ne S.yie (by decide) hk
    · exact row_ne S.yie S.res (by decide) k hk h
  · intro k hk h
    rcases hl k h with h1 | h1
    · exact S.sep k hk h1
    · have := (S.pool.lt k hk).2.1; omega
  · refine S.below.trans (C.below (Nat.le_of_lt S.q.lt) ?_)
    rintro k hk (rfl | h)
    · omega
    · have := (S.res.lt k h).1; omega
  · refine fun y hy => (S.ysok y hy).imp fun _ h => ⟨(C.block y (Array.getElem?_eq_some_iff.1 h.1).1 ?_).trans h.1, h.2⟩
    rintro (rfl | h')
    · have h2 := S.q
      unfold QB at h2
      rw [h.1] at h2
      simp at h2
    · exact ys_ne S.res (by decide) h.1 h'

/-- A task that gave way has been queued. -/
theorem St.yielded {y : Nat} {cur : Array Value} (S : St w0 w B pv mv rv yv np pl nm ml nr rl ny ys n) (hq : QB w' B rv v' (n + 1)) (hr : RowAt w' (B + 1) 50 2 v' (ny + 1) ((ys.flatMap fun y => [ptr y, .int .u64 0]) ++ [ptr y, .int .u64 0]))
    (C : Chg w w' (fun k => k = B ∨ liveB yv = some k)) (hy : w.heap[y]? = some (.cells cur 45 (0, 0))) (hy7 : cur[7]? = some (.bool true)) : St w0 w' B pv mv rv v' np pl nm ml nr rl (ny + 1) (ys ++ [y]) (n + 1) := by
  refine ⟨C.row S.pool ?_, C.row S.model ?_, hq, C.row S.res ?_, by simpa using hr, S.sep, ?_, ?_⟩
  · rintro k hk (rfl | h)
    · exact S.q.ne S.pool (by decide) hk
    · exact row_ne S.pool S.yie (by decide) k hk h
  · rintro k hk (rfl | h)
    · exact S.q.ne S.model (by decide) hk
    · exact row_ne S.model S.yie (by decide) k hk h
  · rintro k hk (rfl | h)
    · exact S.q.ne S.res (by decide) hk
    · exact row_ne S.res S.yie (by decide) k hk h
  · refine S.below.trans (C.below (Nat.le_of_lt S.q.lt) ?_)
    rintro k hk (rfl | h)
    · omega
    · have := (S.yie.lt k h).1; omega
  · have keep : ∀ (z : Nat) (c : Array Value), w.heap[z]? = some (.cells c 45 (0, 0)) → w'.heap[z]? = some (.cells c 45 (0, 0)) := by
      intro z c h
      refine (C.block z (Array.getElem?_eq_some_iff.1 h).1 ?_).trans h
      rintro (rfl | h')
      · have h2 := S.q
        unfold QB at h2
        rw [h] at h2
        simp at h2
      · exact ys_ne S.yie (by decide) h h'
    intro z hz
    rw [List.mem_append, List.mem_singleton] at hz
    rcases hz with hz | rfl
    · exact (S.ysok z hz).imp fun c h => ⟨keep z c h.1, h.2⟩
    · exact ⟨cur, keep _ _ hy, hy7⟩

/-- The i-th yielded worker's pointer, and its mark. -/
theorem St.yat (S : St w0 w B pv mv rv yv np pl nm ml nr rl ny ys n) (i : Nat) (hi : i < ny) : ∃ g off cap y, yv = .slice (some ⟨g, off, none⟩) ny cap ∧ w.cell? ⟨g, off + i * 2, none⟩ = some (ptr y) ∧ w.cell? ⟨y, 7, none⟩ = some (.bool true) := by
  obtain ⟨g, off, cap, hv, _, _, _, hc, _⟩ := S.yie.at (by omega)
  have hlen := S.yie.1
  have hl2 : (ys.flatMap fun y => [ptr y, .int .u64 0]).length = ys.length * 2 := by
    clear hc hlen S
    induction ys with
    | nil => rfl
    | cons a t ih => simp [List.flatMap_cons, ih]; omega
  have hi' : i < ys.length := by omega
  have hget : ∀ (l : List Nat) (j : Nat) (hj : j < l.length), (l.flatMap fun y => [ptr y, .int .u64 0])[j * 2]? = some (ptr l[j]) := by
    intro l
    induction l with
    | nil => intro j hj; simp at hj
    | cons a t ih =>
      intro j hj
      cases j with
      | zero => simp
      | succ j => 
        rw [List.flatMap_cons, show (j + 1) * 2 = j * 2 + 1 + 1 from by omega]
        simp only [List.cons_append, List.nil_append, List.getElem?_cons_succ, List.getElem_cons_succ]
        exact ih j (by simpa using hj)
  obtain ⟨cur, hcur, h7⟩ := S.ysok ys[i] (List.getElem_mem _)
  refine ⟨g, off, cap, ys[i], hv, ?_, ?_⟩
  · rw [hc (i * 2) (by omega), hget ys i hi']
  · rw [cell_of_row w _ 7 cur 45 (0, 0) hcur, h7]

end
end Go.Proofs.Ybulkbikc
