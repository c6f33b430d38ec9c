/-
  linkingEnded, whatever the input.
-/
import Derived.Test.YbulkbiqoG
namespace Go.Proofs.Ybulkbiqo
open Go Go.RowKit Go.MuLone

/-- linkingEnded: one contract. -/
theorem link_all {w : World} {T base gd n gm p : Nat} {A B : Nat → Int} {H : Nat → Bool} {P R : Nat → Int} {X : Nat → Value} (L : LPre w T base gd n gm p A B H P R X) (c d : Int) (f : Bool) (ev : Value) (hE : ErrOk f ev) :
    Calls Yba.prog 6 #[.pointer (some ⟨T, 0, none⟩), .agg #[.int .i64 c, .int .u64 d], ev] w fun e w' => e = .returned (.tuple #[]) ∧
      (((f && !heardAt H (firstAt A B c d 0 n)) && !anyAt P R c d p) = false ∧ LPost w w' T base gd gm (dropAt (dl3 A B H n) (firstAt A B c d 0 n)) (mem3 P R X p) ∨
       ((f && !heardAt H (firstAt A B c d 0 n)) && !anyAt P R c d p) = true ∧ ∃ ub : Nat, w.heap.size ≤ ub ∧ w'.cell? ⟨ub, 0, none⟩ = some ev ∧ LPost w w' T base gd gm (dropAt (dl3 A B H n) (firstAt A B c d 0 n)) (remembered (mem3 P R X p) (c, d, .iface 108 (.pointer (some ⟨ub, 0, none⟩))))) := by
  have ha := any_first P R c d p
  rcases hE with ⟨rfl, rfl⟩ | ⟨rfl, j, rfl⟩
  · rcases firstAt_range A B c d n 0 with h | ⟨k, _, hk, h⟩
    · rw [h]
      refine (link_un_nil L c d h).mono ?_
      rintro e w' ⟨rfl, hp⟩
      exact ⟨rfl, .inl ⟨by simp, hp⟩⟩
    · rw [h]
      refine (link_at_nil L c d k (by omega) h).mono ?_
      rintro e w' ⟨rfl, hp⟩
      exact ⟨rfl, .inl ⟨by simp, hp⟩⟩
  · rcases firstAt_range A B c d n 0 with h | ⟨k, _, hk, h⟩
    · rw [h]
      by_cases hf : 0 ≤ firstAt P R c d 0 p
      · refine (link_un_no L c d _ _ h hf).mono ?_
        rintro e w' ⟨rfl, hp⟩
        exact ⟨rfl, .inl ⟨by simp [ha.2 hf], hp⟩⟩
      · refine (link_un_yes L c d _ _ h (by omega)).mono ?_
        rintro e w' ⟨rfl, hp⟩
        have hb : anyAt P R c d p = false := by
          cases hb : anyAt P R c d p with
          | false => rfl
          | true => exact absurd (ha.1 hb) hf
        exact ⟨rfl, .inr ⟨by simp [hb, heardAt], hp⟩⟩
    · rw [h]
      have hh : heardAt H (k : Int) = H k := by simp [heardAt]
      rw [hh]
      cases hk' : H k with
      | true =>
        refine (link_at_heard L c d _ _ k (by omega) h hk').mono ?_
        rintro e w' ⟨rfl, hp⟩
        exact ⟨rfl, .inl ⟨by simp, hp⟩⟩
      | false =>
        by_cases hf : 0 ≤ firstAt P R c d 0 p
        · refine (link_at_no L c d _ _ k (by omega) h hk' hf).mono ?_
          rintro e w' ⟨rfl, hp⟩
          exact ⟨rfl, .inl ⟨by simp [ha.2 hf], hp⟩⟩
        · refine (link_at_yes L c d _ _ k (by omega) h hk' (by omega)).mono ?_
          rintro e w' ⟨rfl, hp⟩
          have hb : anyAt P R c d p = false := by
            cases hb : anyAt P R c d p with
            | false => rfl
            | true => exact absurd (ha.1 hb) hf
          exact ⟨rfl, .inr ⟨by simp [hb], hp⟩⟩
end Go.Proofs.Ybulkbiqo
