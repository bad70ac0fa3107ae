/-
  THE WALK OF LawS4797BModel.
-/
import Derived.Test.YbulkcuiaModel
import Derived.Deep.RegionHeld3
import Derived.StillTactics
namespace Go.Proofs.Ybulkcuia
open Go.RowKit Go.Proofs.Ybulkcuia.Field
/-- what the law's own variables hold. -/
def Held2 (w : World) (A B : BitVec 128) (w' : World) : Prop :=
  Gr w w' ∧ w'.cell? ⟨w.heap.size, 0, none⟩ = some (.int .u64 (U (hi A))) ∧ w'.cell? ⟨w.heap.size, 1, none⟩ = some (.int .u64 (U (lo A)))
  ∧ w'.cell? ⟨w.heap.size + 1, 0, none⟩ = some (.int .u64 (U (hi B))) ∧ w'.cell? ⟨w.heap.size + 1, 1, none⟩ = some (.int .u64 (U (lo B)))
theorem Held2.keep {w w1 w2 : World} {A B : BitVec 128} (g : Gr w1 w2) (h : Held2 w A B w1) : Held2 w A B w2 := by
  obtain ⟨h0, h1, h2, h3, h4⟩ := h
  exact ⟨h0.trans g, g.some h1, g.some h2, g.some h3, g.some h4⟩
theorem Held2.drew {w w1 : World} {A B : BitVec 128} (h : Held2 w A B w1) : Held2 w A B w1.drew := h.keep ((Gr.refl _).drew)
theorem Held2.gr {w w1 : World} {A B : BitVec 128} (h : Held2 w A B w1) : Gr w w1 := h.1
theorem held2_0 (w : World) (A B : BitVec 128) : Held2 w A B ((w.alloc (.cells #[.int .u64 (U (hi A)), .int .u64 (U (lo A))] 24)).alloc (.cells #[.int .u64 (U (hi B)), .int .u64 (U (lo B))] 24)) := by
  refine ⟨((Gr.refl w).alloc _ _).alloc _ _, ?_, ?_, ?_, ?_⟩
  all_goals go_simp
set_option maxHeartbeats 2000000 in
theorem model_walk (A B : BitVec 128) (w : World) :
    Calls Yba.prog 3 #[.int .u64 (U (hi A)), .int .u64 (U (lo A)), .int .u64 (U (hi B)), .int .u64 (U (lo B))] w fun e w' => e = .returned (.bool true) ∧ Gr w w' := by
  have hH := held2_0 w A B
  go_enter Yba.func3, Yba.ntmps3
  go_wp2
  go_region_held3 (fun w' => Gr w w' ∧ w'.cell? ⟨w.heap.size, 0, none⟩ = some (.int .u64 (U (hi A))) ∧ w'.cell? ⟨w.heap.size, 1, none⟩ = some (.int .u64 (U (lo A)))
      ∧ w'.cell? ⟨w.heap.size + 1, 0, none⟩ = some (.int .u64 (U (hi B))) ∧ w'.cell? ⟨w.heap.size + 1, 1, none⟩ = some (.int .u64 (U (lo B))))
    (first | exact Held2.drew (by assumption) | exact Held2.keep (by assumption) (by assumption))
    (first | (go_at_call 5; refine (mul_any _ _ _).mono ?_; rintro e w' ⟨rfl, hg⟩) | (go_at_call 6; refine (model_any _ _ _).mono ?_; rintro e w' ⟨rfl, hg⟩))
  all_goals
    go_wp2
    go_ret
    exact ⟨rfl, Held2.gr (A := A) (B := B) (by assumption)⟩
end Go.Proofs.Ybulkcuia
