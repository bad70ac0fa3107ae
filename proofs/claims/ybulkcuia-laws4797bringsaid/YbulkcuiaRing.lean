/-
  THE WALK OF LawS4797BRing.
-/
import Derived.Test.YbulkcuiaMul
import Derived.Deep.RegionHeld3
import Derived.StillTactics
namespace Go.Proofs.Ybulkcuia
open Go.RowKit Go.Proofs.Ybulkcuia.Field
/-- add, said of elements. -/
theorem add_el (A B : BitVec 128) (w : World) :
    Calls Yba.prog 7 #[.agg #[.int .u64 (U (hi A)), .int .u64 (U (lo A))], .agg #[.int .u64 (U (hi B)), .int .u64 (U (lo B))]] w fun e w' =>
      e = .returned (.agg #[.int .u64 (U (hi (A ^^^ B))), .int .u64 (U (lo (A ^^^ B)))]) ∧ Gr w w' := by
  rw [hi_xor, lo_xor]; exact add_gr _ _ _ _ w
/-- what the law's own variables hold. -/
def Held (w : World) (A B C : BitVec 128) (w' : World) : Prop :=
  Gr w w' ∧ w'.cell? ⟨w.heap.size, 0, none⟩ = some (.int .u64 (U (hi A))) ∧ w'.cell? ⟨w.heap.size, 1, none⟩ = some (.int .u64 (U (lo A)))
  ∧ w'.cell? ⟨w.heap.size + 1, 0, none⟩ = some (.int .u64 (U (hi B))) ∧ w'.cell? ⟨w.heap.size + 1, 1, none⟩ = some (.int .u64 (U (lo B)))
  ∧ w'.cell? ⟨w.heap.size + 1 + 1, 0, none⟩ = some (.int .u64 (U (hi C))) ∧ w'.cell? ⟨w.heap.size + 1 + 1, 1, none⟩ = some (.int .u64 (U (lo C)))
  ∧ w'.cell? ⟨w.heap.size + 1 + 1 + 1, 0, none⟩ = some (.int .u64 (U (hi one))) ∧ w'.cell? ⟨w.heap.size + 1 + 1 + 1, 1, none⟩ = some (.int .u64 (U (lo one)))
theorem Gr.some {w w' : World} (g : Gr w w') {p : Addr} {v : Value} (h : w.cell? p = some v) : w'.cell? p = some v :=
  (g.cell (World.block_lt_of_cell? w p h)).trans h
theorem Held.keep {w w1 w2 : World} {A B C : BitVec 128} (g : Gr w1 w2) (h : Held w A B C w1) : Held w A B C w2 := by
  obtain ⟨h0, h1, h2, h3, h4, h5, h6, h7, h8⟩ := h
  exact ⟨h0.trans g, g.some h1, g.some h2, g.some h3, g.some h4, g.some h5, g.some h6, g.some h7, g.some h8⟩
theorem Held.drew {w w1 : World} {A B C : BitVec 128} (h : Held w A B C w1) : Held w A B C w1.drew := h.keep ((Gr.refl _).drew)
theorem Held.gr {w w1 : World} {A B C : BitVec 128} (h : Held w A B C w1) : Gr w w1 := h.1
theorem held0 (w : World) (A B C : BitVec 128) : Held w A B C ((((w.alloc (.cells #[.int .u64 (U (hi A)), .int .u64 (U (lo A))] 24)).alloc (.cells #[.int .u64 (U (hi B)), .int .u64 (U (lo B))] 24)).alloc (.cells #[.int .u64 (U (hi C)), .int .u64 (U (lo C))] 24)).alloc (.cells #[.int .u64 9223372036854775808, .int .u64 0] 24)) := by
  have e1 : (9223372036854775808 : Int) = U (hi one) := by decide
  have e2 : (0 : Int) = U (lo one) := by decide
  rw [e1, e2]
  refine ⟨((((Gr.refl w).alloc _ _).alloc _ _).alloc _ _).alloc _ _, ?_, ?_, ?_, ?_, ?_, ?_, ?_, ?_⟩
  all_goals clear e1 e2; go_simp

/-- mul by the zero value. -/
theorem mul_zero_el (A : BitVec 128) (w : World) :
    Calls Yba.prog 5 #[.agg #[.int .u64 (U (hi A)), .int .u64 (U (lo A))], .agg #[.int .u64 0, .int .u64 0]] w fun e w' =>
      e = .returned (.agg #[.int .u64 0, .int .u64 0]) ∧ Gr w w' := by
  have h := mul_any A 0#128 w
  rw [mul_zero] at h
  exact h
set_option maxHeartbeats 2000000 in
theorem ring_walk (A B C : BitVec 128) (w : World) :
    Calls Yba.prog 4 #[.int .u64 (U (hi A)), .int .u64 (U (lo A)), .int .u64 (U (hi B)), .int .u64 (U (lo B)), .int .u64 (U (hi C)), .int .u64 (U (lo C))] w fun e w' => e = .returned (.bool true) ∧ Gr w w' := by
  have hH := held0 w A B C
  have q1 := mul_comm B A
  have q2 := mul_one A
  have q3 := one_mul A
  have q4 := mul_xor A B C
  go_enter Yba.func4, Yba.ntmps4
  go_wp2
  go_region_held3 (fun w' => Gr w w' ∧ w'.cell? ⟨w.heap.size, 0, none⟩ = some (.int .u64 (U (hi A))) ∧ w'.cell? ⟨w.heap.size, 1, none⟩ = some (.int .u64 (U (lo A)))
      ∧ w'.cell? ⟨w.heap.size + 1, 0, none⟩ = some (.int .u64 (U (hi B))) ∧ w'.cell? ⟨w.heap.size + 1, 1, none⟩ = some (.int .u64 (U (lo B)))
      ∧ w'.cell? ⟨w.heap.size + 1 + 1, 0, none⟩ = some (.int .u64 (U (hi C))) ∧ w'.cell? ⟨w.heap.size + 1 + 1, 1, none⟩ = some (.int .u64 (U (lo C)))
      ∧ w'.cell? ⟨w.heap.size + 1 + 1 + 1, 0, none⟩ = some (.int .u64 (U (hi one))) ∧ w'.cell? ⟨w.heap.size + 1 + 1 + 1, 1, none⟩ = some (.int .u64 (U (lo one))))
    (first | exact Held.drew (by assumption) | exact Held.keep (by assumption) (by assumption))
    (first | (go_at_call 5; refine (mul_any _ _ _).mono ?_; rintro e w' ⟨rfl, hg⟩) | (go_at_call 7; refine (add_el _ _ _).mono ?_; rintro e w' ⟨rfl, hg⟩))
  go_wp2
  go_region_held3 (fun w' => Gr w w' ∧ w'.cell? ⟨w.heap.size, 0, none⟩ = some (.int .u64 (U (hi A))) ∧ w'.cell? ⟨w.heap.size, 1, none⟩ = some (.int .u64 (U (lo A)))
      ∧ w'.cell? ⟨w.heap.size + 1, 0, none⟩ = some (.int .u64 (U (hi B))) ∧ w'.cell? ⟨w.heap.size + 1, 1, none⟩ = some (.int .u64 (U (lo B)))
      ∧ w'.cell? ⟨w.heap.size + 1 + 1, 0, none⟩ = some (.int .u64 (U (hi C))) ∧ w'.cell? ⟨w.heap.size + 1 + 1, 1, none⟩ = some (.int .u64 (U (lo C)))
      ∧ w'.cell? ⟨w.heap.size + 1 + 1 + 1, 0, none⟩ = some (.int .u64 (U (hi one))) ∧ w'.cell? ⟨w.heap.size + 1 + 1 + 1, 1, none⟩ = some (.int .u64 (U (lo one))))
    (first | exact Held.drew (by assumption) | exact Held.keep (by assumption) (by assumption))
    (first | (go_at_call 5; refine (mul_any _ _ _).mono ?_; rintro e w' ⟨rfl, hg⟩) | (go_at_call 7; refine (add_el _ _ _).mono ?_; rintro e w' ⟨rfl, hg⟩))
  go_wp2_with fail
  refine (mul_zero_el _ _).mono ?_
  rintro e w3 ⟨rfl, hg3⟩
  have hH3 : Held w A B C w3 := Held.keep hg3 (by assumption)
  go_wp2
  go_region_held3 (fun w' => Gr w w' ∧ w'.cell? ⟨w.heap.size, 0, none⟩ = some (.int .u64 (U (hi A))) ∧ w'.cell? ⟨w.heap.size, 1, none⟩ = some (.int .u64 (U (lo A)))
      ∧ w'.cell? ⟨w.heap.size + 1, 0, none⟩ = some (.int .u64 (U (hi B))) ∧ w'.cell? ⟨w.heap.size + 1, 1, none⟩ = some (.int .u64 (U (lo B)))
      ∧ w'.cell? ⟨w.heap.size + 1 + 1, 0, none⟩ = some (.int .u64 (U (hi C))) ∧ w'.cell? ⟨w.heap.size + 1 + 1, 1, none⟩ = some (.int .u64 (U (lo C)))
      ∧ w'.cell? ⟨w.heap.size + 1 + 1 + 1, 0, none⟩ = some (.int .u64 (U (hi one))) ∧ w'.cell? ⟨w.heap.size + 1 + 1 + 1, 1, none⟩ = some (.int .u64 (U (lo one))))
    (first | exact Held.drew (by assumption) | exact Held.keep (by assumption) (by assumption))
    (first | (go_at_call 5; refine (mul_any _ _ _).mono ?_; rintro e w' ⟨rfl, hg⟩) | (go_at_call 7; refine (add_el _ _ _).mono ?_; rintro e w' ⟨rfl, hg⟩))
  go_wp2
  go_ret
  exact ⟨rfl, Held.gr (A := A) (B := B) (C := C) (by assumption)⟩
end Go.Proofs.Ybulkcuia
