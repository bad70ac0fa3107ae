/-
  THE WALK OF zzs4797bcoef.
-/
import Derived.Test.YbulkcuiaMul
namespace Go.Proofs.Ybulkcuia
open Go.RowKit Go.Proofs.Ybulkcuia.Field
/-- the number of a bit. -/
def bn (b : Bool) : Int := if b then 1 else 0
theorem shrn_U (x : BitVec 64) (n : Nat) : U x / (2 : Int) ^ n = U (x >>> n) := by
  unfold U; rw [BitVec.toNat_ushiftRight, Nat.shiftRight_eq_div_pow]; simp
theorem bit_U (x : BitVec 64) (n : Nat) : bits .and .u64 (U x / (2 : Int) ^ n) 1 = bn (x.getLsbD n) := by
  rw [shrn_U, and_one_U, shr_and]; cases x.getLsbD n <;> rfl
set_option maxHeartbeats 400000 in
/-- zzs4797bcoef -/
theorem coef_any (A : BitVec 128) (i : Nat) (h : i < 128) (w : World) :
    Calls Yba.prog 9 #[.agg #[.int .u64 (U (hi A)), .int .u64 (U (lo A))], .int .i64 (i : Int)] w fun e w' =>
      e = .returned (.int .u64 (bn (co A i))) ∧ Gr w w' := by
  by_cases h64 : i < 64
  · have hI : (i : Int) < 64 := by omega
    have e := bit_U (hi A) (63 - i)
    rw [← co_hi A i h64] at e
    go_enter Yba.func9, Yba.ntmps9
    go_wp2
    go_ret
    exact ⟨rfl, (Gr.refl w).alloc _ _⟩
  · have hI : ¬ (i : Int) < 64 := by omega
    have hJ : (i : Int) < 128 := by omega
    have e := bit_U (lo A) (127 - i)
    have e2 := co_lo A (i - 64) (by omega)
    rw [show 64 + (i - 64) = i by omega, show 63 - (i - 64) = 127 - i by omega] at e2
    rw [← e2] at e
    clear e2
    go_enter Yba.func9, Yba.ntmps9
    go_wp2
    go_ret
    exact ⟨rfl, (Gr.refl w).alloc _ _⟩
end Go.Proofs.Ybulkcuia
