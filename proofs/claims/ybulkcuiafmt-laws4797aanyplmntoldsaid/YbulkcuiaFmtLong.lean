/-
  THE TWO LAWS AT A SLICE OF MORE THAN 1024 BYTES: they return true at once.
-/
import Derived.Test.YbulkcuiaFmtCards
import Derived.WalkKit
import Derived.WalkSpells
import Derived.WalkLawsBesides
import Derived.ProofKit
namespace Go.Proofs.YbulkcuiaFmt
open Go.RowKit
set_option maxHeartbeats 400000 in
theorem well_long (a : Option Addr) (n cap : Nat) (tvp a0 a1 a2 a3 a4 a5 p0 p1 p2 p3 x0 x1 x2 y0 y1 y2 spi ct code : Int) (three : Bool) (w : World) (hl : 1024 < n) (hm : n ≤ maxLen) :
    Calls Ybaf.prog 3 #[.slice a n cap, .int .u32 tvp, .agg #[.int .u8 a0, .int .u8 a1, .int .u8 a2, .int .u8 a3, .int .u8 a4, .int .u8 a5], .agg #[.int .u8 p0, .int .u8 p1, .int .u8 p2, .int .u8 p3],
        .agg #[.int .u8 x0, .int .u8 x1, .int .u8 x2], .agg #[.int .u8 y0, .int .u8 y1, .int .u8 y2], .bool three, .int .u32 spi, .int .u8 ct, .int .u8 code] w
      fun e w' => e = .returned (.bool true) ∧ Below w.heap.size w w' := by
  unfold maxLen at hm
  have hlI : (1024 : Int) < (n : Int) := by omega
  go_enter Ybaf.func3, Ybaf.ntmps3
  go_wp2
  go_ret
  exact ⟨rfl, ((((Below.refl _ w).alloc (Nat.le_refl _) _).alloc (by simp) _).alloc (by simp; omega) _).alloc (by simp; omega) _⟩
set_option maxHeartbeats 400000 in
theorem any_long (a : Option Addr) (n cap : Nat) (mcc mnc : ByteArray) (tvp a0 a1 a2 a3 a4 a5 spi ct code : Int) (w : World) (hl : 1024 < n) (hm : n ≤ maxLen) :
    Calls Ybaf.prog 4 #[.slice a n cap, .string mcc, .string mnc, .int .u32 tvp, .agg #[.int .u8 a0, .int .u8 a1, .int .u8 a2, .int .u8 a3, .int .u8 a4, .int .u8 a5], .int .u32 spi, .int .u8 ct, .int .u8 code] w
      fun e w' => e = .returned (.bool true) ∧ Below w.heap.size w w' := by
  unfold maxLen at hm
  have hlI : (1024 : Int) < (n : Int) := by omega
  go_enter Ybaf.func4, Ybaf.ntmps4
  go_wp2
  go_ret
  exact ⟨rfl, (Below.refl _ w).alloc (Nat.le_refl _) _⟩
end Go.Proofs.YbulkcuiaFmt
