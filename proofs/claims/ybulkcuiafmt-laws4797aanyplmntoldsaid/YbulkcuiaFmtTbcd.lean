/-
  THE WALK OF PLMN.TBCD at a well-formed identity.
-/
import Derived.Test.YbulkcuiaFmtDigits
import Derived.StillTailTactics
namespace Go.Proofs.YbulkcuiaFmt
open Go.RowKit
/-- a region whose first n operations only read, and whose others come one behind the other: one walk. -/
theorem still_tail {P : Program} {id : Nat} {Q : Exit → Act → World → Prop} {a : Act} {w : World} {l : List Oper} (n : Nat) (hm : P.follows .mixedOrders = true) (hB : Region.lexTailB .any l.toArray n = true)
    (h : wpStill P l.toArray w.drew (fun a' => wpList P l.toArray Q (l.drop n) a' w.drew) (l.take n) a) : (Code.region id l.toArray true).wp P Q a w :=
  wp_region_still_tail n hm hB h
/-- the digit of a byte. -/
def dv (a : Int) : Int := (a - 48) % 256
/-- two digits in one octet. -/
def nb (a b : Int) : Int := bits .or .u8 (a * 16 % 256) b
theorem nb_15 (b : Int) : bits .or .u8 240 b = nb 15 b := rfl
set_option maxRecDepth 100000 in
set_option maxHeartbeats 1000000 in
theorem tbcd3 (mcc mnc : ByteArray) (w : World) (hw : WF mcc mnc = true) (c1 : mcc.size = 3) (c2 : mnc.size = 3) (m0 m1 m2 n0 n1 n2 : Int)
    (i0 : ∀ w : World, (Instr.index 9 (.string mcc) (.int .i64 0)).run Ybaf.prog w = .ok (.int .u8 m0) w)
    (i1 : ∀ w : World, (Instr.index 9 (.string mcc) (.int .i64 1)).run Ybaf.prog w = .ok (.int .u8 m1) w)
    (i2 : ∀ w : World, (Instr.index 9 (.string mcc) (.int .i64 2)).run Ybaf.prog w = .ok (.int .u8 m2) w)
    (j0 : ∀ w : World, (Instr.index 9 (.string mnc) (.int .i64 0)).run Ybaf.prog w = .ok (.int .u8 n0) w)
    (j1 : ∀ w : World, (Instr.index 9 (.string mnc) (.int .i64 1)).run Ybaf.prog w = .ok (.int .u8 n1) w)
    (j2 : ∀ w : World, (Instr.index 9 (.string mnc) (.int .i64 2)).run Ybaf.prog w = .ok (.int .u8 n2) w) :
    Calls Ybaf.prog 19 #[.agg #[.string mcc, .string mnc]] w fun e w' => e = .returned (.tuple #[.agg #[.int .u8 (nb (dv m1) (dv m0)), .int .u8 (nb (dv n2) (dv m2)), .int .u8 (nb (dv n1) (dv n0))], .nilIface]) ∧ Below w.heap.size w w' := by
  have h1 : mcc.size ≤ maxLen := by unfold maxLen; omega
  have h2 : mnc.size ≤ maxLen := by unfold maxLen; omega
  go_enter Ybaf.func19, Ybaf.ntmps19
  go_wp2_with (go_at_call 28; refine (wf_any _ _ _ h1 h2).mono ?_; rintro e w' ⟨rfl, rfl⟩)
  refine still_tail 28 (by kernel_rfl) (by kernel_rfl) ?_
  simp only [List.take_succ_cons, List.take_zero, List.drop_succ_cons, List.drop_zero]
  repeat still_step
  refine wpStill_nil ?_
  go_wp2
  simp [bodyPost, results, Ybaf.results19, go_sem]
  exact ⟨⟨rfl, rfl, rfl⟩, (((((Below.refl _ _).alloc (Nat.le_refl _) _).alloc (by simp) _).alloc (by simp; omega) _).drew)⟩
set_option maxRecDepth 100000 in
set_option maxHeartbeats 1000000 in
theorem tbcd2 (mcc mnc : ByteArray) (w : World) (hw : WF mcc mnc = true) (c1 : mcc.size = 3) (c2 : mnc.size = 2) (m0 m1 m2 n0 n1 : Int)
    (i0 : ∀ w : World, (Instr.index 9 (.string mcc) (.int .i64 0)).run Ybaf.prog w = .ok (.int .u8 m0) w)
    (i1 : ∀ w : World, (Instr.index 9 (.string mcc) (.int .i64 1)).run Ybaf.prog w = .ok (.int .u8 m1) w)
    (i2 : ∀ w : World, (Instr.index 9 (.string mcc) (.int .i64 2)).run Ybaf.prog w = .ok (.int .u8 m2) w)
    (j0 : ∀ w : World, (Instr.index 9 (.string mnc) (.int .i64 0)).run Ybaf.prog w = .ok (.int .u8 n0) w)
    (j1 : ∀ w : World, (Instr.index 9 (.string mnc) (.int .i64 1)).run Ybaf.prog w = .ok (.int .u8 n1) w) :
    Calls Ybaf.prog 19 #[.agg #[.string mcc, .string mnc]] w fun e w' => e = .returned (.tuple #[.agg #[.int .u8 (nb (dv m1) (dv m0)), .int .u8 (nb 15 (dv m2)), .int .u8 (nb (dv n1) (dv n0))], .nilIface]) ∧ Below w.heap.size w w' := by
  have h1 : mcc.size ≤ maxLen := by unfold maxLen; omega
  have h2 : mnc.size ≤ maxLen := by unfold maxLen; omega
  go_enter Ybaf.func19, Ybaf.ntmps19
  go_wp2_with (go_at_call 28; refine (wf_any _ _ _ h1 h2).mono ?_; rintro e w' ⟨rfl, rfl⟩)
  refine still_tail 28 (by kernel_rfl) (by kernel_rfl) ?_
  simp only [List.take_succ_cons, List.take_zero, List.drop_succ_cons, List.drop_zero]
  repeat still_step
  refine wpStill_nil ?_
  go_wp2
  simp [bodyPost, results, Ybaf.results19, go_sem]
  exact ⟨⟨rfl, rfl, rfl⟩, (((((Below.refl _ _).alloc (Nat.le_refl _) _).alloc (by simp) _).alloc (by simp; omega) _).drew)⟩
/-- what the third digit of the MNC contributes. -/
def third (mnc : ByteArray) : Int := if h : mnc.size = 3 then dv ((mnc[2]'(by omega)).toNat : Int) else 15
/-- the TBCD octets of a well-formed identity. -/
def tbOf (mcc mnc : ByteArray) (h1 : mcc.size = 3) (h2 : 2 ≤ mnc.size) : List Int :=
  [nb (dv ((mcc[1]'(by omega)).toNat : Int)) (dv ((mcc[0]'(by omega)).toNat : Int)), nb (third mnc) (dv ((mcc[2]'(by omega)).toNat : Int)), nb (dv ((mnc[1]'(by omega)).toNat : Int)) (dv ((mnc[0]'(by omega)).toNat : Int))]
theorem at_string (s : ByteArray) (k : Nat) (hk : k < s.size) (w : World) : (Instr.index 9 (.string s) (.int .i64 (k : Int))).run Ybaf.prog w = .ok (.int .u8 (s[k].toNat : Int)) w := by
  have h := run_index_string (P := Ybaf.prog) w 9 s .i64 (k : Int) Ybaf.underlying9
  rw [dif_pos ⟨by omega, by omega⟩] at h
  simpa using h
theorem WF.sizes {mcc mnc : ByteArray} (h : WF mcc mnc = true) : mcc.size = 3 ∧ (mnc.size = 2 ∨ mnc.size = 3) ∧ dg mcc = true ∧ dg mnc = true := by
  simpa [WF, and_assoc] using h
/-- PLMN.TBCD at a well-formed identity. -/
theorem tbcd_yes (mcc mnc : ByteArray) (w : World) (hw : WF mcc mnc = true) (h1 : mcc.size = 3) (h2 : 2 ≤ mnc.size) :
    Calls Ybaf.prog 19 #[.agg #[.string mcc, .string mnc]] w fun e w' => e = .returned (.tuple #[.agg ((tbOf mcc mnc h1 h2).map (Value.int .u8)).toArray, .nilIface]) ∧ Below w.heap.size w w' := by
  obtain ⟨_, h3, _, _⟩ := WF.sizes hw
  rcases h3 with h3 | h3
  · have ht : third mnc = 15 := by unfold third; rw [dif_neg (by omega)]
    have h := tbcd2 mcc mnc w hw h1 h3 _ _ _ _ _ (at_string mcc 0 (by omega)) (at_string mcc 1 (by omega)) (at_string mcc 2 (by omega)) (at_string mnc 0 (by omega)) (at_string mnc 1 (by omega))
    unfold tbOf
    rw [ht]
    exact h
  · have ht : third mnc = dv ((mnc[2]'(by omega)).toNat : Int) := by unfold third; rw [dif_pos h3]
    have h := tbcd3 mcc mnc w hw h1 h3 _ _ _ _ _ _ (at_string mcc 0 (by omega)) (at_string mcc 1 (by omega)) (at_string mcc 2 (by omega)) (at_string mnc 0 (by omega)) (at_string mnc 1 (by omega)) (at_string mnc 2 (by omega))
    unfold tbOf
    rw [ht]
    exact h
end Go.Proofs.YbulkcuiaFmt
