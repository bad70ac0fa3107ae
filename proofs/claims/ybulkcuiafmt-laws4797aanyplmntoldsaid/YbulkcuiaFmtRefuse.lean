/-
  THE REFUSED WAY: an identity that is not well formed: PLMN.String, notMCCMNC, fmt.Errorf, PLMN.TBCD.
-/
import Derived.Test.YbulkcuiaFmtFacts
import Derived.Test.YbulkcuiaFmtDigits
import Derived.Test.YbulkcuiaFmtTbcd
import Derived.Stop.Texts
namespace Go.Proofs.YbulkcuiaFmt
open Go.RowKit Go.Extern.Stop Go.Stop Go.Extern
/-- the world at a call, under a name. -/
theorem calls_gen2 {P : Program} {f : FuncId} {args : Array Value} {w : World} {Q : Ending → World → Prop} (h : ∀ W, W = w → Calls P f args W Q) : Calls P f args w Q := h w rfl
attribute [local go_sem] call40 guard_any op9_113 op9_113w ptr115 elem115
set_option maxHeartbeats 400000 in
/-- PLMN.String -/
theorem string_any (mcc mnc : ByteArray) (w : World) (h1 : mcc.size ≤ 281474976710656) (h2 : mnc.size ≤ 281474976710656) :
    Calls Ybaf.prog 30 #[.agg #[.string mcc, .string mnc]] w fun e w' => (∃ s, e = .returned (.string s)) ∧ Below w.heap.size w w' := by
  go_enter Ybaf.func30, Ybaf.ntmps30
  go_wp2
  go_ret
  exact ⟨⟨_, rfl⟩, (Below.refl _ _).alloc (Nat.le_refl _) _⟩
theorem printed1 : FmtStop.printed? ⟨fmtB.toArray⟩ 1 = some [(0, 113, false)] := by kernel_rfl
theorem printed1r (w : World) : (FmtDoors.printed ⟨fmtB.toArray⟩ 1).run Ybaf.prog w = .ok [(0, 113, false)] w := by kernel_rfl
set_option maxRecDepth 100000 in
set_option maxHeartbeats 400000 in
/-- notMCCMNC -/
theorem refuse_any (F : Interp) (s : ByteArray) (w : World) (hF : F.answers w.tape) :
    Calls Ybaf.prog 29 #[.string s] w fun e w' => (∃ a, e = .returned (.iface 115 (.pointer (some a)))) ∧ Below w.heap.size w w' := by
  have hF' := answers_open hF
  have p1 := printed1
  have p2 := printed1r
  unfold fmtB at p1 p2
  go_enter Ybaf.func29, Ybaf.ntmps29
  go_wp2
  go_ret
  exact ⟨⟨_, rfl⟩, (((Below.refl _ _).alloc (Nat.le_refl _) _).alloc (by simp) _).drew⟩
set_option maxRecDepth 100000 in
set_option maxHeartbeats 1000000 in
/-- PLMN.TBCD at an identity that is not well formed. -/
theorem tbcd_no (F : Interp) (mcc mnc : ByteArray) (w : World) (hF : F.answers w.tape) (hw : WF mcc mnc = false) (h1 : mcc.size ≤ 281474976710656) (h2 : mnc.size ≤ 281474976710656) :
    Calls Ybaf.prog 19 #[.agg #[.string mcc, .string mnc]] w fun e w' => (∃ a, e = .returned (.tuple #[.agg #[.int .u8 0, .int .u8 0, .int .u8 0], .iface 115 (.pointer (some a))])) ∧ Below w.heap.size w w' := by
  have h1' : mcc.size ≤ maxLen := by unfold maxLen; omega
  have h2' : mnc.size ≤ maxLen := by unfold maxLen; omega
  have hFh : Hid (F.answers w.tape) := hF
  clear hF
  go_enter Ybaf.func19, Ybaf.ntmps19
  go_wp2_with (go_at_call 28; refine (wf_any _ _ _ h1' h2').mono ?_; rintro e w' ⟨rfl, rfl⟩)
  refine calls_gen2 fun W hW => ?_
  have c0 : W.cell? ⟨w.heap.size + 1, 0, none⟩ = some (.int .u8 0) := by rw [hW]; go_simp
  have c1 : W.cell? ⟨w.heap.size + 1, 1, none⟩ = some (.int .u8 0) := by rw [hW]; go_simp
  have c2 : W.cell? ⟨w.heap.size + 1, 2, none⟩ = some (.int .u8 0) := by rw [hW]; go_simp
  have f0 : W.frozen? ⟨w.heap.size + 1, 0, none⟩ = false := by rw [hW]; go_simp
  have f1 : W.frozen? ⟨w.heap.size + 1, 1, none⟩ = false := by rw [hW]; go_simp
  have f2 : W.frozen? ⟨w.heap.size + 1, 2, none⟩ = false := by rw [hW]; go_simp
  have hbel : Below w.heap.size w W := by rw [hW]; exact (((Below.refl _ w).alloc (Nat.le_refl _) _).alloc (by simp) _).alloc (by simp; omega) _
  have hsz : W.heap.size = w.heap.size + 3 := by rw [hW]; simp
  clear hW
  refine (string_any mcc mnc W h1 h2).mono ?_
  rintro e w2 ⟨⟨s, rfl⟩, hb2⟩
  go_wp2_with fail
  refine (refuse_any F s w2 (by rw [hb2.tape, hbel.tape]; exact hFh.out)).mono ?_
  rintro e w3 ⟨⟨a, rfl⟩, hb3⟩
  have hb : Below W.heap.size W w3 := hb2.trans (hb3.mono hb2.size)
  have d0 := (hb.cell (p := ⟨w.heap.size + 1, 0, none⟩) (by simp; omega)).trans c0
  have d1 := (hb.cell (p := ⟨w.heap.size + 1, 1, none⟩) (by simp; omega)).trans c1
  have d2 := (hb.cell (p := ⟨w.heap.size + 1, 2, none⟩) (by simp; omega)).trans c2
  have g0 := (hb.frozen (p := ⟨w.heap.size + 1, 0, none⟩) (by simp; omega)).trans f0
  have g1 := (hb.frozen (p := ⟨w.heap.size + 1, 1, none⟩) (by simp; omega)).trans f1
  have g2 := (hb.frozen (p := ⟨w.heap.size + 1, 2, none⟩) (by simp; omega)).trans f2
  have hbel3 : Below w.heap.size w w3 := hbel.trans (hb.mono hbel.size)
  clear c0 c1 c2 f0 f1 f2 hb2 hb3 hb hbel hsz
  go_wp2
  simp [bodyPost, results, Ybaf.results19, go_sem, *]
  exact ((hbel3.setCell (by simp) _).setCell (by simp) _).setCell (by simp) _
set_option maxRecDepth 100000 in
set_option maxHeartbeats 1000000 in
/-- appendHeader at an identity that is not well formed. -/
theorem header_no (F : Interp) (v : Value) (hb : Nat) (mcc mnc : ByteArray) (w : World) (hF : F.answers w.tape) (c11 : w.cell? ⟨hb, 11, none⟩ = some (.string mcc)) (c12 : w.cell? ⟨hb, 12, none⟩ = some (.string mnc))
    (hw : WF mcc mnc = false) (h1 : mcc.size ≤ 281474976710656) (h2 : mnc.size ≤ 281474976710656) :
    Calls Ybaf.prog 8 #[v, .pointer (some ⟨hb, 0, none⟩)] w fun e w' => (∃ a, e = .returned (.tuple #[.slice none 0 0, .iface 115 (.pointer (some a))])) ∧ Below w.heap.size w w' := by
  have hcall := tbcd_no F mcc mnc w hF hw h1 h2
  clear hF
  go_enter Ybaf.func8, Ybaf.ntmps8
  go_wp2_with (go_at_call 19; refine hcall.mono ?_; rintro e w1 ⟨⟨a, rfl⟩, hw1⟩)
  go_ret2
  exact ⟨⟨a, rfl⟩, hw1.alloc hw1.size _⟩
end Go.Proofs.YbulkcuiaFmt
