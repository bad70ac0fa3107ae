/-
  THE WALK OF LawS4797AAnyPLMN at an identity that is not well formed.
-/
import Derived.Test.YbulkcuiaFmtWell
import Derived.Test.YbulkcuiaFmtRefuse
namespace Go.Proofs.YbulkcuiaFmt
open Go.RowKit Go.Extern.Stop Go.Stop Go.Extern
set_option maxRecDepth 100000 in
set_option maxHeartbeats 4000000 in
theorem anyno (F : Interp) (a : Option Addr) (cap : Nat) (l : List Int) (mcc mnc : ByteArray) (tvp a0 a1 a2 a3 a4 a5 spi ct code : Int) (w : World) (hl : l.length ≤ 1024) (hr : Rd w (.slice a l.length cap) l) (hF : F.answers w.tape)
    (hwf : WF mcc mnc = false) (g1 : mcc.size ≤ 281474976710656) (g2 : mnc.size ≤ 281474976710656) :
    Calls Ybaf.prog 4 #[.slice a l.length cap, .string mcc, .string mnc, .int .u32 tvp, .agg #[.int .u8 a0, .int .u8 a1, .int .u8 a2, .int .u8 a3, .int .u8 a4, .int .u8 a5], .int .u32 spi, .int .u8 ct, .int .u8 code] w
      fun e w' => e = .returned (.bool true) ∧ Below w.heap.size w w' := by
  have z1 : mcc.size ≤ maxLen := by unfold maxLen; omega
  have z2 : mnc.size ≤ maxLen := by unfold maxLen; omega
  have hFh : Hid (F.answers w.tape) := hF
  clear hF
  have he := fun w : World => Lib.run_eql_slice_nil (P := Ybaf.prog) w 22 5 none 0 0 0 0 Ybaf.underlying22
  generalize hn : l.length = n at hl
  have hlI : ¬ (1024 : Int) < (n : Int) := by omega
  go_enter Ybaf.func4, Ybaf.ntmps4
  go_wp2_with fail
  refine calls_gen fun W hW => ?_
  have hsz : W.heap.size = w.heap.size + 3 := by rw [hW]; simp
  have hbel : Below w.heap.size w W := by
    rw [hW]
    exact (((Below.refl _ w).alloc (Nat.le_refl _) _).alloc (by simp) _).alloc (by simp; omega) _
  have hns : At W w.heap.size [a0, a1, a2, a3, a4, a5] := by
    intro j hj
    rw [hW]
    match j, hj with
    | 0, _ => go_simp
    | 1, _ => go_simp
    | 2, _ => go_simp
    | 3, _ => go_simp
    | 4, _ => go_simp
    | 5, _ => go_simp
  have hps : At W (w.heap.size + 1) [tvp % 256, spi % 256, ct, code] := by
    intro j hj
    rw [hW]
    match j, hj with
    | 0, _ => go_simp
    | 1, _ => go_simp
    | 2, _ => go_simp
    | 3, _ => go_simp
  have hts : At W w.heap.size [] := fun j hj => absurd hj (by simp)
  have hhd : Hd W (w.heap.size + 1 + 1) tvp [a0, a1, a2, a3, a4, a5] [tvp % 256, spi % 256, ct, code] mcc mnc spi ct code := by
    have hc := fun (j : Nat) (u : Value) (hj : [Value.int .u32 tvp, .int .u8 a0, .int .u8 a1, .int .u8 a2, .int .u8 a3, .int .u8 a4, .int .u8 a5, .int .u8 (tvp % 256), .int .u8 (spi % 256), .int .u8 ct, .int .u8 code, .string mcc, .string mnc, .int .u32 spi, .int .u8 ct, .int .u8 code][j]? = some u) =>
      (show W.cell? ((⟨w.heap.size + 1 + 1, 0, none⟩ : Addr).add j) = some u by rw [hW]; exact new_cellsT _ _ 34 _ (by simp) j u hj)
    exact hd_of hc
  clear hW
  have hrn : Rd w (.slice a n cap) l := by rw [← hn]; exact hr
  have hS : St w W (w.heap.size + 1 + 1) w.heap.size (w.heap.size + 1) w.heap.size tvp [a0, a1, a2, a3, a4, a5] [tvp % 256, spi % 256, ct, code] [] mcc mnc spi ct code (.slice a n cap) l := ⟨hbel, hhd, hns, hps, hts, rd_below hrn hbel⟩
  clear hbel hhd hns hps hts
  refine (clone_any W hS.rd (by omega)).mono ?_
  rintro e W1 ⟨bc, rfl, hO1, hb1⟩
  have hS1 := hS.grown hrn (below_toGrown hb1) W.heap.size (fun k hk => by cases hk) (by omega)
  have hsz1 := hb1.size
  go_wp2_with fail
  refine (header_no F bc (w.heap.size + 1 + 1) mcc mnc W1 (by rw [hS1.below.tape]; exact hFh.out) hS1.hd.2.2.2.1 hS1.hd.2.2.2.2.1 hwf g1 g2).mono ?_
  rintro e W2 ⟨⟨ea, rfl⟩, hb2⟩
  have hK2 := hO1.grown (below_toGrown hb2)
  have hS2 := hS1.grown hrn (below_toGrown hb2) W.heap.size (fun k hk => by cases hk) (by omega)
  have hbel2 := hS2.below
  have hrd2 := hS2.rd
  clear hS hS1 hO1 hb1 hb2 hS2
  go_wp2_with fail
  refine (eq_any W2 hK2.rd hrd2 (by omega)).mono ?_
  rintro e W3 ⟨rfl, d, rfl⟩
  clear hK2 hrd2 hFh
  have hW := hwf
  by_cases c1 : mcc.size = 3
  · by_cases c2 : mnc.size = 2
    · cases d1 : dg mcc with
      | false =>
        clear hwf hW
        go_wp2_with (go_at_call 11; refine (adigits_any _ _ (by assumption)).mono ?_; rintro e w' ⟨rfl, rfl⟩)
        go_ret
        exact ⟨rfl, below_drewN hbel2 d⟩
      | true =>
        have d2 : dg mnc = false := by simpa [WF, c1, c2, d1] using hW
        clear hwf hW
        go_wp2_with (go_at_call 11; refine (adigits_any _ _ (by assumption)).mono ?_; rintro e w' ⟨rfl, rfl⟩)
        go_ret
        exact ⟨rfl, below_drewN hbel2 d⟩
    · by_cases c3 : mnc.size = 3
      · have c2' : ((mnc.size : Int) == 2) = false := by simp [c3]
        cases d1 : dg mcc with
        | false =>
          clear hwf hW
          go_wp2_with (go_at_call 11; refine (adigits_any _ _ (by assumption)).mono ?_; rintro e w' ⟨rfl, rfl⟩)
          go_ret
          exact ⟨rfl, below_drewN hbel2 d⟩
        | true =>
          have d2 : dg mnc = false := by simpa [WF, c1, c3, d1] using hW
          clear hwf hW
          go_wp2_with (go_at_call 11; refine (adigits_any _ _ (by assumption)).mono ?_; rintro e w' ⟨rfl, rfl⟩)
          go_ret
          exact ⟨rfl, below_drewN hbel2 d⟩
      · have c2' : ((mnc.size : Int) == 2) = false := by simp; omega
        have c3' : ((mnc.size : Int) == 3) = false := by simp; omega
        clear hwf hW
        go_wp2
        go_ret
        exact ⟨rfl, below_drewN hbel2 d⟩
  · have c1' : ((mcc.size : Int) == 3) = false := by simp; omega
    clear hwf hW
    go_wp2
    go_ret
    exact ⟨rfl, below_drewN hbel2 d⟩
end Go.Proofs.YbulkcuiaFmt
