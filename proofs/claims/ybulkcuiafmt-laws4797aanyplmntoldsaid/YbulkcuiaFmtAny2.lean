/-
  THE WALK OF LawS4797AAnyPLMN at a well-formed identity.
-/
import Derived.Test.YbulkcuiaFmtAny3
import Derived.BigRegion
namespace Go.Proofs.YbulkcuiaFmt
open Go.RowKit
set_option maxRecDepth 100000 in
set_option maxHeartbeats 4000000 in
theorem any2 (a : Option Addr) (cap : Nat) (l : List Int) (mcc mnc : ByteArray) (tvp a0 a1 a2 a3 a4 a5 spi ct code : Int) (w : World) (hl : l.length ≤ 1024) (hr : Rd w (.slice a l.length cap) l)
    (hwf : WF mcc mnc = true) (s1 : mcc.size = 3) (s2 : 2 ≤ mnc.size) (s3 : mnc.size = 2) (m0 m1 m2 n0 n1 : Int)
    (HTB : Hid (tbOf mcc mnc s1 s2 = [bits .or .u8 ((m1 - 48) % 256 * 16 % 256) ((m0 - 48) % 256), bits .or .u8 240 ((m2 - 48) % 256), bits .or .u8 ((n1 - 48) % 256 * 16 % 256) ((n0 - 48) % 256)]))
    (i0 : ∀ w : World, (Instr.index 9 (.string mcc) (.int .i64 0)).run Ybaf.prog w = .ok (.int .u8 m0) w)
    (i1 : ∀ w : World, (Instr.index 9 (.string mcc) (.int .i64 1)).run Ybaf.prog w = .ok (.int .u8 m1) w)
    (i2 : ∀ w : World, (Instr.index 9 (.string mcc) (.int .i64 2)).run Ybaf.prog w = .ok (.int .u8 m2) w)
    (j0 : ∀ w : World, (Instr.index 9 (.string mnc) (.int .i64 0)).run Ybaf.prog w = .ok (.int .u8 n0) w)
    (j1 : ∀ w : World, (Instr.index 9 (.string mnc) (.int .i64 1)).run Ybaf.prog w = .ok (.int .u8 n1) w) :
    Calls Ybaf.prog 4 #[.slice a l.length cap, .string mcc, .string mnc, .int .u32 tvp, .agg #[.int .u8 a0, .int .u8 a1, .int .u8 a2, .int .u8 a3, .int .u8 a4, .int .u8 a5], .int .u32 spi, .int .u8 ct, .int .u8 code] w
      fun e w' => e = .returned (.bool true) ∧ Below w.heap.size w w' := by
  obtain ⟨_, _, dg1, dg2⟩ := WF.sizes hwf
  have z1 : mcc.size ≤ maxLen := by unfold maxLen; omega
  have z2 : mnc.size ≤ maxLen := by unfold maxLen; omega
  generalize hn : l.length = n at hl
  have hlI : ¬ (1024 : Int) < (n : Int) := by omega
  go_enter Ybaf.func4, Ybaf.ntmps4
  go_wp2_with fail
  refine calls_gen fun W hW => ?_
  have hsz : W.heap.size = w.heap.size + 3 := by rw [hW]; simp
  have hbel : Below w.heap.size w W := by
    rw [hW]
    exact (((Below.refl _ w).alloc (Nat.le_refl _) _).alloc (by simp) _).alloc (by simp; omega) _
  have hns : At W w.heap.size [a0, a1, a2, a3, a4, a5] := by
    intro j hj
    rw [hW]
    match j, hj with
    | 0, _ => go_simp
    | 1, _ => go_simp
    | 2, _ => go_simp
    | 3, _ => go_simp
    | 4, _ => go_simp
    | 5, _ => go_simp
  have hps : At W (w.heap.size + 1) [tvp % 256, spi % 256, ct, code] := by
    intro j hj
    rw [hW]
    match j, hj with
    | 0, _ => go_simp
    | 1, _ => go_simp
    | 2, _ => go_simp
    | 3, _ => go_simp
  have hts : At W w.heap.size [] := fun j hj => absurd hj (by simp)
  have hhd : Hd W (w.heap.size + 1 + 1) tvp [a0, a1, a2, a3, a4, a5] [tvp % 256, spi % 256, ct, code] mcc mnc spi ct code := by
    have hc := fun (j : Nat) (u : Value) (hj : [Value.int .u32 tvp, .int .u8 a0, .int .u8 a1, .int .u8 a2, .int .u8 a3, .int .u8 a4, .int .u8 a5, .int .u8 (tvp % 256), .int .u8 (spi % 256), .int .u8 ct, .int .u8 code, .string mcc, .string mnc, .int .u32 spi, .int .u8 ct, .int .u8 code][j]? = some u) =>
      (show W.cell? ((⟨w.heap.size + 1 + 1, 0, none⟩ : Addr).add j) = some u by rw [hW]; exact new_cellsT _ _ 34 _ (by simp) j u hj)
    exact hd_of hc
  clear hW
  have hrn : Rd w (.slice a n cap) l := by rw [← hn]; exact hr
  have hS : St w W (w.heap.size + 1 + 1) w.heap.size (w.heap.size + 1) w.heap.size tvp [a0, a1, a2, a3, a4, a5] [tvp % 256, spi % 256, ct, code] [] mcc mnc spi ct code (.slice a n cap) l := ⟨hbel, hhd, hns, hps, hts, rd_below hrn hbel⟩
  clear hbel hhd hns hps hts
  refine (clone_any W hS.rd (by omega)).mono ?_
  rintro e W1 ⟨bc, rfl, hO1, hb1⟩
  have hS1 := hS.grown hrn (below_toGrown hb1) W.heap.size (fun k hk => by cases hk) (by omega)
  have hsz1 := hb1.size
  go_wp2_with fail
  refine (header_yes W.heap.size bc l (w.heap.size + 1 + 1) tvp a0 a1 a2 a3 a4 a5 (tvp % 256) (spi % 256) ct code mcc mnc spi ct code W1 hO1 hsz1 (by omega) (by omega) hS1.hd hwf s1 s2).mono ?_
  rintro e W2 ⟨got, rfl, happ⟩
  have hO2 := happ.own
  have hK2 := happ.keep bc l (Nat.le_refl _) hO1
  have hS2 := hS1.grown hrn happ.grown W.heap.size (fun k hk => (World.ownsRow.lt hO1 k hk).1) (by omega)
  have hsz2 := happ.grown.size
  clear hS hS1 hO1 hb1 happ
  go_wp2_with fail
  refine (eq_any W2 hK2.rd hS2.rd (by omega)).mono ?_
  rintro e W3 ⟨rfl, d, hW3⟩
  have hg3 : W2.grownBy W3 none := by rw [hW3]; exact grownBy_drewN W2 d none
  have hS3 := hS2.grown hrn hg3 W.heap.size (fun k hk => by cases hk) (by omega)
  have hO3 := hO2.grown hg3
  have hsz3 := hg3.size
  clear hW3 hg3 hS2 hO2 hK2
  have n0' := hS3.ns_at 0 (by simp)
  have n1' := hS3.ns_at 1 (by simp)
  have n2' := hS3.ns_at 2 (by simp)
  have n3' := hS3.ns_at 3 (by simp)
  have n4' := hS3.ns_at 4 (by simp)
  have n5' := hS3.ns_at 5 (by simp)
  have q0 := hS3.ps_at 0 (by simp)
  have q1 := hS3.ps_at 1 (by simp)
  have q2 := hS3.ps_at 2 (by simp)
  have q3 := hS3.ps_at 3 (by simp)
  simp only [List.getElem_cons_zero, List.getElem_cons_succ] at n0' n1' n2' n3' n4' n5' q0 q1 q2 q3
  have hlt0 : w.heap.size < W3.heap.size := by omega
  have hlt1 : w.heap.size + 1 < W3.heap.size := by omega
  go_wp2_with (go_at_call 11; refine (adigits_sym _ _ (by assumption)).mono ?_; rintro e w' ⟨rfl, rfl⟩)
  go_region
  go_wp2_with fail
  refine calls_gen fun W4 hW4 => ?_
  have hg4 : W3.grownBy W4 none := by rw [hW4]; exact grownBy_trans (World.grownBy_alloc W3 _ none) (grownBy_drewN _ 1 none) (Or.inl rfl)
  clear hW4
  have hS4 := hS3.grown hrn hg4 W.heap.size (fun k hk => by cases hk) (by omega)
  have hrd4 : l ≠ [] → ∃ b off, a = some ⟨b, off, none⟩ ∧ ∀ (j : Nat) (h : j < l.length), W4.cell? ⟨b, off + j, none⟩ = some (.int .u8 l[j]) := rd_parts (d := 0) hn hS4.rd
  have hE := expect_any a cap l tvp a0 a1 a2 a3 a4 a5 (tvp % 256) (spi % 256) ct code (bits .or .u8 ((m1 - 48) % 256 * 16 % 256) ((m0 - 48) % 256)) (bits .or .u8 240 ((m2 - 48) % 256)) (bits .or .u8 ((n1 - 48) % 256 * 16 % 256) ((n0 - 48) % 256)) spi ct code W4 (by omega) hrd4
  rw [hn] at hE
  refine hE.mono ?_
  rintro e W5 ⟨ev, rfl, hO5, hb5⟩
  have hOg := (hO3.grown hg4).grown (below_toGrown hb5)
  have hbel5 : Below w.heap.size w W5 := hS4.below.trans (hb5.mono hS4.below.size)
  rw [HTB.out, same_list] at hOg
  clear hE n0' n1' n2' n3' n4' n5' q0 q1 q2 q3 hrd4 hS3 hS4 hO3 hb5 hg4 hlt0 hlt1
  obtain ⟨L, hL⟩ : ∃ L, Hid (L = l ++ be32 tvp ++ [a0, a1, a2, a3, a4, a5] ++ [tvp % 256, spi % 256, ct, code] ++ [bits .or .u8 ((m1 - 48) % 256 * 16 % 256) ((m0 - 48) % 256), bits .or .u8 240 ((m2 - 48) % 256), bits .or .u8 ((n1 - 48) % 256 * 16 % 256) ((n0 - 48) % 256)] ++ be32 spi ++ [ct, code]) := ⟨_, rfl⟩
  rw [← hL.out] at hOg hO5
  have hlen : L.length ≤ 1000000 := by rw [hL.out]; simp [be32]; omega
  go_wp2_with fail
  refine (eq_any W5 hOg.rd hO5.rd hlen).mono ?_
  rintro e W6 ⟨rfl, d', rfl⟩
  go_wp2
  go_ret
  exact ⟨rfl, below_drewN hbel5 d'⟩
end Go.Proofs.YbulkcuiaFmt
