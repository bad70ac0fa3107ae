/-
  THE WALK OF LawS4797AWellFormed.
-/
import Derived.Test.YbulkcuiaFmtPlain
namespace Go.Proofs.YbulkcuiaFmt
open Go.RowKit
/-- the header's cells, out of its block. -/
theorem hd_of {W : World} {hb : Nat} {tvp a0 a1 a2 a3 a4 a5 p0 p1 p2 p3 spi ct code : Int} {M N : ByteArray}
    (hc : ∀ (j : Nat) (u : Value), [Value.int .u32 tvp, .int .u8 a0, .int .u8 a1, .int .u8 a2, .int .u8 a3, .int .u8 a4, .int .u8 a5, .int .u8 p0, .int .u8 p1, .int .u8 p2, .int .u8 p3, .string M, .string N, .int .u32 spi, .int .u8 ct, .int .u8 code][j]? = some u → W.cell? ((⟨hb, 0, none⟩ : Addr).add j) = some u) :
    Hd W hb tvp [a0, a1, a2, a3, a4, a5] [p0, p1, p2, p3] M N spi ct code := by
  have ha : ∀ j, (⟨hb, 0, none⟩ : Addr).add j = ⟨hb, j, none⟩ := fun j => by unfold Addr.add; split <;> simp_all
  have hb1 : ∀ i j, (⟨hb, i, none⟩ : Addr).add j = ⟨hb, i + j, none⟩ := fun i j => by unfold Addr.add; split <;> simp_all
  simp only [ha] at hc
  refine ⟨hc 0 _ rfl, ?_, ?_, hc 11 _ rfl, hc 12 _ rfl, hc 13 _ rfl, hc 14 _ rfl, hc 15 _ rfl⟩
  · intro j u hj
    rw [hb1]
    match j, hj with
    | 0, hj => exact hc 1 u hj
    | 1, hj => exact hc 2 u hj
    | 2, hj => exact hc 3 u hj
    | 3, hj => exact hc 4 u hj
    | 4, hj => exact hc 5 u hj
    | 5, hj => exact hc 6 u hj
  · intro j u hj
    rw [hb1]
    match j, hj with
    | 0, hj => exact hc 7 u hj
    | 1, hj => exact hc 8 u hj
    | 2, hj => exact hc 9 u hj
    | 3, hj => exact hc 10 u hj
theorem rd_parts {w : World} {a : Option Addr} {n cap d : Nat} {l : List Int} (hn : l.length = n) (h : Rd w (.slice a n cap) l) : l ≠ [] → ∃ b off, a = some ⟨b, off, none⟩ ∧ ∀ (j : Nat) (h : j < l.length), (w.drewN d).cell? ⟨b, off + j, none⟩ = some (.int .u8 l[j]) := by
  subst hn
  obtain ⟨a', cap', e, hr⟩ := h
  cases e
  exact hr
theorem same_list (l b1 ns ps ts b2 c : List Int) : l ++ (b1 ++ ns ++ ps ++ ts ++ b2 ++ c) = l ++ b1 ++ ns ++ ps ++ ts ++ b2 ++ c := by simp [List.append_assoc]
set_option maxRecDepth 100000 in
set_option maxHeartbeats 4000000 in
theorem well3 (a : Option Addr) (cap : Nat) (l : List Int) (tvp a0 a1 a2 a3 a4 a5 p0 p1 p2 p3 x0 x1 x2 y0 y1 y2 spi ct code : Int) (w : World) (hl : l.length ≤ 1024)
    (hx0 : 0 ≤ x0 ∧ x0 ≤ 255) (hx1 : 0 ≤ x1 ∧ x1 ≤ 255) (hx2 : 0 ≤ x2 ∧ x2 ≤ 255) (hy0 : 0 ≤ y0 ∧ y0 ≤ 255) (hy1 : 0 ≤ y1 ∧ y1 ≤ 255) (hy2 : 0 ≤ y2 ∧ y2 ≤ 255)
    (hr : Rd w (.slice a l.length cap) l) (M N : ByteArray) (hM : Hid (M = strOfNums [48 + x0 % 10, 48 + x1 % 10, 48 + x2 % 10])) (hN : Hid (N = strOfNums [48 + y0 % 10, 48 + y1 % 10, 48 + y2 % 10])) :
    Calls Ybaf.prog 3 #[.slice a l.length cap, .int .u32 tvp, .agg #[.int .u8 a0, .int .u8 a1, .int .u8 a2, .int .u8 a3, .int .u8 a4, .int .u8 a5], .agg #[.int .u8 p0, .int .u8 p1, .int .u8 p2, .int .u8 p3],
        .agg #[.int .u8 x0, .int .u8 x1, .int .u8 x2], .agg #[.int .u8 y0, .int .u8 y1, .int .u8 y2], .bool true, .int .u32 spi, .int .u8 ct, .int .u8 code] w
      fun e w' => e = .returned (.bool true) ∧ Below w.heap.size w w' := by
  generalize hn : l.length = n at hl
  have hlI : ¬ (1024 : Int) < (n : Int) := by omega
  go_enter Ybaf.func3, Ybaf.ntmps3
  go_wp2
  go_quiet (fail)
  go_wp2
  go_quiet (fail)
  go_wp2_with (first
    | refine wpList_string rfl (.tmp 62) rfl Ybaf.underlying22 Ybaf.underlying5 Ybaf.underlying9 _ 3 3 [48 + x0 % 10, 48 + x1 % 10, 48 + x2 % 10] rfl rfl (three_cells _ _ _ _ _ ?hk1) M hM ?_
    | refine wpList_string rfl (.tmp 71) rfl Ybaf.underlying22 Ybaf.underlying5 Ybaf.underlying9 _ 3 3 [48 + y0 % 10, 48 + y1 % 10, 48 + y2 % 10] rfl rfl (three_cells _ _ _ _ _ ?hk2) N hN ?_)
  case hk1 => simp
  case hk2 => simp
  refine calls_gen fun W hW => ?_
  have hsz : W.heap.size = w.heap.size + 8 := by rw [hW]; simp
  have hbel : Below w.heap.size w W := by
    rw [hW]
    exact (((((below_drewN (((((Below.refl _ w).alloc (Nat.le_refl _) _).alloc (by simp) _).alloc (by simp; omega) _).alloc (by simp; omega) _) _).alloc (by simp; omega) _).alloc (by simp; omega) _).alloc (by simp; omega) _).alloc (by simp; omega) _)
  have hns : At W w.heap.size [a0, a1, a2, a3, a4, a5] := by
    intro j hj
    rw [hW]
    match j, hj with
    | 0, _ => go_simp
    | 1, _ => go_simp
    | 2, _ => go_simp
    | 3, _ => go_simp
    | 4, _ => go_simp
    | 5, _ => go_simp
  have hps : At W (w.heap.size + 1) [p0, p1, p2, p3] := by
    intro j hj
    rw [hW]
    match j, hj with
    | 0, _ => go_simp
    | 1, _ => go_simp
    | 2, _ => go_simp
    | 3, _ => go_simp
  have hts : At W (w.heap.size + 1 + 1 + 1 + 1 + 1 + 1) [bits .or .u8 (x1 % 10 * 16) (x0 % 10), bits .or .u8 (y2 % 10 * 16) (x2 % 10), bits .or .u8 (y1 % 10 * 16) (y0 % 10)] := by
    intro j hj
    rw [hW]
    match j, hj with
    | 0, _ => go_simp
    | 1, _ => go_simp
    | 2, _ => go_simp
  have hhd : Hd W (w.heap.size + 1 + 1 + 1 + 1 + 1 + 1 + 1) tvp [a0, a1, a2, a3, a4, a5] [p0, p1, p2, p3] M N spi ct code := by
    have hc := fun (j : Nat) (u : Value) (hj : [Value.int .u32 tvp, .int .u8 a0, .int .u8 a1, .int .u8 a2, .int .u8 a3, .int .u8 a4, .int .u8 a5, .int .u8 p0, .int .u8 p1, .int .u8 p2, .int .u8 p3, .string M, .string N, .int .u32 spi, .int .u8 ct, .int .u8 code][j]? = some u) =>
      (show W.cell? ((⟨w.heap.size + 1 + 1 + 1 + 1 + 1 + 1 + 1, 0, none⟩ : Addr).add j) = some u by rw [hW]; exact new_cellsT _ _ 34 _ (by simp) j u hj)
    exact hd_of hc
  clear hW
  have hrn : Rd w (.slice a n cap) l := by rw [← hn]; exact hr
  have hS : St w W (w.heap.size + 1 + 1 + 1 + 1 + 1 + 1 + 1) w.heap.size (w.heap.size + 1) (w.heap.size + 1 + 1 + 1 + 1 + 1 + 1) tvp [a0, a1, a2, a3, a4, a5] [p0, p1, p2, p3] [bits .or .u8 (x1 % 10 * 16) (x0 % 10), bits .or .u8 (y2 % 10 * 16) (x2 % 10), bits .or .u8 (y1 % 10 * 16) (y0 % 10)] M N spi ct code (.slice a n cap) l := ⟨hbel, hhd, hns, hps, hts, rd_below hrn hbel⟩
  obtain ⟨hwf, s1, s2, htb⟩ := tb_33 (x0 % 10) (x1 % 10) (x2 % 10) (y0 % 10) (y1 % 10) (y2 % 10) (by omega) M N hM.out hN.out
  have HTB : Hid (tbOf M N s1 s2 = [bits .or .u8 (x1 % 10 * 16) (x0 % 10), bits .or .u8 (y2 % 10 * 16) (x2 % 10), bits .or .u8 (y1 % 10 * 16) (y0 % 10)]) := htb
  clear htb hbel hhd hns hps hts
  refine (clone_any W hS.rd (by omega)).mono ?_
  rintro e W1 ⟨bc, rfl, hO1, hb1⟩
  have hS1 := hS.grown hrn (below_toGrown hb1) W.heap.size (fun k hk => by cases hk) (by omega)
  have hsz1 := hb1.size
  go_wp2_with fail
  refine (header_yes W.heap.size bc l (w.heap.size + 1 + 1 + 1 + 1 + 1 + 1 + 1) tvp a0 a1 a2 a3 a4 a5 p0 p1 p2 p3 M N spi ct code W1 hO1 hsz1 (by omega) (by omega) hS1.hd hwf s1 s2).mono ?_
  rintro e W2 ⟨got, rfl, happ⟩
  have hO2 := happ.own
  have hK2 := happ.keep bc l (Nat.le_refl _) hO1
  have hS2 := hS1.grown hrn happ.grown W.heap.size (fun k hk => (World.ownsRow.lt hO1 k hk).1) (by omega)
  clear hS hS1 hO1 hb1 happ hsz1
  go_wp2_with fail
  refine (eq_any W2 hK2.rd hS2.rd (by omega)).mono ?_
  rintro e W3 ⟨rfl, d, rfl⟩
  have n0 := hS2.ns_at 0 (by simp)
  have n1 := hS2.ns_at 1 (by simp)
  have n2 := hS2.ns_at 2 (by simp)
  have n3 := hS2.ns_at 3 (by simp)
  have n4 := hS2.ns_at 4 (by simp)
  have n5 := hS2.ns_at 5 (by simp)
  have q0 := hS2.ps_at 0 (by simp)
  have q1 := hS2.ps_at 1 (by simp)
  have q2 := hS2.ps_at 2 (by simp)
  have q3 := hS2.ps_at 3 (by simp)
  have r0 := hS2.ts_at 0 (by simp)
  have r1 := hS2.ts_at 1 (by simp)
  have r2 := hS2.ts_at 2 (by simp)
  simp only [List.getElem_cons_zero, List.getElem_cons_succ] at n0 n1 n2 n3 n4 n5 q0 q1 q2 q3 r0 r1 r2
  have hrd2 : l ≠ [] → ∃ b off, a = some ⟨b, off, none⟩ ∧ ∀ (j : Nat) (h : j < l.length), (W2.drewN d).cell? ⟨b, off + j, none⟩ = some (.int .u8 l[j]) := rd_parts hn hS2.rd
  go_wp2_with fail
  have hE := expect_any a cap l tvp a0 a1 a2 a3 a4 a5 p0 p1 p2 p3 (bits .or .u8 (x1 % 10 * 16) (x0 % 10)) (bits .or .u8 (y2 % 10 * 16) (x2 % 10)) (bits .or .u8 (y1 % 10 * 16) (y0 % 10)) spi ct code (W2.drewN d) (by omega) hrd2
  rw [hn] at hE
  refine hE.mono ?_
  rintro e W4 ⟨ev, rfl, hO4, hb4⟩
  have hOg := (hO2.grown (grownBy_drewN W2 d none)).grown (below_toGrown hb4)
  have hbel4 : Below w.heap.size w W4 := (below_drewN hS2.below d).trans (hb4.mono hS2.below.size)
  rw [HTB.out, same_list] at hOg
  clear hE n0 n1 n2 n3 n4 n5 q0 q1 q2 q3 r0 r1 r2 hrd2 hS2 hO2 hK2 hb4
  obtain ⟨L, hL⟩ : ∃ L, Hid (L = l ++ be32 tvp ++ [a0, a1, a2, a3, a4, a5] ++ [p0, p1, p2, p3] ++ [bits .or .u8 (x1 % 10 * 16) (x0 % 10), bits .or .u8 (y2 % 10 * 16) (x2 % 10), bits .or .u8 (y1 % 10 * 16) (y0 % 10)] ++ be32 spi ++ [ct, code]) := ⟨_, rfl⟩
  rw [← hL.out] at hOg hO4
  have hlen : L.length ≤ 1000000 := by rw [hL.out]; simp [be32]; omega
  go_wp2_with fail
  refine (eq_any W4 hOg.rd hO4.rd hlen).mono ?_
  rintro e W5 ⟨rfl, d', rfl⟩
  go_wp2
  go_ret
  exact ⟨rfl, below_drewN hbel4 d'⟩
end Go.Proofs.YbulkcuiaFmt
