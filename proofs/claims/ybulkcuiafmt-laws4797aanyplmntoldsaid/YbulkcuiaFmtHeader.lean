/-
  THE WALK OF appendHeader at a well-formed identity.
-/
import Derived.Test.YbulkcuiaFmtExpect
import Derived.Test.YbulkcuiaFmtTbcd
import Derived.Deep.RegionHeld3
namespace Go.Proofs.YbulkcuiaFmt
open Go.RowKit
/-- the header's cells. -/
def Hd (w : World) (hb : Nat) (tvp : Int) (ns ps : List Int) (mcc mnc : ByteArray) (spi ct code : Int) : Prop :=
  w.cell? ⟨hb, 0, none⟩ = some (.int .u32 tvp) ∧ (∀ j u, (ns.map (Value.int .u8))[j]? = some u → w.cell? ((⟨hb, 1, none⟩ : Addr).add j) = some u)
  ∧ (∀ j u, (ps.map (Value.int .u8))[j]? = some u → w.cell? ((⟨hb, 7, none⟩ : Addr).add j) = some u)
  ∧ w.cell? ⟨hb, 11, none⟩ = some (.string mcc) ∧ w.cell? ⟨hb, 12, none⟩ = some (.string mnc) ∧ w.cell? ⟨hb, 13, none⟩ = some (.int .u32 spi)
  ∧ w.cell? ⟨hb, 14, none⟩ = some (.int .u8 ct) ∧ w.cell? ⟨hb, 15, none⟩ = some (.int .u8 code)
theorem block_add (a : Addr) (j : Nat) : (a.add j).block = a.block := by unfold Addr.add; split <;> rfl
theorem Hd.of_cells {w w' : World} {hb : Nat} {tvp : Int} {ns ps : List Int} {mcc mnc : ByteArray} {spi ct code : Int} (h : Hd w hb tvp ns ps mcc mnc spi ct code)
    (hc : ∀ (p : Addr) x, p.block = hb → w.cell? p = some x → w'.cell? p = some x) : Hd w' hb tvp ns ps mcc mnc spi ct code := by
  obtain ⟨h0, h1, h2, h3, h4, h5, h6, h7⟩ := h
  exact ⟨hc _ _ rfl h0, fun j u hj => hc _ _ (block_add _ _) (h1 j u hj), fun j u hj => hc _ _ (block_add _ _) (h2 j u hj), hc _ _ rfl h3, hc _ _ rfl h4, hc _ _ rfl h5, hc _ _ rfl h6, hc _ _ rfl h7⟩
theorem Hd.grown {w w' : World} {hb : Nat} {tvp : Int} {ns ps : List Int} {mcc mnc : ByteArray} {spi ct code : Int} {r : Option Nat} (h : Hd w hb tvp ns ps mcc mnc spi ct code) (g : w.grownBy w' r) (hr : r ≠ some hb) : Hd w' hb tvp ns ps mcc mnc spi ct code :=
  h.of_cells fun p x hp hx => g.cell hx (by rw [hp]; exact fun e => hr e.symm)
theorem new_cellsT (w : World) (cs : List Value) (t : TypeId) (n : Nat) (hn : n = w.heap.size) : ∀ j u, cs[j]? = some u → (w.alloc (.cells cs.toArray t)).cell? ((⟨n, 0, none⟩ : Addr).add j) = some u := by
  intro j u hj
  subst hn
  have ha : (⟨w.heap.size, 0, none⟩ : Addr).add j = ⟨w.heap.size, j, none⟩ := by unfold Addr.add; split <;> simp_all
  rw [ha]
  show (match (w.heap.push (.cells cs.toArray t))[w.heap.size]? with | some (.cells c _ _) => _ | _ => _) = _
  rw [Array.getElem?_push_size]
  simpa using hj
theorem App.drewn {B : Nat} {w w' : World} {v v' : Value} {l m : List Int} (h : App B w.drew w' v v' l m) : App B w w' v v' l m := App.ahead (w1 := w.drew) ⟨rfl, rfl, rfl, Nat.le_refl _, fun _ _ _ => rfl⟩ h
theorem below_toGrown {w w' : World} (h : Below w.heap.size w w') : w.grownBy w' none := ⟨h.os, h.tape, h.output, h.size, fun k hk _ => h.block k hk⟩

set_option maxRecDepth 100000 in
set_option maxHeartbeats 2000000 in
theorem header_yes (B : Nat) (v : Value) (l : List Int) (hb : Nat) (tvp : Int) (a0 a1 a2 a3 a4 a5 p0 p1 p2 p3 : Int) (mcc mnc : ByteArray) (spi ct code : Int) (w : World)
    (hO : Own w B v l) (hB : B ≤ w.heap.size) (hbB : hb < B) (hl : l.length ≤ 2000) (hH : Hd w hb tvp [a0, a1, a2, a3, a4, a5] [p0, p1, p2, p3] mcc mnc spi ct code)
    (hw : WF mcc mnc = true) (h1 : mcc.size = 3) (h2 : 2 ≤ mnc.size) :
    Calls Ybaf.prog 8 #[v, .pointer (some ⟨hb, 0, none⟩)] w fun e w' => ∃ v', e = .returned (.tuple #[v', .nilIface]) ∧
      App B w w' v v' l (be32 tvp ++ [a0, a1, a2, a3, a4, a5] ++ [p0, p1, p2, p3] ++ tbOf mcc mnc h1 h2 ++ be32 spi ++ [ct, code]) := by
  obtain ⟨i0, hi, hz0, hz1, hz2⟩ := info_parts Ybaf.info5
  have c11 := hH.2.2.2.1
  have c12 := hH.2.2.2.2.1
  obtain ⟨t0, t1, t2, hT⟩ : ∃ t0 t1 t2, Hid (tbOf mcc mnc h1 h2 = [t0, t1, t2]) := ⟨_, _, _, rfl⟩
  have hcall := tbcd_yes mcc mnc w hw h1 h2
  rw [hT.out] at hcall
  rw [hT.out]
  go_enter Ybaf.func8, Ybaf.ntmps8
  go_wp2_with (go_at_call 19; refine hcall.mono ?_; rintro e w1 ⟨rfl, hw1⟩)
  obtain ⟨W, hW⟩ : ∃ W, W = w1.alloc (.cells #[.int .u8 t0, .int .u8 t1, .int .u8 t2] 26) := ⟨_, rfl⟩
  have g2 : w.grownBy W none := by rw [hW]; exact grownBy_trans (below_toGrown hw1) (World.grownBy_alloc _ _ _) (Or.inl rfl)
  have hOW : Own W B v l := World.ownsRow.kept hO g2 (by cases v.ownBlock <;> simp)
  have hHW := hH.grown g2 (by simp)
  have hBW : B ≤ W.heap.size := Nat.le_trans hB g2.size
  have hPW : ∀ j u, (List.map (Value.int .u8) [t0, t1, t2])[j]? = some u → W.cell? ((⟨w1.heap.size, 0, none⟩ : Addr).add j) = some u := by rw [hW]; exact new_cellsT w1 [.int .u8 t0, .int .u8 t1, .int .u8 t2] 26 _ rfl
  have hvb : v.ownBlock ≠ some hb := fun e => by have := World.ownsRow.lt hO hb e; omega
  have hvP : v.ownBlock ≠ some w1.heap.size := fun e => by have := World.ownsRow.lt hO _ e; have := hw1.size; omega
  generalize hq : w1.heap.size = q at hPW hvP ⊢
  rw [← hW]
  clear hW hw1 hH hO hB hcall c11 c12 hq
  have c0 := hHW.1
  refine still_tail 6 (by kernel_rfl) (by kernel_rfl) ?_
  simp only [List.take_succ_cons, List.take_zero, List.drop_succ_cons, List.drop_zero]
  repeat still_step
  refine wpStill_nil ?_
  go_wp2_with fail
  refine (au32 B v l tvp _ (hOW.drew) hBW (by omega)).mono ?_
  rintro e w3 ⟨v1, rfl, happ⟩
  have hA := happ.drewn
  clear happ c0
  have hHk := hHW.grown hA.grown hvb
  have hBk : B ≤ w3.heap.size := Nat.le_trans hBW hA.grown.size
  obtain ⟨L, hL⟩ : ∃ L, Hid (L = l ++ be32 tvp) := ⟨_, rfl⟩
  have hO := hA.own
  rw [← hL.out] at hO
  have hlen : L.length ≤ 2000 + 4 := by rw [hL.out]; simp [be32]; omega
  go_wp2_with (at_builtin; refine wpList_append_app rfl (.tmp 26) (.tmp 30) 22 rfl B i0 (.int .u8 0) Ybaf.underlying22 hi hz0 hz1 hz2 rfl _ L rfl hO _ 6 6 [a0, a1, a2, a3, a4, a5] rfl rfl hHk.2.1 ?hlen ?hB ?_)
  case hlen => have h1 : [a0, a1, a2, a3, a4, a5].length = 6 := rfl; omega
  case hB => omega
  intro v2 w4 happ

  rw [hL.out] at happ
  have hA2 := hA.trans happ
  clear hA happ hO hHk hBk hlen hL L
  have hHk := hHW.grown hA2.grown hvb
  have hBk : B ≤ w4.heap.size := Nat.le_trans hBW hA2.grown.size
  obtain ⟨L, hL⟩ : ∃ L, Hid (L = l ++ (be32 tvp ++ [a0, a1, a2, a3, a4, a5])) := ⟨_, rfl⟩
  have hO := hA2.own
  rw [← hL.out] at hO
  have hlen : L.length ≤ 2000 + 4 + 6 := by rw [hL.out]; simp [be32]; omega
  go_wp2_with (at_builtin; refine wpList_append_app rfl (.tmp 32) (.tmp 36) 22 rfl B i0 (.int .u8 0) Ybaf.underlying22 hi hz0 hz1 hz2 rfl _ L rfl hO _ 4 4 [p0, p1, p2, p3] rfl rfl hHk.2.2.1 ?hlen ?hB ?_)
  case hlen => have h1 : [p0, p1, p2, p3].length = 4 := rfl; omega
  case hB => omega
  intro v3 w5 happ

  rw [hL.out] at happ
  have hA3 := hA2.trans happ
  clear hA2 happ hO hHk hBk hlen hL L
  have hPk : ∀ j u, (List.map (Value.int .u8) [t0, t1, t2])[j]? = some u → w5.cell? ((⟨q, 0, none⟩ : Addr).add j) = some u := fun j u hj => hA3.grown.cell (hPW j u hj) (by rw [block_add]; exact fun e => hvP e.symm)
  have hBk : B ≤ w5.heap.size := Nat.le_trans hBW hA3.grown.size
  obtain ⟨L, hL⟩ : ∃ L, Hid (L = l ++ (be32 tvp ++ [a0, a1, a2, a3, a4, a5] ++ [p0, p1, p2, p3])) := ⟨_, rfl⟩
  have hO := hA3.own
  rw [← hL.out] at hO
  have hlen : L.length ≤ 2000 + 4 + 6 + 4 := by rw [hL.out]; simp [be32]; omega
  go_wp2_with (at_builtin; refine wpList_append_app rfl (.tmp 38) (.tmp 39) 22 rfl B i0 (.int .u8 0) Ybaf.underlying22 hi hz0 hz1 hz2 rfl _ L rfl hO _ 3 3 [t0, t1, t2] rfl rfl hPk ?hlen ?hB ?_)
  case hlen => have h1 : [t0, t1, t2].length = 3 := rfl; omega
  case hB => omega
  intro v4 w6 happ

  rw [hL.out] at happ
  have hA4 := hA3.trans happ
  clear hA3 happ hO hPk hBk hlen hL L
  have hHk := hHW.grown hA4.grown hvb
  have c13 := hHk.2.2.2.2.2.1
  have hBk : B ≤ w6.heap.size := Nat.le_trans hBW hA4.grown.size
  obtain ⟨L, hL⟩ : ∃ L, Hid (L = l ++ (be32 tvp ++ [a0, a1, a2, a3, a4, a5] ++ [p0, p1, p2, p3] ++ [t0, t1, t2])) := ⟨_, rfl⟩
  have hO := hA4.own
  rw [← hL.out] at hO
  have hlen : L.length ≤ 2000 + 4 + 6 + 4 + 3 := by rw [hL.out]; simp [be32]; omega
  go_wp2
  refine still_tail 6 (by kernel_rfl) (by kernel_rfl) ?_
  simp only [List.take_succ_cons, List.take_zero, List.drop_succ_cons, List.drop_zero]
  repeat still_step
  refine wpStill_nil ?_
  go_wp2_with fail
  refine (au32 B v4 L spi _ (hO.drew) hBk (by omega)).mono ?_
  rintro e w7 ⟨v5, rfl, happ0⟩
  have happ := happ0.drewn
  clear happ0
  rw [hL.out] at happ
  have hA5 := hA4.trans happ
  clear hA4 happ hO hHk c13 hBk hlen hL L
  have hHk := hHW.grown hA5.grown hvb
  have c14 := hHk.2.2.2.2.2.2.1
  have c15 := hHk.2.2.2.2.2.2.2
  have hBk : B ≤ w7.heap.size := Nat.le_trans hBW hA5.grown.size
  obtain ⟨L, hL⟩ : ∃ L, Hid (L = l ++ (be32 tvp ++ [a0, a1, a2, a3, a4, a5] ++ [p0, p1, p2, p3] ++ [t0, t1, t2] ++ be32 spi)) := ⟨_, rfl⟩
  have hO := hA5.own
  rw [← hL.out] at hO
  have hlen : L.length ≤ 2000 + 4 + 6 + 4 + 3 + 4 := by rw [hL.out]; simp [be32]; omega
  have hlen2 : L.length + [ct, code].length ≤ 1000000 := by have h1 : [ct, code].length = 2 := rfl; omega
  have hB2 : ∀ o, B ≤ (w7.drew.alloc o).heap.size := fun o => by simp; omega
  have hv5b : v5.ownBlock ≠ some hb := fun e => by have := World.ownsRow.lt hO hb e; omega
  have q14 : ∀ o, (w7.drew.alloc o).cell? ⟨hb, 14, none⟩ = some (.int .u8 ct) := fun o => (World.cell?_alloc_lt _ _ _ (World.block_lt_of_cell? w7 _ c14)).trans c14
  have q15 : ∀ o, (w7.drew.alloc o).cell? ⟨hb, 15, none⟩ = some (.int .u8 code) := fun o => (World.cell?_alloc_lt _ _ _ (World.block_lt_of_cell? w7 _ c15)).trans c15
  go_wp2
  go_region_held3 (fun w' => w'.cell? ⟨hb, 14, none⟩ = some (.int .u8 ct) ∧ w'.cell? ⟨hb, 15, none⟩ = some (.int .u8 code))
    (first | exact ⟨c14, c15⟩ | exact ⟨q14 _, q15 _⟩ | exact ⟨happ0.grown.cell (q14 _) (fun e => hv5b e.symm), happ0.grown.cell (q15 _) (fun e => hv5b e.symm)⟩)
    (first | (refine step_append_app rfl (.tmp 48) (.tmp 59) 22 rfl B i0 (.int .u8 0) Ybaf.underlying22 hi hz0 hz1 hz2 rfl _ L rfl (hO.drew.alloc _) _ 2 2 [ct, code] rfl rfl (new_cells w7.drew ([ct, code].map (Value.int .u8)) _ rfl) hlen2 (hB2 _) ?_; intro v6 w8 happ0))
  have happ := happ0.box.drewn
  clear happ0
  rw [hL.out] at happ
  have hA6 := hA5.trans happ
  clear hA5 happ hO hHk c14 c15 hBk hlen hL hlen2 hB2 hv5b q14 q15
  go_wp2
  go_ret2
  exact ⟨v6, rfl, App.ahead g2 hA6⟩
end Go.Proofs.YbulkcuiaFmt
