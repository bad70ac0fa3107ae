/-
  THE WALKS OF add, timesX, mul.
-/
import Derived.Test.YbulkcuiaWords
namespace Go.Proofs.Ybulkcuia
open Go.RowKit Go.Proofs.Ybulkcuia.Field
attribute [local go_sem] xor_U and_U or_U and_one_U red_and_U shr1_U shr63_U shl1_U shl63_U neg_U
/-- gfElement.add -/
theorem add_any (ah al bh bl : BitVec 64) (w : World) :
    Calls Yba.prog 7 #[.agg #[.int .u64 (U ah), .int .u64 (U al)], .agg #[.int .u64 (U bh), .int .u64 (U bl)]] w fun e w' =>
      e = .returned (.agg #[.int .u64 (U (ah ^^^ bh)), .int .u64 (U (al ^^^ bl))]) ∧ ∃ c1 c2 c3 : Array Value, w' = ((w.alloc (.cells c1 24)).alloc (.cells c2 24)).alloc (.cells c3 24) := by
  go_enter Yba.func7, Yba.ntmps7
  go_wp2
  simp [bodyPost, results, Yba.results7, go_sem]
  exact ⟨_, _, _, rfl⟩
/-- gfElement.timesX -/
theorem tx_any (h l : BitVec 64) (w : World) :
    Calls Yba.prog 8 #[.agg #[.int .u64 (U h), .int .u64 (U l)]] w fun e w' =>
      e = .returned (.agg #[.int .u64 (U ((h >>> 1) ^^^ (0xe100000000000000#64 &&& -(l &&& 1#64)))), .int .u64 (U ((l >>> 1) ||| (h <<< 63)))]) ∧ ∃ c1 c2 : Array Value, w' = ((w.alloc (.cells c1 24)).alloc (.cells c2 24)) := by
  go_enter Yba.func8, Yba.ntmps8
  go_wp2
  simp [bodyPost, results, Yba.results8, go_sem]
  exact ⟨_, _, rfl⟩

/-- the sum behind n steps of mul. -/
def Z (A B : BitVec 128) (n : Nat) : BitVec 128 := S (fun i => sel (co A i) (Xn i B)) n
/-- the words of A. -/
def wd (A : BitVec 128) (m : Nat) : BitVec 64 := if m = 0 then hi A else lo A
theorem wd_msb (A : BitVec 128) (m t : Nat) (hm : m < 2) (ht : t < 64) : ((wd A m) <<< t).msb = co A (64 * m + t) := by
  rw [msb_shl _ _ ht]
  unfold wd
  match m, hm with
  | 0, _ => rw [if_pos rfl, ← co_hi A t ht, show 64 * 0 + t = t by omega]
  | 1, _ => rw [if_neg (by decide), ← co_lo A t ht]
theorem zhi (A B : BitVec 128) (m t : Nat) (hm : m < 2) (ht : t < 64) :
    hi (Z A B (64 * m + t)) ^^^ (hi (Xn (64 * m + t) B) &&& -(((wd A m) <<< t) >>> 63)) = hi (Z A B (64 * m + (t + 1))) := by
  rw [← hi_sel, wd_msb A m t hm ht, ← hi_xor]; rfl
theorem zlo (A B : BitVec 128) (m t : Nat) (hm : m < 2) (ht : t < 64) :
    lo (Z A B (64 * m + t)) ^^^ (lo (Xn (64 * m + t) B) &&& -(((wd A m) <<< t) >>> 63)) = lo (Z A B (64 * m + (t + 1))) := by
  rw [← lo_sel, wd_msb A m t hm ht, ← lo_xor]; rfl
theorem bhi (B : BitVec 128) (n : Nat) : (hi (Xn n B) >>> 1) ^^^ (0xe100000000000000#64 &&& -(lo (Xn n B) &&& 1#64)) = hi (Xn (n + 1) B) := (hi_X _).symm
theorem blo (B : BitVec 128) (n : Nat) : (lo (Xn n B) >>> 1) ||| (hi (Xn n B) <<< 63) = lo (Xn (n + 1) B) := (lo_X _).symm
theorem wshl (x : BitVec 64) (t : Nat) : (x <<< t) <<< 1 = x <<< (t + 1) := (BitVec.shiftLeft_add x t 1).symm

/-- add and timesX, the world said by 'Gr'. -/
theorem add_gr (ah al bh bl : BitVec 64) (w : World) :
    Calls Yba.prog 7 #[.agg #[.int .u64 (U ah), .int .u64 (U al)], .agg #[.int .u64 (U bh), .int .u64 (U bl)]] w fun e w' =>
      e = .returned (.agg #[.int .u64 (U (ah ^^^ bh)), .int .u64 (U (al ^^^ bl))]) ∧ Gr w w' :=
  (add_any ah al bh bl w).mono fun e w' ⟨he, c1, c2, c3, hw⟩ => ⟨he, by subst hw; exact (((Gr.refl w).alloc _ _).alloc _ _).alloc _ _⟩
theorem tx_gr (h l : BitVec 64) (w : World) :
    Calls Yba.prog 8 #[.agg #[.int .u64 (U h), .int .u64 (U l)]] w fun e w' =>
      e = .returned (.agg #[.int .u64 (U ((h >>> 1) ^^^ (0xe100000000000000#64 &&& -(l &&& 1#64)))), .int .u64 (U ((l >>> 1) ||| (h <<< 63)))]) ∧ Gr w w' :=
  (tx_any h l w).mono fun e w' ⟨he, c1, c2, hw⟩ => ⟨he, by subst hw; exact ((Gr.refl w).alloc _ _).alloc _ _⟩

/-- what the variables of mul hold: b: block 1, the result: block 2, z: block 3 of the call's own. -/
def Cells (w : World) (bh bl zh zl : BitVec 64) (wr : World) : Prop :=
  Gr w wr ∧ w.heap.size + 4 ≤ wr.heap.size
  ∧ wr.cell? ⟨w.heap.size + 1, 0, none⟩ = some (.int .u64 (U bh)) ∧ wr.cell? ⟨w.heap.size + 1, 1, none⟩ = some (.int .u64 (U bl))
  ∧ wr.cell? ⟨w.heap.size + 1 + 1 + 1, 0, none⟩ = some (.int .u64 (U zh)) ∧ wr.cell? ⟨w.heap.size + 1 + 1 + 1, 1, none⟩ = some (.int .u64 (U zl))
  ∧ wr.cell? ⟨w.heap.size + 1 + 1, 0, none⟩ = some (.int .u64 0) ∧ wr.cell? ⟨w.heap.size + 1 + 1, 1, none⟩ = some (.int .u64 0)
theorem Cells.gr {w wr w1 : World} {bh bl zh zl : BitVec 64} (h : Cells w bh bl zh zl wr) (g : Gr wr w1) : Cells w bh bl zh zl w1 := by
  obtain ⟨hg, hs, a, b, c, d, e, f⟩ := h
  have := g.size
  exact ⟨hg.trans g, by omega, (g.cell (by simp; omega)).trans a, (g.cell (by simp; omega)).trans b, (g.cell (by simp; omega)).trans c, (g.cell (by simp; omega)).trans d, (g.cell (by simp; omega)).trans e, (g.cell (by simp; omega)).trans f⟩
theorem set_other {w : World} {p q : Addr} {v : Value} (h : p ≠ q) : (w.setCell p v).cell? q = w.cell? q := World.cell?_setCell_other w p q v h
theorem set_same {w : World} {p : Addr} {v u : Value} (h : w.cell? p = some u) : (w.setCell p v).cell? p = some v := World.cell?_setCell_same w p v h
theorem Cells.setz {w wr : World} {bh bl zh zl : BitVec 64} (h : Cells w bh bl zh zl wr) (yh yl : BitVec 64) :
    Cells w bh bl yh yl ((wr.setCell ⟨w.heap.size + 1 + 1 + 1, 0, none⟩ (.int .u64 (U yh))).setCell ⟨w.heap.size + 1 + 1 + 1, 1, none⟩ (.int .u64 (U yl))) := by
  obtain ⟨hg, hs, a, b, c, d, e, f⟩ := h
  refine ⟨(hg.setCell (by simp; omega) _).setCell (by simp; omega) _, by simpa [World.setCell] using hs, ?_, ?_, ?_, ?_, ?_, ?_⟩
  · rw [set_other (by simp), set_other (by simp), a]
  · rw [set_other (by simp), set_other (by simp), b]
  · rw [set_other (by simp), set_same c]
  · rw [set_same (u := .int .u64 (U zl)) (by rw [set_other (by simp), d])]
  · rw [set_other (by simp), set_other (by simp), e]
  · rw [set_other (by simp), set_other (by simp), f]
theorem Cells.setb {w wr : World} {bh bl zh zl : BitVec 64} (h : Cells w bh bl zh zl wr) (yh yl : BitVec 64) :
    Cells w yh yl zh zl ((wr.setCell ⟨w.heap.size + 1, 0, none⟩ (.int .u64 (U yh))).setCell ⟨w.heap.size + 1, 1, none⟩ (.int .u64 (U yl))) := by
  obtain ⟨hg, hs, a, b, c, d, e, f⟩ := h
  refine ⟨(hg.setCell (by simp) _).setCell (by simp) _, by simpa [World.setCell] using hs, ?_, ?_, ?_, ?_, ?_, ?_⟩
  · rw [set_other (by simp), set_same a]
  · rw [set_same (u := .int .u64 (U bl)) (by rw [set_other (by simp), b])]
  · rw [set_other (by simp), set_other (by simp), c]
  · rw [set_other (by simp), set_other (by simp), d]
  · rw [set_other (by simp), set_other (by simp), e]
  · rw [set_other (by simp), set_other (by simp), f]
theorem Cells.to {w wr : World} {a b c d a' b' c' d' : BitVec 64} (h : Cells w a b c d wr) (e1 : a = a') (e2 : b = b') (e3 : c = c') (e4 : d = d') : Cells w a' b' c' d' wr := by
  subst e1 e2 e3 e4; exact h
theorem Cells.marks {w wr : World} {bh bl zh zl : BitVec 64} (h : Cells w bh bl zh zl wr) :
    wr.frozen? ⟨w.heap.size + 1, 0, none⟩ = false ∧ wr.frozen? ⟨w.heap.size + 1, 1, none⟩ = false ∧ wr.frozen? ⟨w.heap.size + 1 + 1, 0, none⟩ = false ∧ wr.frozen? ⟨w.heap.size + 1 + 1, 1, none⟩ = false
    ∧ wr.frozen? ⟨w.heap.size + 1 + 1 + 1, 0, none⟩ = false ∧ wr.frozen? ⟨w.heap.size + 1 + 1 + 1, 1, none⟩ = false :=
  ⟨h.1.new _ (by simp), h.1.new _ (by simp), h.1.new _ (by simp; omega), h.1.new _ (by simp; omega), h.1.new _ (by simp; omega), h.1.new _ (by simp; omega)⟩

set_option maxHeartbeats 1000000 in
/-- gfElement.mul -/
theorem mul_any (A B : BitVec 128) (w : World) :
    Calls Yba.prog 5 #[.agg #[.int .u64 (U (hi A)), .int .u64 (U (lo A))], .agg #[.int .u64 (U (hi B)), .int .u64 (U (lo B))]] w fun e w' =>
      e = .returned (.agg #[.int .u64 (U (hi (mul A B))), .int .u64 (U (lo (mul A B)))]) ∧ Gr w w' := by
  have i0 : ∀ w : World, (Instr.index 29 (.agg #[.int .u64 (U (hi A)), .int .u64 (U (lo A))]) (.int .i64 0)).run Yba.prog w = .ok (.int .u64 (U (hi A))) w := fun _ => by kernel_rfl
  have i1 : ∀ w : World, (Instr.index 29 (.agg #[.int .u64 (U (hi A)), .int .u64 (U (lo A))]) (.int .i64 1)).run Yba.prog w = .ok (.int .u64 (U (lo A))) w := fun _ => by kernel_rfl
  have hix : ∀ (m : Nat), m < 2 → ∀ w : World, (Instr.index 29 (.agg #[.int .u64 (U (hi A)), .int .u64 (U (lo A))]) (.int .i64 (m : Int))).run Yba.prog w = .ok (.int .u64 (U (wd A m))) w := by
    intro m hm w
    match m, hm with
    | 0, _ => exact i0 w
    | 1, _ => exact i1 w
  clear i0 i1
  go_enter Yba.func5, Yba.ntmps5
  go_wp2
  go_loopw [14] (fun i wr => ∃ m : Nat, m ≤ 2 ∧ i = .int .i64 m ∧ Cells w (hi (Xn (64 * m) B)) (lo (Xn (64 * m) B)) (hi (Z A B (64 * m))) (lo (Z A B (64 * m))) wr) (fun i _ => 2 - (intOf i).toNat)
  case atStart =>
    refine ⟨0, by omega, rfl, ((((Gr.refl w).alloc _ _).alloc _ _).alloc _ _).alloc _ _, by simp, ?_, ?_, ?_, ?_, ?_, ?_⟩
    all_goals go_simp
    all_goals first | rfl | (rw [show Z A B 0 = 0#128 from rfl]; decide)
  case round =>
    obtain ⟨m, hm, rfl, hC⟩ := hrel
    by_cases h2 : m = 2
    · subst h2
      have hM := hC.marks
      obtain ⟨hg, hsz, b0, b1, z0, z1, r0, r1⟩ := hC
      obtain ⟨f0, f1, f2, f3, f4, f5⟩ := hM
      clear hix
      go_wp2
      simp [bodyPost, results, Yba.results5, go_sem, *]
      exact ⟨⟨rfl, rfl⟩, (hg.setCell (by simp; omega) _).setCell (by simp; omega) _⟩
    · have hlt : m < 2 := by omega
      have hltI : (m : Int) < 2 := by omega
      have hxm := hix m hlt
      clear hix
      go_wp2
      go_loopw [7, 17] (fun v i wr => ∃ t : Nat, t ≤ 64 ∧ i = .int .i64 t ∧ v = .int .u64 (U (wd A m <<< t)) ∧ Cells w (hi (Xn (64 * m + t) B)) (lo (Xn (64 * m + t) B)) (hi (Z A B (64 * m + t))) (lo (Z A B (64 * m + t))) wr) (fun _ i _ => 64 - (intOf i).toNat)
      case atStart => exact ⟨0, by omega, rfl, by rw [BitVec.shiftLeft_zero], hC⟩
      case round =>
        clear hC
        obtain ⟨t, ht, rfl, rfl, hC⟩ := hrel
        by_cases h64 : t = 64
        · subst h64
          go_wp2
          go_roundw
          case rel => exact ⟨m + 1, by omega, by go_num, hC⟩
          case measure => simp [intOf]; omega
        · have ht' : t < 64 := by omega
          have htI : (t : Int) < 64 := by omega
          have hC' := hC
          obtain ⟨hg, hsz, b0, b1, z0, z1, r0, r1⟩ := hC'
          go_wp2_with fail
          refine (add_gr _ _ _ _ _).mono ?_
          rintro e w1 ⟨rfl, hw1⟩
          have hC1 := hC.gr hw1
          clear b0 b1 z0 z1 r0 r1 hg hsz hC hw1
          have hM := hC1.marks
          have hC' := hC1
          obtain ⟨hg, hsz, b0, b1, z0, z1, r0, r1⟩ := hC'
          obtain ⟨f0, f1, f2, f3, f4, f5⟩ := hM
          go_wp2_with fail
          refine (tx_gr _ _ _).mono ?_
          rintro e w2 ⟨rfl, hw2⟩
          have hC2 := (hC1.setz _ _).gr hw2
          clear b0 b1 z0 z1 r0 r1 hg hsz hC1 hw2 f0 f1 f2 f3 f4 f5
          have hM := hC2.marks
          have hC' := hC2
          obtain ⟨hg, hsz, b0, b1, z0, z1, r0, r1⟩ := hC'
          obtain ⟨f0, f1, f2, f3, f4, f5⟩ := hM
          go_wp2
          go_roundw
          case rel =>
            have hE := (hC2.setb _ _).to (bhi B (64 * m + t)) (blo B (64 * m + t)) (zhi A B m t hlt ht') (zlo A B m t hlt ht')
            first
              | exact ⟨t + 1, by omega, by go_num, congrArg (fun x => Value.int .u64 (U x)) (wshl (wd A m) t), hE⟩
              | ((repeat apply Exists.intro); exact ⟨⟨t + 1, by omega, by go_num, congrArg (fun x => Value.int .u64 (U x)) (wshl (wd A m) t), hE⟩, rfl⟩)
          case measure => simp [intOf]; omega
end Go.Proofs.Ybulkcuia
