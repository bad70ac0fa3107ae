/-
  PLAIN FACTS ON STRINGS OF DIGITS AND ON THE FRAME OF THE TWO LAWS.
-/
import Derived.Test.YbulkcuiaFmtHeader
import Derived.Laws.BytesArg
namespace Go.Proofs.YbulkcuiaFmt
open Go.RowKit
/-- 'string(b)' of a slice whose cells are known. -/
theorem wpList_string {P : Program} {ops : Array Oper} {rest : List Oper} {o : Oper} {ac : Act} {Q : Exit → Act → World → Prop} {w : World} (hgd : o.guard = none) (x : Operand) (ho : o.op = .convert 22 9 x)
    (h22 : P.underlying 22 = some (.slice 5)) (h5 : P.underlying 5 = some (.int .u8)) (h9 : P.underlying 9 = some .string)
    (n len c : Nat) (xs : List Int) (hx : ac.eval x = .slice (some ⟨n, 0, none⟩) len c) (hlen : xs.length = len) (hc : ∀ i, i < len → w.cell? ⟨n, 0 + i, none⟩ = some (.int .u8 (xs.getD i 0)))
    (s : ByteArray) (hs : Hid (s = strOfNums xs))
    (h : wpList P ops Q rest (ac.put o.dst (.string s)) w) : wpList P ops Q (o :: rest) ac w := by
  refine wpList_plain hgd fun _ hK => ?_
  have hr := run_convert_bytes_arg (P := P) w 22 5 h22 h5 n 0 len c xs hlen hc 9 h9
  rw [← hs.out] at hr
  unfold Oper.wp execOp
  simp only [ho, hx, Sem.run_bind, Sem.run_pure, hr, Result.andThen_ok]
  exact hK _ _ h
theorem three_cells (w : World) (e0 e1 e2 : Int) (n : Nat) (hn : n = w.heap.size) : ∀ i, i < 3 → (w.alloc (.cells #[.int .u8 e0, .int .u8 e1, .int .u8 e2] 5)).cell? ⟨n, 0 + i, none⟩ = some (.int .u8 ([e0, e1, e2].getD i 0)) := by
  intro i hi
  have h := new_cells w [.int .u8 e0, .int .u8 e1, .int .u8 e2] n hn i (.int .u8 ([e0, e1, e2].getD i 0)) (by match i, hi with | 0, _ => rfl | 1, _ => rfl | 2, _ => rfl)
  have ha : (⟨n, 0, none⟩ : Addr).add i = ⟨n, 0 + i, none⟩ := by unfold Addr.add; split <;> simp_all
  rw [ha] at h
  exact h
theorem two_cells (w : World) (e0 e1 : Int) (n : Nat) (hn : n = w.heap.size) : ∀ i, i < 2 → (w.alloc (.cells #[.int .u8 e0, .int .u8 e1] 5)).cell? ⟨n, 0 + i, none⟩ = some (.int .u8 ([e0, e1].getD i 0)) := by
  intro i hi
  have h := new_cells w [.int .u8 e0, .int .u8 e1] n hn i (.int .u8 ([e0, e1].getD i 0)) (by match i, hi with | 0, _ => rfl | 1, _ => rfl)
  have ha : (⟨n, 0, none⟩ : Addr).add i = ⟨n, 0 + i, none⟩ := by unfold Addr.add; split <;> simp_all
  rw [ha] at h
  exact h
theorem size_nums (xs : List Int) : (strOfNums xs).size = xs.length := by simp [strOfNums, ByteArray.size]
theorem at_nums (xs : List Int) (k : Nat) (hk : k < (strOfNums xs).size) (h0 : ∀ x ∈ xs, 48 ≤ x ∧ x ≤ 57) : ((strOfNums xs)[k].toNat : Int) = xs[k]'(by rw [size_nums] at hk; exact hk) := by
  have hk' : k < xs.length := by rw [size_nums] at hk; exact hk
  have hb := h0 xs[k] (List.getElem_mem hk')
  have e : (strOfNums xs)[k] = UInt8.ofNat (xs[k].toNat) := by simp [strOfNums, ByteArray.getElem_eq_getElem_data]
  rw [e]
  simp only [UInt8.toNat_ofNat']
  omega
theorem dg_nums (xs : List Int) (h0 : ∀ x ∈ xs, 48 ≤ x ∧ x ≤ 57) : dg (strOfNums xs) = true := by
  refine dg_true fun k hk => ?_
  rw [at_nums xs k hk h0]
  exact h0 _ (List.getElem_mem _)
theorem dv_48 (d : Int) (h0 : 0 ≤ d) (h1 : d < 10) : dv (48 + d) = d := by unfold dv; omega
theorem nb_small (a b : Int) (h0 : 0 ≤ a) (h1 : a < 16) : nb a b = bits .or .u8 (a * 16) b := by
  unfold nb; rw [show a * 16 % 256 = a * 16 by omega]
/-- three digits and three digits. -/
theorem tb_33 (d0 d1 d2 e0 e1 e2 : Int) (h : (0 ≤ d0 ∧ d0 < 10) ∧ (0 ≤ d1 ∧ d1 < 10) ∧ (0 ≤ d2 ∧ d2 < 10) ∧ (0 ≤ e0 ∧ e0 < 10) ∧ (0 ≤ e1 ∧ e1 < 10) ∧ (0 ≤ e2 ∧ e2 < 10)) (M N : ByteArray) (hM : M = strOfNums [48 + d0, 48 + d1, 48 + d2]) (hN : N = strOfNums [48 + e0, 48 + e1, 48 + e2]) :
    WF M N = true ∧ ∃ (h1 : M.size = 3) (h2 : 2 ≤ N.size), tbOf M N h1 h2 = [bits .or .u8 (d1 * 16) d0, bits .or .u8 (e2 * 16) d2, bits .or .u8 (e1 * 16) e0] := by
  obtain ⟨q0, q1, q2, r0, r1, r2⟩ := h
  subst hM hN
  have hm : ∀ x ∈ [48 + d0, 48 + d1, 48 + d2], 48 ≤ x ∧ x ≤ 57 := by intro x hx; simp at hx; omega
  have hn : ∀ x ∈ [48 + e0, 48 + e1, 48 + e2], 48 ≤ x ∧ x ≤ 57 := by intro x hx; simp at hx; omega
  have sm : (strOfNums [48 + d0, 48 + d1, 48 + d2]).size = 3 := size_nums _
  have sn : (strOfNums [48 + e0, 48 + e1, 48 + e2]).size = 3 := size_nums _
  refine ⟨by simp [WF, sm, sn, dg_nums _ hm, dg_nums _ hn], sm, by omega, ?_⟩
  have m0 := at_nums [48 + d0, 48 + d1, 48 + d2] 0 (by omega) hm
  have m1 := at_nums [48 + d0, 48 + d1, 48 + d2] 1 (by omega) hm
  have m2 := at_nums [48 + d0, 48 + d1, 48 + d2] 2 (by omega) hm
  have n0 := at_nums [48 + e0, 48 + e1, 48 + e2] 0 (by omega) hn
  have n1 := at_nums [48 + e0, 48 + e1, 48 + e2] 1 (by omega) hn
  have n2 := at_nums [48 + e0, 48 + e1, 48 + e2] 2 (by omega) hn
  unfold tbOf third
  rw [dif_pos sn, m0, m1, m2, n0, n1, n2]
  simp only [List.getElem_cons_zero, List.getElem_cons_succ]
  rw [dv_48 _ q0.1 q0.2, dv_48 _ q1.1 q1.2, dv_48 _ q2.1 q2.2, dv_48 _ r0.1 r0.2, dv_48 _ r1.1 r1.2, dv_48 _ r2.1 r2.2, nb_small _ _ q1.1 (by omega), nb_small _ _ r2.1 (by omega), nb_small _ _ r1.1 (by omega)]
/-- three digits and two digits. -/
theorem tb_32 (d0 d1 d2 e0 e1 : Int) (h : (0 ≤ d0 ∧ d0 < 10) ∧ (0 ≤ d1 ∧ d1 < 10) ∧ (0 ≤ d2 ∧ d2 < 10) ∧ (0 ≤ e0 ∧ e0 < 10) ∧ (0 ≤ e1 ∧ e1 < 10)) (M N : ByteArray) (hM : M = strOfNums [48 + d0, 48 + d1, 48 + d2]) (hN : N = strOfNums [48 + e0, 48 + e1]) :
    WF M N = true ∧ ∃ (h1 : M.size = 3) (h2 : 2 ≤ N.size), tbOf M N h1 h2 = [bits .or .u8 (d1 * 16) d0, bits .or .u8 240 d2, bits .or .u8 (e1 * 16) e0] := by
  obtain ⟨q0, q1, q2, r0, r1⟩ := h
  subst hM hN
  have hm : ∀ x ∈ [48 + d0, 48 + d1, 48 + d2], 48 ≤ x ∧ x ≤ 57 := by intro x hx; simp at hx; omega
  have hn : ∀ x ∈ [48 + e0, 48 + e1], 48 ≤ x ∧ x ≤ 57 := by intro x hx; simp at hx; omega
  have sm : (strOfNums [48 + d0, 48 + d1, 48 + d2]).size = 3 := size_nums _
  have sn : (strOfNums [48 + e0, 48 + e1]).size = 2 := size_nums _
  refine ⟨by simp [WF, sm, sn, dg_nums _ hm, dg_nums _ hn], sm, by omega, ?_⟩
  have m0 := at_nums [48 + d0, 48 + d1, 48 + d2] 0 (by omega) hm
  have m1 := at_nums [48 + d0, 48 + d1, 48 + d2] 1 (by omega) hm
  have m2 := at_nums [48 + d0, 48 + d1, 48 + d2] 2 (by omega) hm
  have n0 := at_nums [48 + e0, 48 + e1] 0 (by omega) hn
  have n1 := at_nums [48 + e0, 48 + e1] 1 (by omega) hn
  unfold tbOf third
  rw [dif_neg (by omega), m0, m1, m2, n0, n1]
  simp only [List.getElem_cons_zero, List.getElem_cons_succ]
  rw [dv_48 _ q0.1 q0.2, dv_48 _ q1.1 q1.2, dv_48 _ q2.1 q2.2, dv_48 _ r0.1 r0.2, dv_48 _ r1.1 r1.2, nb_small _ _ q1.1 (by omega), ← nb_15, nb_small _ _ r1.1 (by omega)]

/-! ### The law's own frame -/
/-- the world at a call, under a name. -/
theorem calls_gen {P : Program} {f : FuncId} {args : Array Value} {w : World} {Q : Ending → World → Prop} (h : ∀ W, W = w → Calls P f args W Q) : Calls P f args w Q := h w rfl
/-- the bytes cs lie at the head of block b. -/
def At (w : World) (b : Nat) (cs : List Int) : Prop := ∀ (j : Nat) (h : j < cs.length), w.cell? ⟨b, j, none⟩ = some (.int .u8 cs[j])
theorem At.grown {w w' : World} {b : Nat} {cs : List Int} {r : Option Nat} (h : At w b cs) (g : w.grownBy w' r) (hr : r ≠ some b) : At w' b cs := fun j hj => g.cell (h j hj) (fun e => hr e.symm)
/-- what the law's variables hold: the header (block hb), the boxes of neid, prop and tb; the argument's slice reads as l; what was there before the call is as it was. -/
structure St (w W : World) (hb nk pk tk : Nat) (tvp : Int) (ns ps ts : List Int) (M N : ByteArray) (spi ct code : Int) (s : Value) (l : List Int) : Prop where
  below : Below w.heap.size w W
  hd : Hd W hb tvp ns ps M N spi ct code
  ns_at : At W nk ns
  ps_at : At W pk ps
  ts_at : At W tk ts
  rd : Rd W s l
theorem rd_below {w W : World} {v : Value} {l : List Int} (h : Rd w v l) (hb : Below w.heap.size w W) : Rd W v l :=
  h.of_cells fun _ _ _ hx _ => (hb.cell (World.block_lt_of_cell? w _ hx)).trans hx
theorem St.grown {w W W' : World} {hb nk pk tk : Nat} {tvp : Int} {ns ps ts : List Int} {M N : ByteArray} {spi ct code : Int} {s : Value} {l : List Int} {r : Option Nat}
    (h : St w W hb nk pk tk tvp ns ps ts M N spi ct code s l) (hrd : Rd w s l) (g : W.grownBy W' r) (B : Nat) (hr : ∀ k, r = some k → B ≤ k) (hB : w.heap.size ≤ B ∧ hb < B ∧ nk < B ∧ pk < B ∧ tk < B) : St w W' hb nk pk tk tvp ns ps ts M N spi ct code s l := by
  obtain ⟨b0, b1, b2, b3, b4⟩ := hB
  have hne : ∀ k, k < B → r ≠ some k := fun k hk e => by have := hr k e; omega
  have hbel : Below w.heap.size w W' := h.below.grown g h.below.size (fun k hk => by have := hr k hk; omega)
  exact ⟨hbel, h.hd.grown g (hne _ b1), h.ns_at.grown g (hne _ b2), h.ps_at.grown g (hne _ b3), h.ts_at.grown g (hne _ b4), rd_below hrd hbel⟩
theorem grownBy_drewN (w : World) (d : Nat) (r : Option Nat) : w.grownBy (w.drewN d) r := ⟨rfl, rfl, rfl, Nat.le_refl _, fun _ _ _ => rfl⟩
theorem Own.grown {w w' : World} {B : Nat} {v : Value} {l : List Int} (h : Own w B v l) (g : w.grownBy w' none) : Own w' B v l := World.ownsRow.kept h g (by cases v.ownBlock <;> simp)
end Go.Proofs.YbulkcuiaFmt
