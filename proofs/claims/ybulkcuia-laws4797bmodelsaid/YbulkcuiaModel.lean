/-
  THE WALK OF zzs4797bmodel.
-/
import Derived.Test.YbulkcuiaCoef
import Derived.RegionTactic
import Derived.BigRegion
import Derived.Deep.RegionWith
namespace Go.Proofs.Ybulkcuia
open Go.RowKit Go.Proofs.Ybulkcuia.Field
/-- the table, at the start. -/
def zeros : Array Value := Array.replicate 255 (.int .u64 0)
/-- what the variables of the model hold: a, b, the result (blocks 0, 1, 2 of the call's own), the table c (block 3). -/
def Tab (w : World) (A B : BitVec 128) (c : Nat → Bool) (wr : World) : Prop :=
  Gr w wr ∧ w.heap.size + 4 ≤ wr.heap.size
  ∧ wr.cell? ⟨w.heap.size, 0, none⟩ = some (.int .u64 (U (hi A))) ∧ wr.cell? ⟨w.heap.size, 1, none⟩ = some (.int .u64 (U (lo A)))
  ∧ wr.cell? ⟨w.heap.size + 1, 0, none⟩ = some (.int .u64 (U (hi B))) ∧ wr.cell? ⟨w.heap.size + 1, 1, none⟩ = some (.int .u64 (U (lo B)))
  ∧ wr.cell? ⟨w.heap.size + 1 + 1, 0, none⟩ = some (.int .u64 0) ∧ wr.cell? ⟨w.heap.size + 1 + 1, 1, none⟩ = some (.int .u64 0)
  ∧ ∀ k, k < 255 → wr.cell? ⟨w.heap.size + 1 + 1 + 1, k, none⟩ = some (.int .u64 (bn (c k)))
theorem Gr.some {w w' : World} (g : Gr w w') {p : Addr} {v : Value} (h : w.cell? p = some v) : w'.cell? p = some v :=
  (g.cell (World.block_lt_of_cell? w p h)).trans h
theorem Tab.gr {w wr w1 : World} {A B : BitVec 128} {c : Nat → Bool} (h : Tab w A B c wr) (g : Gr wr w1) : Tab w A B c w1 := by
  obtain ⟨hg, hs, h1, h2, h3, h4, h5, h6, h7⟩ := h
  have := g.size
  exact ⟨hg.trans g, by omega, g.some h1, g.some h2, g.some h3, g.some h4, g.some h5, g.some h6, fun k hk => g.some (h7 k hk)⟩
theorem Tab.set {w wr : World} {A B : BitVec 128} {c : Nat → Bool} (h : Tab w A B c wr) (k : Nat) (hk : k < 255) (v : Bool) (n : Int) (hn : n = bn (c k ^^ v)) :
    Tab w A B (upd c k v) (wr.setCell ⟨w.heap.size + 1 + 1 + 1, k, none⟩ (.int .u64 n)) := by
  subst hn
  obtain ⟨hg, hs, h1, h2, h3, h4, h5, h6, h7⟩ := h
  refine ⟨hg.setCell (by simp; omega) _, by simpa [World.setCell] using hs, ?_, ?_, ?_, ?_, ?_, ?_, ?_⟩
  · rw [set_other (by simp), h1]
  · rw [set_other (by simp), h2]
  · rw [set_other (by simp), h3]
  · rw [set_other (by simp), h4]
  · rw [set_other (by simp), h5]
  · rw [set_other (by simp), h6]
  · intro j hj
    by_cases e : j = k
    · subst e; rw [set_same (h7 j hj), upd_at]
    · rw [set_other (by simp), h7 j hj, upd_ne c k j v e]
theorem xor_bn (a b : Bool) : bits .xor .u64 (bn a) (bn b) = bn (a ^^ b) := by cases a <;> cases b <;> decide
theorem xor_bn1 (a : Bool) : bits .xor .u64 (bn a) 1 = bn (a ^^ true) := by cases a <;> decide
theorem Z_succ_true {A B : BitVec 128} {n : Nat} {p : BitVec 128} (h : p = Z A B n ^^^ S (fun j => sel (co B j) (Xn (n + j) one)) 128) (hb : co A n = true) : p = Z A B (n + 1) := by
  rw [h, basis]
  show _ = Z A B n ^^^ sel (co A n) (Xn n B)
  rw [hb]; rfl
theorem Z_succ_false {A B : BitVec 128} {n : Nat} {p : BitVec 128} (h : p = Z A B n) (hb : co A n = false) : p = Z A B (n + 1) := by
  rw [h]
  show _ = Z A B n ^^^ sel (co A n) (Xn n B)
  rw [hb]; simp [sel]
theorem P_in {A B : BitVec 128} {n m : Nat} {c : Nat → Bool} (h : P c 255 = Z A B n ^^^ S (fun j => sel (co B j) (Xn (n + j) one)) m) (hn : n + m < 255) :
    P (upd c (n + m) (co B m)) 255 = Z A B n ^^^ S (fun j => sel (co B j) (Xn (n + j) one)) (m + 1) := by
  rw [P_upd _ _ _ _ hn, h]
  simp only [S, BitVec.xor_assoc]
theorem P_zero : P (fun _ => false) 255 = 0#128 := S_zero 255
theorem Tab.start (A B : BitVec 128) (w : World) : Tab w A B (fun _ => false) ((((w.alloc (.cells #[.int .u64 (U (hi A)), .int .u64 (U (lo A))] 24)).alloc (.cells #[.int .u64 (U (hi B)), .int .u64 (U (lo B))] 24)).alloc (.cells #[.int .u64 0, .int .u64 0] 24)).alloc (.cells zeros 32)) := by
  refine ⟨((((Gr.refl w).alloc _ _).alloc _ _).alloc _ _).alloc _ _, by simp, ?_, ?_, ?_, ?_, ?_, ?_, ?_⟩
  case refine_7 =>
    intro k hk
    have e : zeros[k]? = some (.int .u64 (bn false)) := by
      unfold zeros; rw [Array.getElem?_replicate, if_pos hk]; rfl
    rw [← e]
    have hs : ∀ (W : World) (cs : Array Value) (n : Nat), (hn : n = W.heap.size) → (W.alloc (.cells cs 32)).cell? ⟨n, k, none⟩ = cs[k]? := by
      intro W cs n hn
      subst hn
      show (match (W.heap.push (.cells cs 32))[W.heap.size]? with | some (.cells c _ _) => _ | _ => _) = _
      rw [Array.getElem?_push_size]
      rfl
    exact hs _ _ _ (by simp)
  all_goals go_simp

/-- one step of the reduction, in memory. -/
theorem Tab.step {w wr : World} {A B : BitVec 128} {c : Nat → Bool} (h : Tab w A B c wr) (i : Nat) (hi : i < 127) (hc : c (i + 128) = true) :
    Tab w A B (Field.step c (i + 128)) (((((wr.setCell ⟨w.heap.size + 1 + 1 + 1, i + 128, none⟩ (.int .u64 0)).setCell ⟨w.heap.size + 1 + 1 + 1, i + 7, none⟩ (.int .u64 (bits .xor .u64 (bn (c (i + 7))) 1))).setCell
      ⟨w.heap.size + 1 + 1 + 1, i + 2, none⟩ (.int .u64 (bits .xor .u64 (bn (c (i + 2))) 1))).setCell ⟨w.heap.size + 1 + 1 + 1, i + 1, none⟩ (.int .u64 (bits .xor .u64 (bn (c (i + 1))) 1))).setCell
      ⟨w.heap.size + 1 + 1 + 1, i, none⟩ (.int .u64 (bits .xor .u64 (bn (c i)) 1))) := by
  unfold Field.step
  rw [show i + 128 - 121 = i + 7 by omega, show i + 128 - 126 = i + 2 by omega, show i + 128 - 127 = i + 1 by omega, show i + 128 - 128 = i by omega]
  refine ((((h.set (i + 128) (by omega) true 0 (by rw [hc]; rfl)).set (i + 7) (by omega) true _ ?_).set (i + 2) (by omega) true _ ?_).set (i + 1) (by omega) true _ ?_).set i (by omega) true _ ?_
  · rw [upd_ne _ _ _ _ (by omega), xor_bn1]
  · rw [upd_ne _ _ _ _ (by omega), upd_ne _ _ _ _ (by omega), xor_bn1]
  · rw [upd_ne _ _ _ _ (by omega), upd_ne _ _ _ _ (by omega), upd_ne _ _ _ _ (by omega), xor_bn1]
  · rw [upd_ne _ _ _ _ (by omega), upd_ne _ _ _ _ (by omega), upd_ne _ _ _ _ (by omega), upd_ne _ _ _ _ (by omega), xor_bn1]
theorem step_high (c : Nat → Bool) (i : Nat) (hc : c (i + 128) = true) (h : ∀ k, i + 1 + 127 < k → k < 255 → c k = false) : ∀ k, i + 127 < k → k < 255 → Field.step c (i + 128) k = false := by
  intro k h1 h2
  unfold Field.step
  rw [upd_ne _ _ _ _ (by omega), upd_ne _ _ _ _ (by omega), upd_ne _ _ _ _ (by omega), upd_ne _ _ _ _ (by omega)]
  by_cases e : k = i + 128
  · subst e; rw [upd_at, hc]; rfl
  · rw [upd_ne _ _ _ _ e]; exact h k (by omega) h2
theorem skip_high (c : Nat → Bool) (i : Nat) (hc : c (i + 128) = false) (h : ∀ k, i + 1 + 127 < k → k < 255 → c k = false) : ∀ k, i + 127 < k → k < 255 → c k = false := by
  intro k h1 h2
  by_cases e : k = i + 128
  · subst e; exact hc
  · exact h k (by omega) h2

theorem orG (c : Nat → Bool) (t : Nat) : bits .or .u64 (U (G c t)) (IntKind.u64.wrap (bn (c t) * 2 ^ (63 - t))) = U (G c (t + 1)) := by
  have e : bn (c t) = U (if c t then 1#64 else 0#64) := by cases c t <;> rfl
  rw [e, shl_U, or_U]; rfl
/-- a store into the variable r, and the draw. -/
theorem Tab.setR {w wr : World} {A B : BitVec 128} {c : Nat → Bool} (h : Tab w A B c wr) {R : Nat} (hR : w.heap.size + 4 ≤ R) (o : Nat) (v : Value) : Tab w A B c (wr.setCell ⟨R, o, none⟩ v).drew := by
  obtain ⟨hg, hs, h1, h2, h3, h4, h5, h6, h7⟩ := h
  refine ⟨(hg.setCell (by simp; omega) _).drew, by simpa [World.setCell, World.drew] using hs, ?_, ?_, ?_, ?_, ?_, ?_, ?_⟩
  · show (wr.setCell ⟨R, o, none⟩ v).cell? _ = _; rw [set_other (by intro h; have := congrArg Addr.block h; simp at this; omega), h1]
  · show (wr.setCell ⟨R, o, none⟩ v).cell? _ = _; rw [set_other (by intro h; have := congrArg Addr.block h; simp at this; omega), h2]
  · show (wr.setCell ⟨R, o, none⟩ v).cell? _ = _; rw [set_other (by intro h; have := congrArg Addr.block h; simp at this; omega), h3]
  · show (wr.setCell ⟨R, o, none⟩ v).cell? _ = _; rw [set_other (by intro h; have := congrArg Addr.block h; simp at this; omega), h4]
  · show (wr.setCell ⟨R, o, none⟩ v).cell? _ = _; rw [set_other (by intro h; have := congrArg Addr.block h; simp at this; omega), h5]
  · show (wr.setCell ⟨R, o, none⟩ v).cell? _ = _; rw [set_other (by intro h; have := congrArg Addr.block h; simp at this; omega), h6]
  · intro k hk; show (wr.setCell ⟨R, o, none⟩ v).cell? _ = _; rw [set_other (by intro h; have := congrArg Addr.block h; simp at this; omega), h7 k hk]
theorem size_setR {wr : World} {R o n : Nat} {v : Value} (h : n < wr.heap.size) : n < (wr.setCell ⟨R, o, none⟩ v).drew.heap.size := by
  simpa [World.setCell, World.drew] using h

set_option maxRecDepth 100000 in
set_option maxHeartbeats 1000000 in
/-- zzs4797bmodel -/
theorem model_any (A B : BitVec 128) (w : World) :
    Calls Yba.prog 6 #[.agg #[.int .u64 (U (hi A)), .int .u64 (U (lo A))], .agg #[.int .u64 (U (hi B)), .int .u64 (U (lo B))]] w fun e w' =>
      e = .returned (.agg #[.int .u64 (U (hi (mul A B))), .int .u64 (U (lo (mul A B)))]) ∧ Gr w w' := by
  have hz : ∀ w : World, (zeroValue 32).run Yba.prog w = .ok (.agg zeros) w := fun _ => by kernel_rfl
  go_enter Yba.func6, Yba.ntmps6
  go_wp2
  go_loopw [6] (fun i wr => ∃ n : Nat, n ≤ 128 ∧ i = .int .i64 n ∧ ∃ c, Tab w A B c wr ∧ Hid (P c 255 = Z A B n)) (fun i _ => 128 - (intOf i).toNat)
  case atStart => exact ⟨0, by omega, rfl, fun _ => false, Tab.start A B w, P_zero⟩
  case round =>
    clear hz
    obtain ⟨n, hn, rfl, c, hT, hP⟩ := hrel
    by_cases h128 : n = 128
    · subst h128
      go_wp2
      go_loopw [8] (fun k wr => ∃ j : Nat, j ≤ 127 ∧ k = .int .i64 ((j : Int) + 127) ∧ ∃ c, Tab w A B c wr ∧ Hid (P c 255 = mul A B) ∧ Hid (∀ k, j + 127 < k → k < 255 → c k = false)) (fun k _ => (intOf k).toNat)
      case atStart => exact ⟨127, by omega, rfl, c, hT, hP, fun k h1 h2 => by omega⟩
      case round =>
        clear hT hP
        obtain ⟨j, hj, rfl, c, hT, hP, hH⟩ := hrel
        match j, hj, hH with
        | 0, _, hH =>
          have hco := co_P c (fun k h1 h2 => hH.out k (by omega) h2)
          rw [hP.out] at hco
          have hGh := hi_G _ _ hco
          have hGl := lo_G _ _ hco
          have HG : Hid (hi (mul A B) = G c 64 ∧ lo (mul A B) = G (fun i => c (64 + i)) 64) := ⟨hGh, hGl⟩
          clear hco hGh hGl hP hH
          have hsR := hT.2.1
          go_wp2
          generalize hR : wr.heap.size = R at hsR ⊢
          go_loopw [10] (fun i w4 => ∃ t : Nat, t ≤ 64 ∧ i = .int .i64 t ∧ Tab w A B c w4 ∧ R < w4.heap.size ∧ w4.cell? ⟨R, 0, none⟩ = some (.int .u64 (U (G c t))) ∧ w4.cell? ⟨R, 1, none⟩ = some (.int .u64 0)) (fun i _ => 64 - (intOf i).toNat)
          case atStart =>
            subst hR
            refine ⟨0, by omega, rfl, hT.gr ((Gr.refl _).alloc _ _), by simp, ?_, ?_⟩
            all_goals go_simp
            all_goals rfl
          case round =>
            clear hT hR
            obtain ⟨t, ht, rfl, hT, hsz, r0, r1⟩ := hrel
            by_cases h64 : t = 64
            · subst h64
              go_wp2
              go_loopw [11] (fun i w5 => ∃ t : Nat, t ≤ 64 ∧ i = .int .i64 ((t : Int) + 64) ∧ Tab w A B c w5 ∧ R < w5.heap.size ∧ w5.cell? ⟨R, 0, none⟩ = some (.int .u64 (U (G c 64))) ∧ w5.cell? ⟨R, 1, none⟩ = some (.int .u64 (U (G (fun i => c (64 + i)) t)))) (fun i _ => 128 - (intOf i).toNat)
              case atStart => exact ⟨0, by omega, rfl, hT, hsz, r0, r1⟩
              case round =>
                clear hT hsz r0 r1
                obtain ⟨t, ht, rfl, hT, hsz, r0, r1⟩ := hrel
                by_cases h64 : t = 64
                · subst h64
                  obtain ⟨hg, hs, h1, h2, h3, h4, h5, h6, h7⟩ := hT
                  have f0 := hg.new ⟨w.heap.size + 1 + 1, 0, none⟩ (by simp; omega)
                  have f1 := hg.new ⟨w.heap.size + 1 + 1, 1, none⟩ (by simp; omega)
                  clear h7 h1 h2 h3 h4
                  go_wp2
                  simp [bodyPost, results, Yba.results6, go_sem, *]
                  exact ⟨⟨by rw [HG.out.1], by rw [HG.out.2]⟩, (hg.setCell (by simp; omega) _).setCell (by simp; omega) _⟩
                · have tlt : t < 64 := by omega
                  have tltI : (t : Int) < 64 := by omega
                  have hc := hT.2.2.2.2.2.2.2.2 (64 + t) (by omega)
                  have hf := hT.1.new ⟨R, 1, none⟩ (by simp; omega)
                  have k0 : 0 ≤ (127 : Int) - ((t : Int) + 64) := by omega
                  have k1 : (127 : Int) - ((t : Int) + 64) ≤ 64 := by omega
                  have k2 : IntKind.i64.wrap ((127 : Int) - ((t : Int) + 64)) = (127 : Int) - ((t : Int) + 64) := by rw [IntKind.wrap_i64]; omega
                  have k3 : IntKind.u64.wrap ((127 : Int) - ((t : Int) + 64)) = (127 : Int) - ((t : Int) + 64) := by rw [IntKind.wrap_u64]; omega
                  have k4 : ((127 : Int) - ((t : Int) + 64)).toNat = 63 - t := by omega
                  have k5 : (t : Int) + 64 < 255 := by omega
                  have k6 : 0 ≤ (t : Int) + 64 := by omega
                  have k7 : ((t : Int) + 64).toNat = 64 + t := by omega
                  go_wp2
                  go_region
                  have hT2 := hT.setR hsR 1 (.int .u64 (bits .or .u64 (U (G (fun i => c (64 + i)) t)) (IntKind.u64.wrap (bn (c (64 + t)) * 2 ^ (63 - t)))))
                  have s2 := size_setR (R := R) (o := 1) (v := .int .u64 (bits .or .u64 (U (G (fun i => c (64 + i)) t)) (IntKind.u64.wrap (bn (c (64 + t)) * 2 ^ (63 - t))))) hsz
                  have q0 := (set_other (w := wr) (p := ⟨R, 1, none⟩) (q := ⟨R, 0, none⟩) (v := .int .u64 (bits .or .u64 (U (G (fun i => c (64 + i)) t)) (IntKind.u64.wrap (bn (c (64 + t)) * 2 ^ (63 - t))))) (by simp)).trans r0
                  have q1 := set_same (v := .int .u64 (bits .or .u64 (U (G (fun i => c (64 + i)) t)) (IntKind.u64.wrap (bn (c (64 + t)) * 2 ^ (63 - t))))) r1
                  have HO : Hid _ := orG (fun i => c (64 + i)) t
                  clear hT hsz r0 r1 hc hf k0 k1 k2 k3 k4 k5 k6 k7
                  go_wp2
                  exact ⟨⟨t + 1, by omega, by go_num, hT2, s2, q0, q1.trans (by rw [HO.out])⟩, by simp [intOf]; omega⟩
            · have tlt : t < 64 := by omega
              have tltI : (t : Int) < 64 := by omega
              have hc := hT.2.2.2.2.2.2.2.2 t (by omega)
              have hf := hT.1.new ⟨R, 0, none⟩ (by simp; omega)
              have k0 : 0 ≤ (63 : Int) - (t : Int) := by omega
              have k1 : (63 : Int) - (t : Int) ≤ 64 := by omega
              have k2 : IntKind.i64.wrap ((63 : Int) - (t : Int)) = (63 : Int) - (t : Int) := by rw [IntKind.wrap_i64]; omega
              have k3 : IntKind.u64.wrap ((63 : Int) - (t : Int)) = (63 : Int) - (t : Int) := by rw [IntKind.wrap_u64]; omega
              have k4 : ((63 : Int) - (t : Int)).toNat = 63 - t := by omega
              have k5 : (t : Int) < 255 := by omega
              go_wp2
              go_region
              have hT2 := hT.setR hsR 0 (.int .u64 (bits .or .u64 (U (G c t)) (IntKind.u64.wrap (bn (c t) * 2 ^ (63 - t)))))
              have s2 := size_setR (R := R) (o := 0) (v := .int .u64 (bits .or .u64 (U (G c t)) (IntKind.u64.wrap (bn (c t) * 2 ^ (63 - t))))) hsz
              have q1 := (set_other (w := wr) (p := ⟨R, 0, none⟩) (q := ⟨R, 1, none⟩) (v := .int .u64 (bits .or .u64 (U (G c t)) (IntKind.u64.wrap (bn (c t) * 2 ^ (63 - t))))) (by simp)).trans r1
              have q0 := set_same (v := .int .u64 (bits .or .u64 (U (G c t)) (IntKind.u64.wrap (bn (c t) * 2 ^ (63 - t))))) r0
              have HO : Hid _ := orG c t
              clear hT hsz r0 r1 hc hf k0 k1 k2 k3 k4 k5
              go_wp2
              exact ⟨⟨t + 1, by omega, by go_num, hT2, s2, q0.trans (by rw [HO.out]), q1⟩, by simp [intOf]; omega⟩
        | i + 1, hj, hH =>
          have hk : (((i + 1 : Nat) : Int) + 127) = (i : Int) + 128 := by omega
          rw [hk]
          have hg := hT.1
          have hs := hT.2.1
          have h7 := hT.2.2.2.2.2.2.2.2
          have c0 := h7 (i + 128) (by omega)
          have c1 := h7 (i + 7) (by omega)
          have c2 := h7 (i + 2) (by omega)
          have c3 := h7 (i + 1) (by omega)
          have c4 := h7 i (by omega)
          have f0 := hg.new ⟨w.heap.size + 1 + 1 + 1, i + 128, none⟩ (by simp; omega)
          have f1 := hg.new ⟨w.heap.size + 1 + 1 + 1, i + 7, none⟩ (by simp; omega)
          have f2 := hg.new ⟨w.heap.size + 1 + 1 + 1, i + 2, none⟩ (by simp; omega)
          have f3 := hg.new ⟨w.heap.size + 1 + 1 + 1, i + 1, none⟩ (by simp; omega)
          have f4 := hg.new ⟨w.heap.size + 1 + 1 + 1, i, none⟩ (by simp; omega)
          have hiI : (i : Int) < 127 := by omega
          clear h7 hs hg
          by_cases hc : c (i + 128) = true
          · have hT2 := hT.step i (by omega) hc
            have hH2 := step_high c i hc hH.out
            have HC : Hid (c (i + 128) = true) := hc
            rw [hc] at c0
            clear hc hT
            go_wp2
            exact ⟨⟨i, by omega, by go_num, _, hT2, (P_step c (i + 128) (by omega) (by omega)).trans hP.out, hH2⟩, by simp [intOf]; omega⟩
          · have hc' : c (i + 128) = false := by simpa using hc
            have hH2 := skip_high c i hc' hH.out
            rw [hc'] at c0
            clear hc hc'
            go_wp2
            exact ⟨⟨i, by omega, by go_num, c, hT, hP, hH2⟩, by simp [intOf]; omega⟩
    · have hlt : n < 128 := by omega
      have hltI : (n : Int) < 128 := by omega
      have hT' := hT
      obtain ⟨hg, hs, h1, h2, h3, h4, h5, h6, h7⟩ := hT'
      clear h7
      go_wp2_with fail
      refine (coef_any A n hlt _).mono ?_
      rintro e w1 ⟨rfl, hg1⟩
      have hT1 := hT.gr hg1
      clear hg hs h1 h2 h3 h4 h5 h6 hg1 hT
      by_cases hb : co A n = true
      · rw [hb, show bn true = 1 from rfl]
        have HB : Hid (co A n = true) := hb
        clear hb
        go_wp2_with fail
        go_loopw [7] (fun j wr => ∃ m : Nat, m ≤ 128 ∧ j = .int .i64 m ∧ ∃ c, Tab w A B c wr ∧ Hid (P c 255 = Z A B n ^^^ S (fun j => sel (co B j) (Xn (n + j) one)) m)) (fun j _ => 128 - (intOf j).toNat)
        case atStart => exact ⟨0, by omega, rfl, c, hT1, by show _ = _; rw [hP.out]; simp [S]⟩
        case round =>
          clear hT1 hP
          obtain ⟨m, hm, rfl, c, hT, hP⟩ := hrel
          by_cases m128 : m = 128
          · subst m128
            go_wp2
            go_roundw
            case rel =>
              first
                | exact ⟨n + 1, by omega, by go_num, c, hT, Z_succ_true hP.out HB.out⟩
                | ((repeat apply Exists.intro); exact ⟨⟨n + 1, by omega, by go_num, c, hT, Z_succ_true hP.out HB.out⟩, rfl⟩)
            case measure => simp [intOf]; omega
          · have mlt : m < 128 := by omega
            have mltI : (m : Int) < 128 := by omega
            have hT' := hT
            obtain ⟨hg, hs, h1, h2, h3, h4, h5, h6, h7⟩ := hT'
            have hc := h7 (n + m) (by omega)
            have hf := hg.new ⟨w.heap.size + 1 + 1 + 1, n + m, none⟩ (by simp; omega)
            clear h7 h1 h2 h5 h6
            have k0 : 0 ≤ (n : Int) + (m : Int) := by omega
            have k1 : (n : Int) + (m : Int) < 255 := by omega
            have k2 : IntKind.i64.wrap ((n : Int) + (m : Int)) = (n : Int) + (m : Int) := by rw [IntKind.wrap_i64]; omega
            have k3 : wrap64 ((n : Int) + (m : Int)) = (n : Int) + (m : Int) := by unfold wrap64; omega
            have k4 : ((n : Int) + (m : Int)).toNat = n + m := by omega
            go_wp2
            go_region_with (go_at_call 9; refine (coef_any B m mlt _).mono ?_; rintro e w2 ⟨rfl, hg2⟩; have hc2 := hg2.some (p := ⟨w.heap.size + 1 + 1 + 1, n + m, none⟩) hc; have hf2 := ((hg.drew).trans hg2).new ⟨w.heap.size + 1 + 1 + 1, n + m, none⟩ (by simp; omega))
            all_goals
              have hT2 := (hT.gr (((Gr.refl _).drew).trans hg2)).set (n + m) (by omega) (co B m) _ (xor_bn _ _)
              clear hT hg hs h3 h4 hc hf hg2 hc2 hf2 k0 k1 k2 k3 k4
              go_wp2
              go_roundw
              case rel =>
                first
                  | exact ⟨m + 1, by omega, by go_num, _, hT2, P_in hP.out (by omega)⟩
                  | ((repeat apply Exists.intro); exact ⟨⟨m + 1, by omega, by go_num, _, hT2, P_in hP.out (by omega)⟩, rfl⟩)
              case measure => simp [intOf]; omega
      · have hb' : co A n = false := by simpa using hb
        rw [hb', show bn false = 0 from rfl]
        have HB : Hid (co A n = false) := hb'
        clear hb hb'
        go_wp2
        go_roundw
        case rel =>
          first
            | exact ⟨n + 1, by omega, by go_num, c, hT1, Z_succ_false hP.out HB.out⟩
            | ((repeat apply Exists.intro); exact ⟨⟨n + 1, by omega, by go_num, c, hT1, Z_succ_false hP.out HB.out⟩, rfl⟩)
        case measure => simp [intOf]; omega
end Go.Proofs.Ybulkcuia
