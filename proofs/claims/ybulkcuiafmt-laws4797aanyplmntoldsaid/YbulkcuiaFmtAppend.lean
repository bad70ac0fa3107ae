/-
  THE WALKS OF AppendUint32 AND slices.Clone.
-/
import Derived.Test.YbulkcuiaFmtEq
namespace Go.Proofs.YbulkcuiaFmt
open Go.RowKit
theorem Ybaf.info5 : (Ybaf.prog.info? 5).map (fun i => (i.zero, i.size, i.bytes)) = some (some (.int .u8 0), 1, 1) := by kernel_rfl
/-- the octets of a uint32, the most significant first. -/
def be32 (t : Int) : List Int := [t / 16777216 % 256, t / 65536 % 256, t / 256 % 256, t % 256]
theorem Own.alloc {w : World} {B : Nat} {v : Value} {l : List Int} (h : Own w B v l) (o : Obj) : Own (w.alloc o) B v l := World.ownsRow.alloc h o
theorem Own.drew {w : World} {B : Nat} {v : Value} {l : List Int} (h : Own w B v l) : Own w.drew B v l := h
/-- the cells of a block that has just been laid. -/
theorem new_cells (w : World) (cs : List Value) (n : Nat) (hn : n = w.heap.size) : ∀ j u, cs[j]? = some u → (w.alloc (.cells cs.toArray 5)).cell? ((⟨n, 0, none⟩ : Addr).add j) = some u := by
  intro j u hj
  subst hn
  have ha : (⟨w.heap.size, 0, none⟩ : Addr).add j = ⟨w.heap.size, j, none⟩ := by unfold Addr.add; split <;> simp_all
  rw [ha]
  show (match (w.heap.push (.cells cs.toArray 5))[w.heap.size]? with | some (.cells c _ _) => _ | _ => _) = _
  rw [Array.getElem?_push_size]
  simpa using hj
set_option maxHeartbeats 400000 in
/-- bigEndian.AppendUint32 -/
theorem au32 (B : Nat) (v : Value) (l : List Int) (t : Int) (w : World) (hown : Own w B v l) (hB : B ≤ w.heap.size) (hl : l.length ≤ 500000) :
    Calls Ybaf.prog 20 #[.agg #[], v, .int .u32 t] w fun e w' => ∃ v', e = .returned v' ∧ App B w w' v v' l (be32 t) := by
  obtain ⟨i0, hi, hz0, hz1, hz2⟩ := info_parts Ybaf.info5
  go_enter Ybaf.func20, Ybaf.ntmps20
  go_wp2_with (at_builtin; refine wpList_append_app rfl (.tmp 7) (.tmp 19) 22 rfl B i0 (.int .u8 0) Ybaf.underlying22 hi hz0 hz1 hz2 rfl v l rfl ((hown.alloc _).alloc _) _ 4 4 (be32 t) rfl rfl ?hm ?hlen ?hB ?_)
  case hm => exact new_cells (w.alloc (.cells #[] 78)) ((be32 t).map (Value.int .u8)) _ (by simp)
  case hlen => simp [be32]; omega
  case hB => simp; omega
  · intro v' w' happ
    go_wp2
    go_ret
    exact ⟨v', rfl, App.ahead (grownBy_trans (World.grownBy_alloc w _ none) (World.grownBy_alloc _ _ none) (Or.inl rfl)) happ⟩
set_option maxHeartbeats 400000 in
theorem clone_nil (n c : Nat) (w : World) : Calls Ybaf.prog 7 #[.slice none n c] w fun e w' => e = .returned (.slice none 0 0) ∧ w' = w := by
  have he := fun w : World => Lib.run_eql_slice_nil (P := Ybaf.prog) w 22 5 none n c 0 0 Ybaf.underlying22
  go_enter Ybaf.func7, Ybaf.ntmps7
  go_wp2
  go_ret
  exact ⟨rfl, rfl⟩
set_option maxHeartbeats 400000 in
theorem clone_some (a : Addr) (c : Nat) (l : List Int) (w : World) (hl : l.length ≤ 500000)
    (hc : ∀ j u, (l.map (Value.int .u8))[j]? = some u → w.cell? (a.add j) = some u) :
    Calls Ybaf.prog 7 #[.slice (some a) l.length c] w fun e w' => ∃ v', e = .returned v' ∧ Own w' w.heap.size v' l ∧ Below w.heap.size w w' := by
  have he := fun w : World => Lib.run_eql_slice_nil (P := Ybaf.prog) w 22 5 (some a) l.length c 0 0 Ybaf.underlying22
  obtain ⟨i0, hi, hz0, hz1, hz2⟩ := info_parts Ybaf.info5
  have ho : Own (w.alloc (.cells #[] 5)) w.heap.size (.slice (some ⟨w.heap.size, 0, none⟩) 0 0) [] := World.ownsRow_made w #[] 0 (Nat.le_refl _) (Nat.zero_le _) rfl
  have hc' : ∀ j u, (l.map (Value.int .u8))[j]? = some u → (w.alloc (.cells #[] 5)).cell? (a.add j) = some u := fun j u hj => by
    rw [World.cell?_alloc_lt _ _ _ (World.block_lt_of_cell? w _ (hc j u hj)), hc j u hj]
  generalize hn : l.length = n at hl he
  go_enter Ybaf.func7, Ybaf.ntmps7
  go_wp2_with (at_builtin; refine wpList_append_app rfl (.tmp 5) (.tmp 6) 22 rfl w.heap.size i0 (.int .u8 0) Ybaf.underlying22 hi hz0 hz1 hz2 rfl _ [] rfl ho a n c l rfl hn hc' ?hlen ?hB ?_)
  case hlen => simp; omega
  case hB => simp
  · intro v' w' happ
    go_wp2
    go_ret
    refine ⟨v', rfl, by simpa using happ.own, ?_⟩
    exact ((Below.refl _ _).alloc (Nat.le_refl _) _).grown happ.grown (by simp) (by intro k hk; simp [Value.ownBlock] at hk; omega)
/-- slices.Clone -/
theorem clone_any {v : Value} {l : List Int} (w : World) (h : Rd w v l) (hl : l.length ≤ 500000) :
    Calls Ybaf.prog 7 #[v] w fun e w' => ∃ v', e = .returned v' ∧ Own w' w.heap.size v' l ∧ Below w.heap.size w w' := by
  obtain ⟨a, cap, rfl, hr⟩ := h
  cases a with
  | none =>
    obtain rfl : l = [] := by
      by_cases e : l = []
      · exact e
      · obtain ⟨b, off, hh, _⟩ := hr e; cases hh
    refine (clone_nil _ cap w).mono fun e w' ⟨he, hw⟩ => ?_
    subst hw
    exact ⟨_, he, World.ownsRow_nil _ _ _ _, Below.refl _ _⟩
  | some a =>
    refine clone_some a cap l w hl fun j u hj => ?_
    rw [List.getElem?_map] at hj
    obtain ⟨x, hx, rfl⟩ := Option.map_eq_some_iff.1 hj
    have hjl := (List.getElem?_eq_some_iff.1 hx)
    obtain ⟨hjl, hxe⟩ := hjl
    obtain ⟨b, off, hh, hcc⟩ := hr (by intro e; subst e; simp at hjl)
    cases hh
    have ha : (⟨b, off, none⟩ : Addr).add j = ⟨b, off + j, none⟩ := by unfold Addr.add; split <;> simp_all
    rw [ha, hcc j hjl, hxe]
end Go.Proofs.YbulkcuiaFmt
