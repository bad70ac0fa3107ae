/-
  append ON A ROW OF BYTES OF THE CALL's OWN, WITH WHAT IT LEAVES SAID IN FULL: the new value owns the longer list; every other block is as it was; every shorter slice that owned its list owns it still (also one over the same array).
-/
import Derived.WalkKit
import Derived.Laws.AppendOwn
import Derived.Below
namespace Go.Proofs.YbulkcuiaFmt
open Go.RowKit
/-- the slice value v owns the bytes l. -/
def Own (w : World) (B : Nat) (v : Value) (l : List Int) : Prop := w.ownsRow B 5 1 v l.length (l.map (Value.int .u8))
/-- what an append of the bytes m to the slice v, which owns l, leaves. -/
structure App (B : Nat) (w w' : World) (v v' : Value) (l m : List Int) : Prop where
  own : Own w' B v' (l ++ m)
  grown : w.grownBy w' v.ownBlock
  place : v'.ownBlock = v.ownBlock ∨ ∀ k, v'.ownBlock = some k → w.heap.size ≤ k
  keep : ∀ u k, k.length ≤ l.length → Own w B u k → Own w' B u k

theorem grownBy_trans {w w1 w2 : World} {r r1 : Option Nat} (h : w.grownBy w1 r) (h1 : w1.grownBy w2 r1) (hr : r1 = r ∨ ∀ k, r1 = some k → w.heap.size ≤ k) : w.grownBy w2 r :=
  ⟨h1.os.trans h.os, h1.tape.trans h.tape, h1.output.trans h.output, Nat.le_trans h.size h1.size, fun k hk hne => by
    have e : some k ≠ r1 := by
      rcases hr with hr | hr
      · rw [hr]; exact hne
      · intro e; have := hr k e.symm; omega
    exact (h1.block k (Nat.lt_of_lt_of_le hk h.size) e).trans (h.block k hk hne)⟩
theorem grownBy_refl (w : World) (r : Option Nat) : w.grownBy w r := ⟨rfl, rfl, rfl, Nat.le_refl _, fun _ _ _ => rfl⟩
theorem App.trans {B : Nat} {w w1 w2 : World} {v v1 v2 : Value} {l m k : List Int} (h : App B w w1 v v1 l m) (h1 : App B w1 w2 v1 v2 (l ++ m) k) : App B w w2 v v2 l (m ++ k) where
  own := by have := h1.own; rwa [List.append_assoc] at this
  grown := grownBy_trans h.grown h1.grown h.place
  place := by
    rcases h1.place with e | e
    · rw [e]; exact h.place
    · exact Or.inr fun j hj => Nat.le_trans h.grown.size (e j hj)
  keep := fun u k hk ho => h1.keep u k (by rw [List.length_append]; omega) (h.keep u k hk ho)
/-- new blocks ahead of the append. -/
theorem App.ahead {B : Nat} {w w1 w2 : World} {v v1 : Value} {l m : List Int} (h0 : w.grownBy w1 none) (h : App B w1 w2 v v1 l m) : App B w w2 v v1 l m where
  own := h.own
  grown := ⟨h.grown.os.trans h0.os, h.grown.tape.trans h0.tape, h.grown.output.trans h0.output, Nat.le_trans h0.size h.grown.size, fun k hk hne => (h.grown.block k (Nat.lt_of_lt_of_le hk h0.size) hne).trans (h0.block k hk (by simp))⟩
  place := by
    rcases h.place with e | e
    · exact Or.inl e
    · exact Or.inr fun j hj => Nat.le_trans h0.size (e j hj)
  keep := fun u k hk ho => h.keep u k hk (ho.kept h0 (by cases u.ownBlock <;> simp))

theorem Own.length {w : World} {B : Nat} {v : Value} {l : List Int} (h : Own w B v l) : v = .slice none 0 0 ∧ l = [] ∨ ∃ g cap, v = .slice (some ⟨g, 0, none⟩) l.length cap := by
  rcases h.2 with ⟨hv, hn⟩ | ⟨g, cap, cur, hv, _⟩
  · exact Or.inl ⟨hv, List.eq_nil_of_length_eq_zero hn⟩
  · exact Or.inr ⟨g, cap, hv⟩

section
variable {P : Program}
set_option maxHeartbeats 400000 in
theorem run_append_app (B : Nat) (t ty : TypeId) (i : TypeInfo) (z : Value) (ht : P.underlying t = some (.slice 5)) (hi : P.info? 5 = some i) (hz : i.zero = some z)
    (hsize : i.size = 1) (hby : i.bytes = 1) (hzs : z.cells.size = 1) (w : World)
    (v : Value) (l : List Int) (hown : Own w B v l)
    (a : Addr) (c : Nat) (m : List Int) (hm : ∀ j u, (m.map (Value.int .u8))[j]? = some u → w.cell? (a.add j) = some u)
    (hlen : l.length + m.length ≤ 1000000) (hB : B ≤ w.heap.size) :
    ∃ v' w', (Builtin.append_ #[t, t] ty #[v, .slice (some a) m.length c]).run P w = .ok v' w' ∧ App B w w' v v' l m := by
  have h63 : l.length + m.length ≤ maxLen := by simp only [maxLen]; omega
  have h1 : ∀ u ∈ m.map (Value.int .u8), u.oneCell' = true := by
    intro u hu
    obtain ⟨x, _, rfl⟩ := List.mem_map.1 hu
    rfl
  have hl : (m.map (Value.int .u8)).length = m.length * i.size := by simp [hsize]
  have hl1 : (m.map (Value.int .u8)).length = m.length * 1 := by simp
  rcases hown.2 with ⟨rfl, hn⟩ | ⟨g, cap, cur, rfl, hbg, hg, hnc, hcm, hcs, htake⟩
  · obtain rfl : l = [] := List.eq_nil_of_length_eq_zero hn
    by_cases hm0 : m.length = 0
    · obtain rfl : m = [] := List.eq_nil_of_length_eq_zero hm0
      refine ⟨.slice none 0 0, w, ?_, World.ownsRow_nil w B 5 1, grownBy_refl _ _, Or.inl rfl, fun _ _ _ h => h⟩
      simp [Builtin.append_, run_underlying ht, sizeOf, typeInfo, hi, Builtin.lenOf, Builtin.firstCells, loadCells, loadCellsFrom]
    · have hr := run_append_nil (P := P) w t ty 5 i z ht hi hz a m.length c (m.map (Value.int .u8)) hl hm (by omega) (by simp at hlen; omega) (by rw [hby]; simp at hlen; omega)
      obtain ⟨v', w', hr', ho', hg', _⟩ := run_append_own (P := P) w B t ty 5 i z 1 1 ht hi hz hsize hby hzs (by decide) (.slice none 0 0) 0 [] (World.ownsRow_nil w B 5 1) a m.length c (m.map (Value.int .u8)) hl1 hm h1 (by simpa using h63) (by simp at hlen ⊢; omega) hB
      have e := hr'.symm.trans hr
      simp only [Result.ok.injEq] at e
      obtain ⟨rfl, rfl⟩ := e
      refine ⟨_, _, hr, ?_, hg', Or.inr ?_, ?_⟩
      · simpa [Own] using ho'
      · intro k hk; simp [Value.ownBlock] at hk; omega
      · intro u k _ ho
        exact ho.kept (row := none) ⟨rfl, rfl, rfl, by simp, fun j hj _ => Below.heap_alloc w.drew _ j hj⟩ (by cases u.ownBlock <;> simp)
  · by_cases hroom : l.length + m.length ≤ cap
    · have hfit : l.length * i.size + (m.map (Value.int .u8)).length ≤ cur.size := by rw [hcs, hsize]; simp; omega
      have hr := run_append_room (P := P) w t ty 5 i ht hi g l.length cap cur hg a m.length c (m.map (Value.int .u8)) hl hm h1 hroom hfit
      obtain ⟨v', w', hr', ho', hg', _⟩ := run_append_own (P := P) w B t ty 5 i z 1 1 ht hi hz hsize hby hzs (by decide) (.slice (some ⟨g, 0, none⟩) l.length cap) l.length (l.map (Value.int .u8)) hown a m.length c (m.map (Value.int .u8)) hl1 hm h1 h63 (by omega) hB
      have e := hr'.symm.trans hr
      simp only [Result.ok.injEq] at e
      obtain ⟨rfl, rfl⟩ := e
      refine ⟨_, _, hr, ?_, hg', Or.inl rfl, ?_⟩
      · simpa [Own] using ho'
      · intro u k hk ho
        by_cases hu : u.ownBlock = some g
        · refine ⟨ho.1, ?_⟩
          rcases ho.2 with hn | ⟨g', cap', cur', rfl, hb', hg'', hk', hm', hs', ht'⟩
          · exact Or.inl hn
          · have e : g' = g := by simpa [Value.ownBlock] using hu
            subst e
            have e2 := hg''.symm.trans hg
            simp only [Option.some.injEq, Obj.cells.injEq, and_true] at e2
            subst e2
            refine Or.inr ⟨g', cap', _, rfl, hb', setRow_heap w g' cur' _ 5 _ hg, hk', hm', ?_, ?_⟩
            · rw [← hs']
              simp only [List.size_toArray, List.length_append, List.length_take, List.length_drop, Array.length_toList]
              omega
            · rw [← ht']
              simp only [hsize, Nat.mul_one] at hfit ⊢
              rw [List.append_assoc, List.take_append_of_le_length (by simp; omega), List.take_take]
              congr 1
              omega
        · exact ho.kept hg' (Or.inr (by simpa [Value.ownBlock] using hu))
    · have holds : ∀ j u, (l.map (Value.int .u8))[j]? = some u → w.cell? ((⟨g, 0, none⟩ : Addr).add j) = some u := World.ownsRow.cells hown (g := g) rfl
      have hr := run_append_grow (P := P) w t ty 5 i z ht hi hz ⟨g, 0, none⟩ l.length cap (l.map (Value.int .u8)) (by simp [hsize]) holds a m.length c (m.map (Value.int .u8)) hl hm (by omega) (by omega) (growslice_fits (by omega) (by rw [hby]; omega))
      obtain ⟨v', w', hr', ho', hg', _⟩ := run_append_own (P := P) w B t ty 5 i z 1 1 ht hi hz hsize hby hzs (by decide) (.slice (some ⟨g, 0, none⟩) l.length cap) l.length (l.map (Value.int .u8)) hown a m.length c (m.map (Value.int .u8)) hl1 hm h1 h63 (by omega) hB
      have e := hr'.symm.trans hr
      simp only [Result.ok.injEq] at e
      obtain ⟨rfl, rfl⟩ := e
      refine ⟨_, _, hr, ?_, hg', Or.inr ?_, ?_⟩
      · simpa [Own] using ho'
      · intro k hk; simp [Value.ownBlock] at hk; omega
      · intro u k _ ho
        exact ho.kept (row := none) ⟨rfl, rfl, rfl, by simp, fun j hj _ => Below.heap_alloc w.drew _ j hj⟩ (by cases u.ownBlock <;> simp)
/-- in a walk. -/
theorem wpList_append_app {ops : Array Oper} {rest : List Oper} {o : Oper} {ac : Act} {Q : Exit → Act → World → Prop} {w : World} (hgd : o.guard = none) (s x : Operand) (t : TypeId)
    (ho : o.op = .call { callee := .builtin .append, args := #[s, x], argTypes := #[t, t] })
    (B : Nat) (i : TypeInfo) (z : Value) (ht : P.underlying t = some (.slice 5)) (hi : P.info? 5 = some i) (hz : i.zero = some z)
    (hsize : i.size = 1) (hby : i.bytes = 1) (hzs : z.cells.size = 1)
    (v : Value) (l : List Int) (hs : ac.eval s = v) (hown : Own w B v l)
    (a : Addr) (n c : Nat) (m : List Int) (hx : ac.eval x = .slice (some a) n c) (hn : m.length = n) (hm : ∀ j u, (m.map (Value.int .u8))[j]? = some u → w.cell? (a.add j) = some u)
    (hlen : l.length + m.length ≤ 1000000) (hB : B ≤ w.heap.size)
    (h : ∀ v' w', App B w w' v v' l m → wpList P ops Q rest (ac.put o.dst v') w') : wpList P ops Q (o :: rest) ac w := by
  subst hn
  refine wpList_plain hgd fun _ hK => ?_
  obtain ⟨v', w', hr, happ⟩ := run_append_app (P := P) B t o.type i z ht hi hz hsize hby hzs w v l hown a c m hm hlen hB
  unfold Oper.wp execOp
  simp only [ho, resolve, invoke, builtin, Sem.run_bind, Sem.run_pure, Result.andThen_ok, List.map_toArray, List.map_cons, List.map_nil, hs, hx, hr]
  exact hK _ _ (h v' w' happ)
/-- in a region that draws its order. -/
theorem step_append_app {ops : Array Oper} {o : Oper} {ac : Act} {w : World} {K : Act → World → Prop} {Q : Exit → Act → World → Prop} {E : Prop} (hgd : o.guard = none) (s x : Operand) (t : TypeId)
    (ho : o.op = .call { callee := .builtin .append, args := #[s, x], argTypes := #[t, t] })
    (B : Nat) (i : TypeInfo) (z : Value) (ht : P.underlying t = some (.slice 5)) (hi : P.info? 5 = some i) (hz : i.zero = some z)
    (hsize : i.size = 1) (hby : i.bytes = 1) (hzs : z.cells.size = 1)
    (v : Value) (l : List Int) (hs : ac.eval s = v) (hown : Own w B v l)
    (a : Addr) (n c : Nat) (m : List Int) (hx : ac.eval x = .slice (some a) n c) (hn : m.length = n) (hm : ∀ j u, (m.map (Value.int .u8))[j]? = some u → w.cell? (a.add j) = some u)
    (hlen : l.length + m.length ≤ 1000000) (hB : B ≤ w.heap.size)
    (h : ∀ v' w', App B w w' v v' l m → K (ac.put o.dst v') w') : if Region.wanted o (yielded ops ac.tmps) = true then Oper.wp P o ac w K Q else E := by
  subst hn
  have hw : Region.wanted o (yielded ops ac.tmps) = true := by simp [Region.wanted, hgd]
  rw [if_pos hw]
  obtain ⟨v', w', hr, happ⟩ := run_append_app (P := P) B t o.type i z ht hi hz hsize hby hzs w v l hown a c m hm hlen hB
  unfold Oper.wp execOp
  simp only [ho, resolve, invoke, builtin, Sem.run_bind, Sem.run_pure, Result.andThen_ok, List.map_toArray, List.map_cons, List.map_nil, hs, hx, hr]
  exact h v' w' happ
end
end Go.Proofs.YbulkcuiaFmt
