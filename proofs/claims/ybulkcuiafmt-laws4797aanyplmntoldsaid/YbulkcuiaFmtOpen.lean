/-
  THE ARGUMENTS, OPENED: a slice of bytes as 'Rd', an array of bytes by value.
-/
import Derived.Test.YbulkcuiaFmtEq
import Derived.OpenShut
import Derived.ShutString
import Derived.ChangeOld
import Derived.Below
namespace Go.Proofs.YbulkcuiaFmt
open Go.ChangeShapes Go.WideShapes Go.ChangeAt Go.RowKit
theorem rd_of_row {W : World} {x : Addr} {len cap : Nat} {zs : List Int} (hl : len ≤ zs.length) (hcell : ∀ i, i < zs.length → W.cell? (x.add i) = some (.int .u8 (zs.getD i 0))) :
    Rd W (.slice (some x) len cap) (zs.take len) ∧ (zs.take len).length = len := by
  have hlen : (zs.take len).length = len := by simp; omega
  refine ⟨⟨some x, cap, by rw [hlen], fun hne => ?_⟩, hlen⟩
  have hpos : 0 < len := by
    rcases Nat.eq_zero_or_pos len with h | h
    · subst h; simp at hne
    · exact h
  obtain ⟨b, off, spot⟩ := x
  have hc := hcell 0 (by omega)
  have hspot : spot = none := by simpa [Addr.add] using World.cell?_spot hc
  subst hspot
  refine ⟨b, off, rfl, fun j hj => ?_⟩
  have hj' : j < zs.length := by omega
  have h := hcell j hj'
  have ha : (⟨b, off, none⟩ : Addr).add j = ⟨b, off + j, none⟩ := by unfold Addr.add; split <;> simp_all
  rw [ha] at h
  rw [h, List.getElem_take]
  simp [List.getD, hj']
section
variable {H : Type} {enc : TypeId × Value → H} {W : World} {base : Nat}
/-- a slice of bytes that came in. -/
theorem open_row {a : Option Addr} {len cap : Nat} {d : DataW H} {p : List MemPlace} (h : DataW.Trod enc Ybaf.prog W 0 (fun _ => true) true 22 (.slice a len cap) d p) :
    ∃ l : List Int, Rd W (.slice a len cap) l ∧ l.length = len ∧ len ≤ maxLen := by
  obtain ⟨fuel, hf⟩ := h
  rcases open_ints Ybaf.underlying22 Ybaf.underlying5 (by kernel_rfl) hf with ⟨hcs, _⟩ | ⟨x, l, c, zs, hcs, _, hl, hm, hz, _, hcell, hwz⟩
  · simp [Value.cells] at hcs
    obtain ⟨rfl, rfl, rfl⟩ := hcs
    exact ⟨[], ⟨none, 0, rfl, fun h => absurd rfl h⟩, rfl, Nat.zero_le _⟩
  · simp [Value.cells] at hcs
    obtain ⟨rfl, rfl, rfl⟩ := hcs
    have hz' : zs.length = cap := by simpa using hz
    obtain ⟨h1, h2⟩ := rd_of_row (W := W) (x := x) (len := len) (cap := cap) (zs := zs) (by omega) hcell
    exact ⟨_, h1, h2, by omega⟩
set_option maxRecDepth 100000 in
/-- an array of bytes by value. -/
theorem open_arr {t n : Nat} {v : Value} {d : DataW H} {p : List MemPlace} (ht : Ybaf.prog.underlying t = some (.array n 5)) (hct : Ybaf.prog.cellsOf t = n)
    (hv : Value.okWide Ybaf.prog W .any base t v) (h : DataW.Trod enc Ybaf.prog W 0 (fun _ => true) true t v d p) :
    ∃ xs : List Int, xs.length = n ∧ v = .agg (xs.map (Value.int .u8)).toArray ∧ ∀ x ∈ xs, 0 ≤ x ∧ x ≤ 255 := by
  have hc5 : Ybaf.prog.cellsOf 5 = 1 := by kernel_rfl
  obtain ⟨cs, rfl, hsz, _⟩ : ∃ cs, v = .agg cs ∧ cs.size = Ybaf.prog.cellsOf t ∧ Row.okWide Ybaf.prog W .any base t cs := by
    simpa [Value.okWide, ht] using hv
  rw [hct] at hsz
  obtain ⟨fuel, hf⟩ := h
  obtain ⟨ys, m, _, _, _, hyl, hy⟩ := DataW.trod_array ht hf
  have hcell : ∀ (i : Nat) (hi : i < cs.size), ∃ x, cs[i] = .int .u8 x ∧ (Lit.int .u8 x).wf = true := by
    intro i hi
    have h1 := hy i (by omega)
    rw [List.getElem?_eq_getElem (by omega)] at h1
    obtain ⟨x, e, _, hw⟩ := DataW.trod_int Ybaf.underlying5 h1
    refine ⟨x, ?_, hw⟩
    rw [hc5, Nat.mul_one] at e
    have e2 := congrArg (fun l => l[0]?) e
    simpa [List.getElem?_take, List.getElem?_drop, Value.cells, hi] using e2
  refine ⟨cs.toList.map intOf, by simp [hsz], ?_, ?_⟩
  · congr 1
    apply Array.ext
    · simp
    · intro i h1 h2
      obtain ⟨x, e, _⟩ := hcell i h1
      simp [e, intOf]
  · intro x hx
    obtain ⟨u, hu, rfl⟩ := List.mem_map.1 hx
    obtain ⟨i, hi, rfl⟩ := List.getElem_of_mem hu
    obtain ⟨x, e, hw⟩ := hcell i (by simpa using hi)
    have hb := bounds_u8 hw
    simp [e, intOf]
    omega
end
theorem list3 {l : List Int} (h : l.length = 3) : ∃ a b c, l = [a, b, c] := by
  match l, h with
  | [a, b, c], _ => exact ⟨a, b, c, rfl⟩
theorem list4 {l : List Int} (h : l.length = 4) : ∃ a b c d, l = [a, b, c, d] := by
  match l, h with
  | [a, b, c, d], _ => exact ⟨a, b, c, d, rfl⟩
theorem list6 {l : List Int} (h : l.length = 6) : ∃ a b c d e f, l = [a, b, c, d, e, f] := by
  match l, h with
  | [a, b, c, d, e, f], _ => exact ⟨a, b, c, d, e, f, rfl⟩
end Go.Proofs.YbulkcuiaFmt
