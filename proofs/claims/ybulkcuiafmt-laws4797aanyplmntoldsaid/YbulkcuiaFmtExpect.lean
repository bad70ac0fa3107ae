/-
  THE WALK OF zzs4797aexpect: the octets that are to be written.
-/
import Derived.Test.YbulkcuiaFmtAppend
namespace Go.Proofs.YbulkcuiaFmt
open Go.RowKit
theorem App.below {B : Nat} {W w w' : World} {v v' : Value} {l m : List Int} (h : App B w w' v v' l m) (ho : Own w B v l) (hb : Below B W w) (hB : B ≤ w.heap.size) : Below B W w' :=
  hb.grown h.grown hB (fun k hk => (World.ownsRow.lt ho k hk).1)
/-- the octets behind the slice's own. -/
def tail23 (tvp : Int) (ns ps ts : List Int) (spi ct code : Int) : List Int := be32 tvp ++ ns ++ ps ++ ts ++ be32 spi ++ [ct, code]
theorem one_cell (w : World) (x : Int) (n : Nat) (hn : n = w.heap.size) : ∀ j u, (List.map (Value.int .u8) [x])[j]? = some u → (w.alloc (.cells #[.int .u8 x] 5)).cell? ((⟨n, 0, none⟩ : Addr).add j) = some u :=
  new_cells w [.int .u8 x] n hn
theorem take_snoc (l : List Int) (k : Nat) (h : k < l.length) : l.take k ++ [l[k]] = l.take (k + 1) := by
  rw [List.take_succ_eq_append_getElem h]

/-- what the boxes of the parameters hold; what was there before the call is as it was. -/
def Boxes (w : World) (ns ps ts : List Int) (wr : World) : Prop :=
  Below w.heap.size w wr ∧ w.heap.size + 3 ≤ wr.heap.size ∧ (∀ (k : Nat) (h : k < ns.length), wr.cell? ⟨w.heap.size, k, none⟩ = some (.int .u8 ns[k]))
  ∧ (∀ (k : Nat) (h : k < ps.length), wr.cell? ⟨w.heap.size + 1, k, none⟩ = some (.int .u8 ps[k])) ∧ (∀ (k : Nat) (h : k < ts.length), wr.cell? ⟨w.heap.size + 1 + 1, k, none⟩ = some (.int .u8 ts[k]))
theorem Boxes.grown {w wr w' : World} {ns ps ts : List Int} {r : Option Nat} (h : Boxes w ns ps ts wr) (g : wr.grownBy w' r) (hr : ∀ k, r = some k → w.heap.size + 3 ≤ k) : Boxes w ns ps ts w' := by
  obtain ⟨hb, hs, h1, h2, h3⟩ := h
  have e : ∀ b o, b < w.heap.size + 3 → w'.cell? ⟨b, o, none⟩ = wr.cell? ⟨b, o, none⟩ := fun b o hbb =>
    World.cell?_of_block (g.block b (by omega) (fun e => by have := hr b e.symm; omega))
  exact ⟨hb.grown g hb.size (fun k hk => by have := hr k hk; omega), Nat.le_trans hs g.size, fun k hk => (e _ _ (by omega)).trans (h1 k hk), fun k hk => (e _ _ (by omega)).trans (h2 k hk), fun k hk => (e _ _ (by omega)).trans (h3 k hk)⟩
theorem Boxes.app {w wr w' : World} {ns ps ts l m : List Int} {v v' : Value} (h : Boxes w ns ps ts wr) (ho : Own wr (w.heap.size + 3) v l) (ha : App (w.heap.size + 3) wr w' v v' l m) : Boxes w ns ps ts w' :=
  h.grown ha.grown (fun k hk => (World.ownsRow.lt ho k hk).1)
theorem App.box {B : Nat} {w w' : World} {v v' : Value} {l m : List Int} {o : Obj} (h : App B (w.alloc o) w' v v' l m) : App B w w' v v' l m := App.ahead (World.grownBy_alloc w o none) h
theorem boxes0 (a0 a1 a2 a3 a4 a5 p0 p1 p2 p3 t0 t1 t2 : Int) (w : World) : Boxes w [a0, a1, a2, a3, a4, a5] [p0, p1, p2, p3] [t0, t1, t2]
    (((w.alloc (.cells #[.int .u8 a0, .int .u8 a1, .int .u8 a2, .int .u8 a3, .int .u8 a4, .int .u8 a5] 24)).alloc (.cells #[.int .u8 p0, .int .u8 p1, .int .u8 p2, .int .u8 p3] 25)).alloc (.cells #[.int .u8 t0, .int .u8 t1, .int .u8 t2] 26)) := by
  refine ⟨(((Below.refl _ _).alloc (Nat.le_refl _) _).alloc (by simp) _).alloc (by simp; omega) _, by simp, ?_, ?_, ?_⟩
  · intro k hk
    match k, hk with
    | 0, _ => go_simp
    | 1, _ => go_simp
    | 2, _ => go_simp
    | 3, _ => go_simp
    | 4, _ => go_simp
    | 5, _ => go_simp
  · intro k hk
    match k, hk with
    | 0, _ => go_simp
    | 1, _ => go_simp
    | 2, _ => go_simp
    | 3, _ => go_simp
  · intro k hk
    match k, hk with
    | 0, _ => go_simp
    | 1, _ => go_simp
    | 2, _ => go_simp

set_option maxHeartbeats 2000000 in
theorem expect_any (a : Option Addr) (cap : Nat) (l : List Int) (tvp a0 a1 a2 a3 a4 a5 p0 p1 p2 p3 t0 t1 t2 spi ct code : Int) (w : World) (hl : l.length ≤ 2000)
    (hr : l ≠ [] → ∃ b off, a = some ⟨b, off, none⟩ ∧ ∀ (j : Nat) (h : j < l.length), w.cell? ⟨b, off + j, none⟩ = some (.int .u8 l[j])) :
    Calls Ybaf.prog 10 #[.slice a l.length cap, .int .u32 tvp, .agg #[.int .u8 a0, .int .u8 a1, .int .u8 a2, .int .u8 a3, .int .u8 a4, .int .u8 a5], .agg #[.int .u8 p0, .int .u8 p1, .int .u8 p2, .int .u8 p3], .agg #[.int .u8 t0, .int .u8 t1, .int .u8 t2], .int .u32 spi, .int .u8 ct, .int .u8 code] w
      fun e w' => ∃ v', e = .returned v' ∧ Own w' (w.heap.size + 3) v' (l ++ be32 tvp ++ [a0, a1, a2, a3, a4, a5] ++ [p0, p1, p2, p3] ++ [t0, t1, t2] ++ be32 spi ++ [ct, code]) ∧ Below w.heap.size w w' := by
  obtain ⟨i0, hi, hz0, hz1, hz2⟩ := info_parts Ybaf.info5
  have hB0 := boxes0 a0 a1 a2 a3 a4 a5 p0 p1 p2 p3 t0 t1 t2 w
  generalize hn : l.length = n at hl
  go_enter Ybaf.func10, Ybaf.ntmps10
  go_wp2_with (at_make; refine wpList_make_own _ rfl _ _ 22 rfl (w.heap.size + 3) 5 i0 (.int .u8 0) 1 Ybaf.underlying22 hi hz0 hz1 _ _ _ (n + 23) rfl rfl (by omega) ?b2 ?b3 ?b4 ?_)
  case b2 => rw [hz2]; omega
  case b3 => unfold maxLen; omega
  case b4 => simp
  intro w0 hown0 hgrow0
  have hB1 := hB0.grown hgrow0 (fun k hk => by cases hk)
  clear hB0 hgrow0
  go_wp2
  go_loopw [17, 18] (fun o i wr => ∃ k : Nat, k ≤ n ∧ i = .int .i64 k ∧ Own wr (w.heap.size + 3) o (l.take k) ∧ Boxes w [a0, a1, a2, a3, a4, a5] [p0, p1, p2, p3] [t0, t1, t2] wr) (fun _ i _ => n - (intOf i).toNat)
  case atStart => exact ⟨0, Nat.zero_le _, rfl, hown0, hB1⟩
  case round =>
    clear hown0 hB1
    obtain ⟨k, hk, rfl, hO, hX⟩ := hrel
    by_cases hlt : k < n
    · obtain ⟨b, off, rfl, hc⟩ := hr (by intro e; subst e; simp at hn; omega)
      have hltI : (k : Int) < (n : Int) := by omega
      have hck := hc k (by omega)
      have hcw := (hX.1.cell (World.block_lt_of_cell? w _ hck)).trans hck
      obtain ⟨x, hx⟩ : ∃ x, l[k]'(by omega) = x := ⟨_, rfl⟩
      rw [hx] at hcw
      have hlen : (l.take k).length = k := by simp; omega
      clear hck hc
      obtain ⟨L, hL⟩ : ∃ L, Hid (L = l.take k) := ⟨_, rfl⟩
      rw [← hL.out] at hO hlen
      go_wp2_with (at_builtin; refine wpList_append_app rfl (.tmp 31) (.tmp 36) 22 rfl (w.heap.size + 3) i0 (.int .u8 0) Ybaf.underlying22 hi hz0 hz1 hz2 rfl _ (L) rfl (hO.alloc _) _ 1 1 [x] rfl rfl (one_cell wr x _ rfl) ?hlen ?hB ?_)
      case hlen => rw [hlen]; simp; omega
      case hB => have := hX.2.1; simp; omega
      · intro v' w' happ
        have happ := happ.box
        have hX' := hX.app hO happ
        have hO' := happ.own
        rw [hL.out, ← hx, take_snoc l k (by omega)] at hO'
        clear hX hO happ hcw hx hlen hL
        go_wp2
        exact ⟨⟨k + 1, by omega, by go_num, hO', hX'⟩, by simp [intOf]; omega⟩
    · have hge : ¬ (k : Int) < (n : Int) := by omega
      rw [List.take_of_length_le (by omega)] at hO
      clear hr
      go_wp2_with (at_builtin; refine wpList_append_app rfl (.tmp 38) (.tmp 50) 22 rfl (w.heap.size + 3) i0 (.int .u8 0) Ybaf.underlying22 hi hz0 hz1 hz2 rfl _ (l) rfl (hO.alloc _) _ 4 4 (be32 tvp) rfl rfl (new_cells wr ((be32 tvp).map (Value.int .u8)) _ rfl) ?hlen ?hB ?_)
      case hlen => simp [be32]; omega
      case hB => have := hX.2.1; simp; omega
      intro v1 w1 happ
      have happ := happ.box
      have hX1 := hX.app hO happ
      have hO1 := happ.own
      clear hX hO happ
      go_wp2
      go_loopw [17, 19] (fun o i wr => ∃ k : Nat, k ≤ 6 ∧ i = .int .i64 k ∧ Own wr (w.heap.size + 3) o (l ++ be32 tvp ++ [a0, a1, a2, a3, a4, a5].take k) ∧ Boxes w [a0, a1, a2, a3, a4, a5] [p0, p1, p2, p3] [t0, t1, t2] wr) (fun _ i _ => 6 - (intOf i).toNat)
      case atStart => exact ⟨0, Nat.zero_le _, rfl, by simpa using hO1, hX1⟩
      case round =>
        clear hO1 hX1
        obtain ⟨k, hk, rfl, hO, hX⟩ := hrel
        by_cases hlt : k < 6
        · have hltI : (k : Int) < 6 := by omega
          have hcw := hX.2.2.1 k (by simpa using hlt)
          obtain ⟨x, hx⟩ : ∃ x, [a0, a1, a2, a3, a4, a5][k]'(by simpa using hlt) = x := ⟨_, rfl⟩
          rw [hx] at hcw
          have hlen : (l ++ be32 tvp ++ [a0, a1, a2, a3, a4, a5].take k).length ≤ n + 4 + 6 := by simp [be32]; omega
          obtain ⟨L, hL⟩ : ∃ L, Hid (L = l ++ be32 tvp ++ [a0, a1, a2, a3, a4, a5].take k) := ⟨_, rfl⟩
          rw [← hL.out] at hO hlen
          go_wp2_with (at_builtin; refine wpList_append_app rfl (.tmp 56) (.tmp 60) 22 rfl (w.heap.size + 3) i0 (.int .u8 0) Ybaf.underlying22 hi hz0 hz1 hz2 rfl _ (L) rfl (hO.alloc _) _ 1 1 [x] rfl rfl (one_cell wr x _ rfl) ?hlen ?hB ?_)
          case hlen => have h1 : [x].length = 1 := rfl; omega
          case hB => have := hX.2.1; simp; omega
          · intro v' w' happ
            have happ := happ.box
            have hX' := hX.app hO happ
            have hO' := happ.own
            rw [hL.out, List.append_assoc, ← hx, take_snoc _ k (by simpa using hlt)] at hO'
            clear hX hO happ hcw hx hlen hL
            go_wp2
            exact ⟨⟨k + 1, by omega, by go_num, hO', hX'⟩, by simp [intOf]; omega⟩
        · have hge : ¬ (k : Int) < 6 := by omega
          rw [List.take_of_length_le (by simp; omega)] at hO
          go_wp2
          go_loopw [17, 20] (fun o i wr => ∃ k : Nat, k ≤ 4 ∧ i = .int .i64 k ∧ Own wr (w.heap.size + 3) o (l ++ be32 tvp ++ [a0, a1, a2, a3, a4, a5] ++ [p0, p1, p2, p3].take k) ∧ Boxes w [a0, a1, a2, a3, a4, a5] [p0, p1, p2, p3] [t0, t1, t2] wr) (fun _ i _ => 4 - (intOf i).toNat)
          case atStart => exact ⟨0, Nat.zero_le _, rfl, by simpa using hO, hX⟩
          case round =>
            clear hO hX
            obtain ⟨k, hk, rfl, hO, hX⟩ := hrel
            by_cases hlt : k < 4
            · have hltI : (k : Int) < 4 := by omega
              have hcw := hX.2.2.2.1 k (by simpa using hlt)
              obtain ⟨x, hx⟩ : ∃ x, [p0, p1, p2, p3][k]'(by simpa using hlt) = x := ⟨_, rfl⟩
              rw [hx] at hcw
              have hlen : (l ++ be32 tvp ++ [a0, a1, a2, a3, a4, a5] ++ [p0, p1, p2, p3].take k).length ≤ n + 4 + 6 + 4 := by simp [be32]; omega
              obtain ⟨L, hL⟩ : ∃ L, Hid (L = l ++ be32 tvp ++ [a0, a1, a2, a3, a4, a5] ++ [p0, p1, p2, p3].take k) := ⟨_, rfl⟩
              rw [← hL.out] at hO hlen
              go_wp2_with (at_builtin; refine wpList_append_app rfl (.tmp 66) (.tmp 70) 22 rfl (w.heap.size + 3) i0 (.int .u8 0) Ybaf.underlying22 hi hz0 hz1 hz2 rfl _ (L) rfl (hO.alloc _) _ 1 1 [x] rfl rfl (one_cell wr x _ rfl) ?hlen ?hB ?_)
              case hlen => have h1 : [x].length = 1 := rfl; omega
              case hB => have := hX.2.1; simp; omega
              · intro v' w' happ
                have happ := happ.box
                have hX' := hX.app hO happ
                have hO' := happ.own
                rw [hL.out, List.append_assoc, ← hx, take_snoc _ k (by simpa using hlt)] at hO'
                clear hX hO happ hcw hx hlen hL
                go_wp2
                exact ⟨⟨k + 1, by omega, by go_num, hO', hX'⟩, by simp [intOf]; omega⟩
            · have hge : ¬ (k : Int) < 4 := by omega
              rw [List.take_of_length_le (by simp; omega)] at hO
              have hlen : (l ++ be32 tvp ++ [a0, a1, a2, a3, a4, a5] ++ [p0, p1, p2, p3]).length ≤ n + 4 + 6 + 4 := by simp [be32]; omega
              have q0 := hX.2.2.2.2 0 (by simp)
              have q1 := hX.2.2.2.2 1 (by simp)
              have q2 := hX.2.2.2.2 2 (by simp)
              obtain ⟨L, hL⟩ : ∃ L, Hid (L = l ++ be32 tvp ++ [a0, a1, a2, a3, a4, a5] ++ [p0, p1, p2, p3]) := ⟨_, rfl⟩
              rw [← hL.out] at hO hlen
              go_wp2_with (at_builtin; refine wpList_append_app rfl (.tmp 72) (.tmp 79) 22 rfl (w.heap.size + 3) i0 (.int .u8 0) Ybaf.underlying22 hi hz0 hz1 hz2 rfl _ (L) rfl (hO.alloc _) _ 3 3 [t0, t1, t2] rfl rfl (new_cells wr ([t0, t1, t2].map (Value.int .u8)) _ rfl) ?hlen ?hB ?_)
              case hlen => have h1 : [t0, t1, t2].length = 3 := rfl; omega
              case hB => have := hX.2.1; simp; omega
              intro v2 w2 happ
              have happ := happ.box
              have hX2 := hX.app hO happ
              have hO2 := happ.own
              rw [hL.out] at hO2
              clear hX hO happ q0 q1 q2 hlen hL
              have hlen : (l ++ be32 tvp ++ [a0, a1, a2, a3, a4, a5] ++ [p0, p1, p2, p3] ++ [t0, t1, t2]).length ≤ n + 4 + 6 + 4 + 3 := by simp [be32]; omega
              have hO := hO2
              clear hO2
              obtain ⟨L, hL⟩ : ∃ L, Hid (L = l ++ be32 tvp ++ [a0, a1, a2, a3, a4, a5] ++ [p0, p1, p2, p3] ++ [t0, t1, t2]) := ⟨_, rfl⟩
              rw [← hL.out] at hO hlen
              go_wp2_with (at_builtin; refine wpList_append_app rfl (.tmp 81) (.tmp 93) 22 rfl (w.heap.size + 3) i0 (.int .u8 0) Ybaf.underlying22 hi hz0 hz1 hz2 rfl _ (L) rfl (hO.alloc _) _ 4 4 (be32 spi) rfl rfl (new_cells w2 ((be32 spi).map (Value.int .u8)) _ rfl) ?hlen ?hB ?_)
              case hlen => have h1 : (be32 spi).length = 4 := rfl; omega
              case hB => have := hX2.2.1; simp; omega
              intro v3 w3 happ
              have happ := happ.box
              have hX3 := hX2.app hO happ
              have hO3 := happ.own
              rw [hL.out] at hO3
              clear hX2 hO happ hlen hL
              have hlen : (l ++ be32 tvp ++ [a0, a1, a2, a3, a4, a5] ++ [p0, p1, p2, p3] ++ [t0, t1, t2] ++ be32 spi).length ≤ n + 4 + 6 + 4 + 3 + 4 := by simp [be32]; omega
              have hO := hO3
              clear hO3
              obtain ⟨L, hL⟩ : ∃ L, Hid (L = l ++ be32 tvp ++ [a0, a1, a2, a3, a4, a5] ++ [p0, p1, p2, p3] ++ [t0, t1, t2] ++ be32 spi) := ⟨_, rfl⟩
              rw [← hL.out] at hO hlen
              go_wp2_with (at_builtin; refine wpList_append_app rfl (.tmp 95) (.tmp 98) 22 rfl (w.heap.size + 3) i0 (.int .u8 0) Ybaf.underlying22 hi hz0 hz1 hz2 rfl _ (L) rfl (hO.alloc _) _ 2 2 [ct, code] rfl rfl (new_cells w3 (([ct, code]).map (Value.int .u8)) _ rfl) ?hlen ?hB ?_)
              case hlen => have h1 : [ct, code].length = 2 := rfl; omega
              case hB => have := hX3.2.1; simp; omega
              intro v4 w4 happ
              have happ := happ.box
              have hX4 := hX3.app hO happ
              have hO4 := happ.own
              rw [hL.out] at hO4
              clear hX3 hO happ hlen hL
              go_wp2
              go_ret
              exact ⟨v4, rfl, hO4, hX4.1⟩
end Go.Proofs.YbulkcuiaFmt
