/-
  THE WALK OF zzs4797aeq: two slices that read as the same bytes are found equal.
-/
import Derived.Test.YbulkcuiaFmtCards
import Derived.Test.YbulkcuiaFmtApp
import Derived.WalkSpells
import Derived.WalkLawsBesides
import Derived.ProofKit
import Derived.Outline
import Derived.Deep.QuietTactic
import Derived.BigQuiet
namespace Go.Proofs.YbulkcuiaFmt
open Go.RowKit
/-- the slice value v reads as the bytes l. -/
def Rd (w : World) (v : Value) (l : List Int) : Prop :=
  ∃ a cap, v = .slice a l.length cap ∧ (l ≠ [] → ∃ b off, a = some ⟨b, off, none⟩ ∧ ∀ (j : Nat) (h : j < l.length), w.cell? ⟨b, off + j, none⟩ = some (.int .u8 l[j]))
theorem Own.rd {w : World} {B : Nat} {v : Value} {l : List Int} (h : Own w B v l) : Rd w v l := by
  rcases h.length with ⟨rfl, rfl⟩ | ⟨g, cap, rfl⟩
  · exact ⟨none, 0, rfl, fun h => absurd rfl h⟩
  · refine ⟨_, cap, rfl, fun _ => ⟨g, 0, rfl, fun j hj => ?_⟩⟩
    have e := World.ownsRow.cells h (g := g) rfl j (.int .u8 l[j]) (by simp [hj])
    have ha : (⟨g, 0, none⟩ : Addr).add j = ⟨g, 0 + j, none⟩ := by unfold Addr.add; split <;> simp_all
    rw [ha] at e
    exact e
theorem Rd.of_cells {w w' : World} {v : Value} {l : List Int} (h : Rd w v l) (hc : ∀ b o x, w.cell? ⟨b, o, none⟩ = some x → v.ownBlock = some b → w'.cell? ⟨b, o, none⟩ = some x) : Rd w' v l := by
  obtain ⟨a, cap, rfl, hr⟩ := h
  refine ⟨a, cap, rfl, fun hne => ?_⟩
  obtain ⟨b, off, rfl, hc'⟩ := hr hne
  exact ⟨b, off, rfl, fun j hj => hc _ _ _ (hc' j hj) rfl⟩

set_option maxHeartbeats 400000 in
theorem eq_empty (a1 a2 : Option Addr) (c1 c2 : Nat) (w : World) :
    Calls Ybaf.prog 9 #[.slice a1 0 c1, .slice a2 0 c2] w fun e w' => e = .returned (.bool true) ∧ ∃ d, w' = w.drewN d := by
  go_enter Ybaf.func9, Ybaf.ntmps9
  go_wp2
  go_loop [5] (fun i => i = .int .i64 0) (fun _ => 0)
  case atStart => rfl
  case round =>
    subst hrel
    go_wp2
    go_ret
    exact ⟨rfl, 0, rfl⟩
set_option maxHeartbeats 1000000 in
theorem eq_some (b1 o1 c1 b2 o2 c2 : Nat) (l : List Int) (hl : l.length ≤ 1000000) (w : World)
    (h1 : ∀ (j : Nat) (h : j < l.length), w.cell? ⟨b1, o1 + j, none⟩ = some (.int .u8 l[j])) (h2 : ∀ (j : Nat) (h : j < l.length), w.cell? ⟨b2, o2 + j, none⟩ = some (.int .u8 l[j])) :
    Calls Ybaf.prog 9 #[.slice (some ⟨b1, o1, none⟩) l.length c1, .slice (some ⟨b2, o2, none⟩) l.length c2] w fun e w' => e = .returned (.bool true) ∧ ∃ d, w' = w.drewN d := by
  generalize hL : l.length = n at hl
  go_enter Ybaf.func9, Ybaf.ntmps9
  go_wp2
  go_loopw [5] (fun i wr => ∃ k d : Nat, k ≤ n ∧ i = .int .i64 k ∧ wr = w.drewN d) (fun i _ => n - (intOf i).toNat)
  case atStart => exact ⟨0, 0, Nat.zero_le _, rfl, rfl⟩
  case round =>
    obtain ⟨k, d, hk, rfl, rfl⟩ := hrel
    by_cases hlt : k < n
    · obtain ⟨x, hx1, hx2⟩ : ∃ x, w.cell? ⟨b1, o1 + k, none⟩ = some (.int .u8 x) ∧ w.cell? ⟨b2, o2 + k, none⟩ = some (.int .u8 x) := ⟨_, h1 k (by omega), h2 k (by omega)⟩
      clear h1 h2
      have hltI : (k : Int) < (n : Int) := by omega
      go_wp2
      go_quiet (fail)
      go_wp2
      exact ⟨⟨k + 1, _, by omega, by go_num, rfl⟩, by simp [intOf]; omega⟩
    · have hge : ¬ (k : Int) < (n : Int) := by omega
      clear h1 h2
      go_wp2
      go_ret
      exact ⟨rfl, d, rfl⟩
theorem eq_any {v1 v2 : Value} {l : List Int} (w : World) (h1 : Rd w v1 l) (h2 : Rd w v2 l) (hl : l.length ≤ 1000000) :
    Calls Ybaf.prog 9 #[v1, v2] w fun e w' => e = .returned (.bool true) ∧ ∃ d, w' = w.drewN d := by
  obtain ⟨a1, c1, rfl, k1⟩ := h1
  obtain ⟨a2, c2, rfl, k2⟩ := h2
  by_cases hne : l = []
  · subst hne; exact eq_empty a1 a2 c1 c2 w
  · obtain ⟨b1, o1, rfl, q1⟩ := k1 hne
    obtain ⟨b2, o2, rfl, q2⟩ := k2 hne
    exact eq_some b1 o1 c1 b2 o2 c2 l hl w q1 q2
end Go.Proofs.YbulkcuiaFmt
