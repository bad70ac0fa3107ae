/-
  THE WALKS OF digits AND zzs4797adigits: does the string hold decimal digits alone?
-/
import Derived.Test.YbulkcuiaFmtCards
import Derived.WalkKit
import Derived.WalkSpells
import Derived.WalkLawsBesides
import Derived.ProofKit
import Derived.Outline
namespace Go.Proofs.YbulkcuiaFmt
open Go.RowKit
/-- a byte that is a decimal digit. -/
def isD (c : UInt8) : Bool := decide (48 ≤ (c.toNat : Int)) && decide ((c.toNat : Int) ≤ 57)
/-- the string holds decimal digits alone. -/
def dg (s : ByteArray) : Bool := s.data.toList.all isD
theorem dg_at {s : ByteArray} (h : dg s = true) (k : Nat) (hk : k < s.size) : 48 ≤ (s[k].toNat : Int) ∧ (s[k].toNat : Int) ≤ 57 := by
  have e := List.all_eq_true.1 h s[k] (by simp [ByteArray.getElem_eq_getElem_data])
  simpa [isD] using e
theorem dg_false {s : ByteArray} (k : Nat) (hk : k < s.size) (h : ¬ (48 ≤ (s[k].toNat : Int) ∧ (s[k].toNat : Int) ≤ 57)) : dg s = false := by
  cases e : dg s with
  | false => rfl
  | true => exact absurd (dg_at e k hk) h
theorem dg_true {s : ByteArray} (h : ∀ (k : Nat) (hk : k < s.size), 48 ≤ (s[k].toNat : Int) ∧ (s[k].toNat : Int) ≤ 57) : dg s = true := by
  refine List.all_eq_true.2 fun c hc => ?_
  obtain ⟨k, hk, rfl⟩ := List.getElem_of_mem hc
  have := h k (by simpa using hk)
  simpa [isD, ByteArray.getElem_eq_getElem_data] using this
theorem ret_bool {a b : Bool} (h : a = b) : Ending.returned (.bool a) = .returned (.bool b) := by rw [h]
set_option maxHeartbeats 400000 in
theorem digits_any (s : ByteArray) (w : World) (hs : s.size ≤ maxLen) :
    Calls Ybaf.prog 37 #[.string s] w fun e w' => e = .returned (.bool (dg s)) ∧ w' = w := by
  unfold maxLen at hs
  go_enter Ybaf.func37, Ybaf.ntmps37
  go_wp2
  go_loop [3] (fun i => ∃ k : Nat, k ≤ s.size ∧ i = .int .i64 k ∧ Hid (∀ (j : Nat) (hj : j < s.size), j < k → 48 ≤ (s[j].toNat : Int) ∧ (s[j].toNat : Int) ≤ 57)) (fun i => s.size - (intOf i).toNat)
  case atStart => exact ⟨0, Nat.zero_le _, rfl, fun j hj h => by omega⟩
  case round =>
    obtain ⟨k, hk, rfl, hd⟩ := hrel
    by_cases hlt : k < s.size
    · by_cases hc1 : 48 ≤ (s[k].toNat : Int)
      · by_cases hc2 : (s[k].toNat : Int) ≤ 57
        · go_wp2
          go_round
          case rel =>
            refine ⟨k + 1, by omega, by go_num, fun j hj h => ?_⟩
            by_cases e : j = k
            · subst e; exact ⟨hc1, hc2⟩
            · exact hd.out j hj (by omega)
          case measure => simp [intOf]; omega
        · have hf := dg_false k hlt (fun h => hc2 h.2)
          have HF : Hid (dg s = false) := hf
          clear hf
          go_wp2
          go_ret
          exact ⟨ret_bool HF.out.symm, rfl⟩
      · have hf := dg_false k hlt (fun h => hc1 h.1)
        have HF : Hid (dg s = false) := hf
        clear hf
        go_wp2
        go_ret
        exact ⟨ret_bool HF.out.symm, rfl⟩
    · have HF : Hid (dg s = true) := dg_true (fun j hj => hd.out j hj (by omega))
      go_wp2
      go_ret
      exact ⟨ret_bool HF.out.symm, rfl⟩
set_option maxHeartbeats 400000 in
theorem adigits_any (s : ByteArray) (w : World) (hs : s.size ≤ maxLen) :
    Calls Ybaf.prog 11 #[.string s] w fun e w' => e = .returned (.bool (dg s)) ∧ w' = w := by
  unfold maxLen at hs
  go_enter Ybaf.func11, Ybaf.ntmps11
  go_wp2
  go_loop [3] (fun i => ∃ k : Nat, k ≤ s.size ∧ i = .int .i64 k ∧ Hid (∀ (j : Nat) (hj : j < s.size), j < k → 48 ≤ (s[j].toNat : Int) ∧ (s[j].toNat : Int) ≤ 57)) (fun i => s.size - (intOf i).toNat)
  case atStart => exact ⟨0, Nat.zero_le _, rfl, fun j hj h => by omega⟩
  case round =>
    obtain ⟨k, hk, rfl, hd⟩ := hrel
    by_cases hlt : k < s.size
    · by_cases hc1 : 48 ≤ (s[k].toNat : Int)
      · by_cases hc2 : (s[k].toNat : Int) ≤ 57
        · go_wp2
          go_round
          case rel =>
            refine ⟨k + 1, by omega, by go_num, fun j hj h => ?_⟩
            by_cases e : j = k
            · subst e; exact ⟨hc1, hc2⟩
            · exact hd.out j hj (by omega)
          case measure => simp [intOf]; omega
        · have hf := dg_false k hlt (fun h => hc2 h.2)
          have HF : Hid (dg s = false) := hf
          clear hf
          go_wp2
          go_ret
          exact ⟨ret_bool HF.out.symm, rfl⟩
      · have hf := dg_false k hlt (fun h => hc1 h.1)
        have HF : Hid (dg s = false) := hf
        clear hf
        go_wp2
        go_ret
        exact ⟨ret_bool HF.out.symm, rfl⟩
    · have HF : Hid (dg s = true) := dg_true (fun j hj => hd.out j hj (by omega))
      go_wp2
      go_ret
      exact ⟨ret_bool HF.out.symm, rfl⟩
/-- is the identity well formed? -/
def WF (mcc mnc : ByteArray) : Bool := decide (mcc.size = 3) && (decide (mnc.size = 2) || decide (mnc.size = 3)) && dg mcc && dg mnc
set_option maxHeartbeats 400000 in
/-- PLMN.wellFormed -/
theorem wf_any (mcc mnc : ByteArray) (w : World) (h1 : mcc.size ≤ maxLen) (h2 : mnc.size ≤ maxLen) :
    Calls Ybaf.prog 28 #[.agg #[.string mcc, .string mnc]] w fun e w' => e = .returned (.bool (WF mcc mnc)) ∧ w' = w.alloc (.cells #[.string mcc, .string mnc] 29) := by
  by_cases c1 : mcc.size = 3
  · by_cases c2 : mnc.size = 2
    · have _c0 := c2
      cases d1 : dg mcc with
      | false =>
        have HF : Hid (WF mcc mnc = false) := by simp [Hid, WF, d1]
        go_enter Ybaf.func28, Ybaf.ntmps28
        go_wp2_with (go_at_call 37; refine (digits_any _ _ (by assumption)).mono ?_; rintro e w' ⟨rfl, rfl⟩)
        go_ret
        exact ⟨ret_bool HF.out.symm, rfl⟩
      | true =>
        cases d2 : dg mnc with
        | false =>
          have HF : Hid (WF mcc mnc = false) := by simp [Hid, WF, d2]
          go_enter Ybaf.func28, Ybaf.ntmps28
          go_wp2_with (go_at_call 37; refine (digits_any _ _ (by assumption)).mono ?_; rintro e w' ⟨rfl, rfl⟩)
          go_ret
          exact ⟨ret_bool HF.out.symm, rfl⟩
        | true =>
          have HF : Hid (WF mcc mnc = true) := by simp [Hid, WF, d1, d2, c1, c2]
          go_enter Ybaf.func28, Ybaf.ntmps28
          go_wp2_with (go_at_call 37; refine (digits_any _ _ (by assumption)).mono ?_; rintro e w' ⟨rfl, rfl⟩)
          go_ret
          exact ⟨ret_bool HF.out.symm, rfl⟩
    · by_cases c3 : mnc.size = 3
      · have c2' : ((mnc.size : Int) == 2) = false := by simp [c3]
        cases d1 : dg mcc with
        | false =>
          have HF : Hid (WF mcc mnc = false) := by simp [Hid, WF, d1]
          go_enter Ybaf.func28, Ybaf.ntmps28
          go_wp2_with (go_at_call 37; refine (digits_any _ _ (by assumption)).mono ?_; rintro e w' ⟨rfl, rfl⟩)
          go_ret
          exact ⟨ret_bool HF.out.symm, rfl⟩
        | true =>
          cases d2 : dg mnc with
          | false =>
            have HF : Hid (WF mcc mnc = false) := by simp [Hid, WF, d2]
            go_enter Ybaf.func28, Ybaf.ntmps28
            go_wp2_with (go_at_call 37; refine (digits_any _ _ (by assumption)).mono ?_; rintro e w' ⟨rfl, rfl⟩)
            go_ret
            exact ⟨ret_bool HF.out.symm, rfl⟩
          | true =>
            have HF : Hid (WF mcc mnc = true) := by simp [Hid, WF, d1, d2, c1, c3]
            go_enter Ybaf.func28, Ybaf.ntmps28
            go_wp2_with (go_at_call 37; refine (digits_any _ _ (by assumption)).mono ?_; rintro e w' ⟨rfl, rfl⟩)
            go_ret
            exact ⟨ret_bool HF.out.symm, rfl⟩
      · have HF : Hid (WF mcc mnc = false) := by simp [Hid, WF, c2, c3]
        have c2' : ((mnc.size : Int) == 2) = false := by simp; omega
        have c3' : ((mnc.size : Int) == 3) = false := by simp; omega
        go_enter Ybaf.func28, Ybaf.ntmps28
        go_wp2_with (go_at_call 37; refine (digits_any _ _ (by assumption)).mono ?_; rintro e w' ⟨rfl, rfl⟩)
        go_ret
        exact ⟨ret_bool HF.out.symm, rfl⟩
  · have HF : Hid (WF mcc mnc = false) := by simp [Hid, WF, c1]
    have c1' : ((mcc.size : Int) == 3) = false := by simp; omega
    go_enter Ybaf.func28, Ybaf.ntmps28
    go_wp2_with (go_at_call 37; refine (digits_any _ _ (by assumption)).mono ?_; rintro e w' ⟨rfl, rfl⟩)
    go_ret
    exact ⟨ret_bool HF.out.symm, rfl⟩
end Go.Proofs.YbulkcuiaFmt
