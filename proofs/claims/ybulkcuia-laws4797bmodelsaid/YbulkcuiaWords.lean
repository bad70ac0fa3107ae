/-
  WORDS OF 64 BITS IN A WALK: 'U x' is the number that the word x holds; the walk's operations on words, said of BitVec 64. And 'Gr w w'': the world has at most new blocks, none of its marks has turned.
-/
import Derived.Test.YbulkcuiaRows
import Derived.Test.YbulkcuiaField
import Derived.WalkKit
import Derived.WalkSpells
import Derived.ProofKit
import Derived.Outline
import Derived.Laws.Pointers
import Derived.Laws.Bits64b
namespace Go.Proofs.Ybulkcuia
open Go.RowKit
/-- the number in a word. -/
def U (x : BitVec 64) : Int := (x.toNat : Int)
theorem U_lt (x : BitVec 64) : 0 ≤ U x ∧ U x < 18446744073709551616 := by
  have := x.isLt; unfold U; omega
theorem U_mk (n : Int) (h : 0 ≤ n) (h' : n < 18446744073709551616) : n = U (BitVec.ofNat 64 n.toNat) := by
  unfold U; simp only [BitVec.toNat_ofNat]; omega
theorem U_inj {x y : BitVec 64} (h : U x = U y) : x = y := by
  unfold U at h; exact BitVec.eq_of_toNat_eq (by omega)
theorem xor_U (x y : BitVec 64) : bits .xor .u64 (U x) (U y) = U (x ^^^ y) := by
  unfold U; rw [bits_xor_u64_nat _ _ x.isLt y.isLt, BitVec.toNat_xor]
theorem and_U (x y : BitVec 64) : bits .and .u64 (U x) (U y) = U (x &&& y) := by
  unfold U; rw [bits_and_u64_nat _ _ x.isLt y.isLt, BitVec.toNat_and]
theorem or_U (x y : BitVec 64) : bits .or .u64 (U x) (U y) = U (x ||| y) := by
  unfold U; rw [bits_or_u64_nat _ _ x.isLt y.isLt, BitVec.toNat_or]
theorem and_one_U (x : BitVec 64) : bits .and .u64 (U x) 1 = U (x &&& 1#64) := and_U x 1#64
theorem red_and_U (x : BitVec 64) : bits .and .u64 16212958658533785600 (U x) = U (0xe100000000000000#64 &&& x) := and_U 0xe100000000000000#64 x
theorem shr1_U (x : BitVec 64) : U x / (2 : Int) = U (x >>> 1) := by
  unfold U; rw [BitVec.toNat_ushiftRight, Nat.shiftRight_eq_div_pow]; omega
theorem shr63_U (x : BitVec 64) : U x / (9223372036854775808 : Int) = U (x >>> 63) := by
  unfold U; rw [BitVec.toNat_ushiftRight, Nat.shiftRight_eq_div_pow]; omega
theorem shl_U (x : BitVec 64) (n : Nat) : IntKind.u64.wrap (U x * 2 ^ n) = U (x <<< n) := by
  unfold U
  rw [BitVec.toNat_shiftLeft, Nat.shiftLeft_eq, IntKind.wrap_u64, Int.natCast_emod, Int.natCast_mul, Int.natCast_pow]
  rfl
theorem shl1_U (x : BitVec 64) : IntKind.u64.wrap (U x * 2) = U (x <<< 1) := shl_U x 1
theorem shl63_U (x : BitVec 64) : IntKind.u64.wrap (U x * 9223372036854775808) = U (x <<< 63) := shl_U x 63
theorem neg_U (x : BitVec 64) : IntKind.u64.wrap (- U x) = U (-x) := by
  unfold U; rw [BitVec.toNat_neg, IntKind.wrap_u64]; have := x.isLt; omega

/-- The world has at most new blocks; no mark has turned. -/
def Gr (w w' : World) : Prop := Below w.heap.size w w' ∧ ∀ a, w'.frozen? a = w.frozen? a
theorem Gr.refl (w : World) : Gr w w := ⟨Below.refl _ _, fun _ => rfl⟩
theorem Gr.size {w w' : World} (h : Gr w w') : w.heap.size ≤ w'.heap.size := h.1.size
theorem Gr.trans {a b c : World} (h : Gr a b) (k : Gr b c) : Gr a c := ⟨h.1.trans (k.1.mono h.1.size), fun x => (k.2 x).trans (h.2 x)⟩
theorem Gr.alloc {a w : World} (h : Gr a w) (c : Array Value) (t : TypeId) : Gr a (w.alloc (.cells c t)) :=
  ⟨h.1.alloc h.1.size _, fun x => (frozen?_alloc_cells w c t x).trans (h.2 x)⟩
theorem Gr.drew {a w : World} (h : Gr a w) : Gr a w.drew := ⟨h.1.drew, h.2⟩
theorem Gr.setCell {a w : World} (h : Gr a w) {p : Addr} (hp : a.heap.size ≤ p.block) (v : Value) : Gr a (w.setCell p v) :=
  ⟨h.1.setCell hp v, fun x => by rw [← h.2 x]; simp⟩
theorem Gr.cell {a w : World} (h : Gr a w) {p : Addr} (hp : p.block < a.heap.size) : w.cell? p = a.cell? p := h.1.cell hp
theorem frozen_past (w : World) (p : Addr) (h : w.heap.size ≤ p.block) : w.frozen? p = false := by
  unfold World.frozen?; rw [Array.getElem?_eq_none (by omega)]
/-- a mark of a new block. -/
theorem Gr.new {a w : World} (h : Gr a w) (p : Addr) (hp : a.heap.size ≤ p.block) : w.frozen? p = false := (h.2 p).trans (frozen_past a p hp)
theorem Gr.grown {a w : World} (h : Gr a w) : Grown a w := ⟨h.1.frame _, h.2, h.1.size⟩
end Go.Proofs.Ybulkcuia
