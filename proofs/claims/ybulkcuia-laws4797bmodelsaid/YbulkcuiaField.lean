/-
  THE PLAIN MATHEMATICS OF GF(2^128) IN GCM's BIT ORDER: no Go in sight. An element is a BitVec 128; the coefficient of x^i is its bit i, counted from the most significant one.
-/
namespace Go.Proofs.Ybulkcuia.Field

/-- x^128 reduced. -/
def red : BitVec 128 := BitVec.twoPow 128 127 ^^^ BitVec.twoPow 128 126 ^^^ BitVec.twoPow 128 125 ^^^ BitVec.twoPow 128 120
/-- times x. -/
def X (v : BitVec 128) : BitVec 128 := (v >>> 1) ^^^ (if v.getLsbD 0 then red else 0#128)
/-- times x^n. -/
def Xn : Nat → BitVec 128 → BitVec 128
  | 0, v => v
  | n + 1, v => X (Xn n v)
/-- the sum of f 0 .. f (n-1). -/
def S (f : Nat → BitVec 128) : Nat → BitVec 128
  | 0 => 0#128
  | n + 1 => S f n ^^^ f n
/-- the coefficient of x^i. -/
def co (a : BitVec 128) (i : Nat) : Bool := a.getMsbD i
/-- v if b, else 0. -/
def sel (b : Bool) (v : BitVec 128) : BitVec 128 := if b then v else 0#128
def one : BitVec 128 := BitVec.twoPow 128 127
/-- the product as the program makes it: one coefficient of a at a time. -/
def mul (a b : BitVec 128) : BitVec 128 := S (fun i => sel (co a i) (Xn i b)) 128

theorem sel_xor (b : Bool) (u v : BitVec 128) : sel b (u ^^^ v) = sel b u ^^^ sel b v := by cases b <;> simp [sel]
theorem sel_bxor (a b : Bool) (v : BitVec 128) : sel (a ^^ b) v = sel a v ^^^ sel b v := by cases a <;> cases b <;> simp [sel]
theorem sel_zero (b : Bool) : sel b 0#128 = 0#128 := by cases b <;> rfl
theorem sel_sel (a b : Bool) (v : BitVec 128) : sel a (sel b v) = sel (a && b) v := by cases a <;> cases b <;> rfl

theorem X_xor (u v : BitVec 128) : X (u ^^^ v) = X u ^^^ X v := by
  unfold X
  rw [BitVec.ushiftRight_xor_distrib, BitVec.getLsbD_xor]
  cases u.getLsbD 0 <;> cases v.getLsbD 0 <;> simp
  · ac_rfl
  · ac_rfl
  · rw [show u >>> 1 ^^^ red ^^^ (v >>> 1 ^^^ red) = u >>> 1 ^^^ v >>> 1 ^^^ (red ^^^ red) by ac_rfl]; simp
theorem X_zero : X 0#128 = 0#128 := by simp [X]
theorem X_sel (b : Bool) (v : BitVec 128) : X (sel b v) = sel b (X v) := by cases b <;> simp [sel, X_zero]
theorem Xn_xor (n : Nat) (u v : BitVec 128) : Xn n (u ^^^ v) = Xn n u ^^^ Xn n v := by
  induction n with
  | zero => rfl
  | succ n ih => simp only [Xn, ih, X_xor]
theorem Xn_zero (n : Nat) : Xn n 0#128 = 0#128 := by
  induction n with
  | zero => rfl
  | succ n ih => simp only [Xn, ih, X_zero]
theorem Xn_sel (n : Nat) (b : Bool) (v : BitVec 128) : Xn n (sel b v) = sel b (Xn n v) := by cases b <;> simp [sel, Xn_zero]
theorem Xn_add (m n : Nat) (v : BitVec 128) : Xn (m + n) v = Xn m (Xn n v) := by
  induction m with
  | zero => simp [Xn]
  | succ m ih => rw [Nat.succ_add]; simp only [Xn, ih]

theorem S_congr {f g : Nat → BitVec 128} (n : Nat) (h : ∀ i, i < n → f i = g i) : S f n = S g n := by
  induction n with
  | zero => rfl
  | succ n ih => simp only [S]; rw [ih (fun i hi => h i (by omega)), h n (by omega)]
theorem S_xor (f g : Nat → BitVec 128) (n : Nat) : S (fun i => f i ^^^ g i) n = S f n ^^^ S g n := by
  induction n with
  | zero => simp [S]
  | succ n ih => simp only [S, ih]; ac_rfl
theorem S_zero (n : Nat) : S (fun _ => 0#128) n = 0#128 := by
  induction n with
  | zero => rfl
  | succ n ih => simp [S, ih]
theorem Xn_S (m : Nat) (f : Nat → BitVec 128) (n : Nat) : Xn m (S f n) = S (fun i => Xn m (f i)) n := by
  induction n with
  | zero => simp [S, Xn_zero]
  | succ n ih => simp only [S, Xn_xor, ih]
theorem sel_S (b : Bool) (f : Nat → BitVec 128) (n : Nat) : sel b (S f n) = S (fun i => sel b (f i)) n := by
  induction n with
  | zero => simp [S, sel_zero]
  | succ n ih => simp only [S, sel_xor, ih]
theorem S_swap (f : Nat → Nat → BitVec 128) (m n : Nat) : S (fun i => S (fun j => f i j) n) m = S (fun j => S (fun i => f i j) m) n := by
  induction m with
  | zero => simp [S, S_zero]
  | succ m ih => simp only [S, ih, ← S_xor]

theorem red_lit : red = 0xe1000000000000000000000000000000#128 := by decide
theorem X_two (k : Nat) (h : k < 127) : X (BitVec.twoPow 128 (k + 1)) = BitVec.twoPow 128 k := by
  unfold X
  have h0 : (BitVec.twoPow 128 (k + 1)).getLsbD 0 = false := by simp
  rw [h0]
  apply BitVec.eq_of_getLsbD_eq
  intro i hi
  simp [BitVec.getLsbD_twoPow]
  rw [Bool.eq_iff_iff]
  simp only [Bool.and_eq_true, decide_eq_true_eq]
  omega
theorem Xn_one (i : Nat) (h : i < 128) : Xn i one = BitVec.twoPow 128 (127 - i) := by
  induction i with
  | zero => rfl
  | succ i ih =>
    simp only [Xn]
    rw [ih (by omega), show 127 - i = (127 - (i + 1)) + 1 by omega, X_two _ (by omega)]
/-- a sum of basis elements, coefficient by coefficient. -/
theorem co_S (c : Nat → Bool) (n : Nat) (hn : n ≤ 128) (k : Nat) (hk : k < 128) : co (S (fun i => sel (c i) (Xn i one)) n) k = (decide (k < n) && c k) := by
  induction n with
  | zero => simp [S, co]
  | succ n ih =>
    simp only [S]
    have e : co (S (fun i => sel (c i) (Xn i one)) n ^^^ sel (c n) (Xn n one)) k = (co (S (fun i => sel (c i) (Xn i one)) n) k ^^ co (sel (c n) (Xn n one)) k) := by
      simp [co, BitVec.getMsbD_xor]
    rw [e, ih (by omega), Xn_one n (by omega)]
    have e2 : co (sel (c n) (BitVec.twoPow 128 (127 - n))) k = (decide (k = n) && c n) := by
      cases c n
      · simp [sel, co]
      · simp only [sel, co, BitVec.getMsbD_eq_getLsbD]
        simp
        rw [Bool.eq_iff_iff]
        simp
        omega
    rw [e2]
    by_cases h : k = n
    · subst h; simp
    · have h1 : decide (k < n + 1) = decide (k < n) := by rw [Bool.eq_iff_iff]; simp; omega
      simp [h, h1]
theorem ext_co {u v : BitVec 128} (h : ∀ k, k < 128 → co u k = co v k) : u = v := by
  apply BitVec.eq_of_getLsbD_eq
  intro i hi
  have := h (127 - i) (by omega)
  simp only [co, BitVec.getMsbD_eq_getLsbD] at this
  simpa [show 127 - (127 - i) = i by omega, show 127 - i < 128 by omega] using this
/-- every element is the sum of its coefficients' basis elements. -/
theorem decomp (a : BitVec 128) : S (fun i => sel (co a i) (Xn i one)) 128 = a := by
  apply ext_co
  intro k hk
  rw [co_S (co a) 128 (Nat.le_refl _) k hk]
  simp [hk]

theorem mul_two (a b : BitVec 128) : mul a b = S (fun i => S (fun j => sel (co a i && co b j) (Xn (i + j) one)) 128) 128 := by
  unfold mul
  apply S_congr
  intro i _
  have h : Xn i b = S (fun j => sel (co b j) (Xn (i + j) one)) 128 := by
    have := congrArg (Xn i) (decomp b)
    rw [← this, Xn_S]
    apply S_congr
    intro j _
    rw [Xn_sel, Xn_add]
  rw [h, sel_S]
  apply S_congr
  intro j _
  rw [sel_sel]
theorem mul_comm (a b : BitVec 128) : mul a b = mul b a := by
  rw [mul_two, mul_two, S_swap]
  apply S_congr
  intro j _
  apply S_congr
  intro i _
  rw [Bool.and_comm, Nat.add_comm]
theorem mul_one (a : BitVec 128) : mul a one = a := decomp a
theorem one_mul (a : BitVec 128) : mul one a = a := by rw [mul_comm, mul_one]
theorem mul_zero (a : BitVec 128) : mul a 0#128 = 0#128 := by
  unfold mul
  refine (S_congr (g := fun _ => 0#128) 128 ?_).trans (S_zero 128)
  intro i _
  rw [Xn_zero, sel_zero]
theorem mul_xor (a b c : BitVec 128) : mul a (b ^^^ c) = mul a b ^^^ mul a c := by
  unfold mul
  rw [← S_xor]
  apply S_congr
  intro i _
  rw [Xn_xor, sel_xor]

/-! ### The schoolbook product: a table of coefficients -/
/-- the element that a table of coefficients stands for. -/
def P (c : Nat → Bool) (n : Nat) : BitVec 128 := S (fun k => sel (c k) (Xn k one)) n
/-- the table with v added at place k. -/
def upd (c : Nat → Bool) (k : Nat) (v : Bool) : Nat → Bool := fun i => if i = k then (c i ^^ v) else c i
theorem upd_at (c : Nat → Bool) (k : Nat) (v : Bool) : upd c k v k = (c k ^^ v) := by simp [upd]
theorem upd_ne (c : Nat → Bool) (k i : Nat) (v : Bool) (h : i ≠ k) : upd c k v i = c i := by simp [upd, h]
theorem P_upd_out (c : Nat → Bool) (k : Nat) (v : Bool) (n : Nat) (h : n ≤ k) : P (upd c k v) n = P c n := by
  unfold P
  apply S_congr
  intro i hi
  rw [upd_ne c k i v (by omega)]
theorem P_upd (c : Nat → Bool) (k : Nat) (v : Bool) (n : Nat) (h : k < n) : P (upd c k v) n = P c n ^^^ sel v (Xn k one) := by
  induction n with
  | zero => omega
  | succ n ih =>
    have e : ∀ c : Nat → Bool, P c (n + 1) = P c n ^^^ sel (c n) (Xn n one) := fun _ => rfl
    rw [e, e]
    by_cases hk : k = n
    · subst hk
      rw [P_upd_out c k v k (Nat.le_refl _), upd_at, sel_bxor]
      ac_rfl
    · rw [ih (by omega), upd_ne c k n v (by omega)]
      ac_rfl
theorem basis (i : Nat) (b : BitVec 128) : S (fun j => sel (co b j) (Xn (i + j) one)) 128 = Xn i b := by
  have := congrArg (Xn i) (decomp b)
  rw [← this, Xn_S]
  apply S_congr
  intro j _
  rw [Xn_sel, Xn_add]
theorem X128 : Xn 128 one = Xn 7 one ^^^ Xn 2 one ^^^ Xn 1 one ^^^ Xn 0 one := by
  have h : Xn 128 one = X (Xn 127 one) := rfl
  rw [h, Xn_one 127 (by omega), Xn_one 7 (by omega), Xn_one 2 (by omega), Xn_one 1 (by omega), Xn_one 0 (by omega)]
  decide
/-- x^k for k at least 128, reduced one step. -/
theorem Xk (k : Nat) (h : 128 ≤ k) : Xn k one = Xn (k - 121) one ^^^ Xn (k - 126) one ^^^ Xn (k - 127) one ^^^ Xn (k - 128) one := by
  have e := congrArg (Xn (k - 128)) X128
  rw [Xn_xor, Xn_xor, Xn_xor, ← Xn_add, ← Xn_add, ← Xn_add, ← Xn_add, ← Xn_add] at e
  rw [show k - 128 + 128 = k by omega, show k - 128 + 7 = k - 121 by omega, show k - 128 + 2 = k - 126 by omega, show k - 128 + 1 = k - 127 by omega, show k - 128 + 0 = k - 128 by omega] at e
  exact e
/-- one step of the reduction. -/
def step (c : Nat → Bool) (k : Nat) : Nat → Bool := upd (upd (upd (upd (upd c k true) (k - 121) true) (k - 126) true) (k - 127) true) (k - 128) true
theorem P_step (c : Nat → Bool) (k : Nat) (h : 128 ≤ k) (h' : k < 255) : P (step c k) 255 = P c 255 := by
  unfold step
  rw [P_upd _ _ _ _ (by omega), P_upd _ _ _ _ (by omega), P_upd _ _ _ _ (by omega), P_upd _ _ _ _ (by omega), P_upd _ _ _ _ (by omega)]
  simp only [sel, if_true]
  rw [Xk k h]
  generalize P c 255 = p; generalize Xn (k - 121) one = q; generalize Xn (k - 126) one = r; generalize Xn (k - 127) one = s; generalize Xn (k - 128) one = t
  rw [show p ^^^ (q ^^^ r ^^^ s ^^^ t) ^^^ q ^^^ r ^^^ s ^^^ t = p ^^^ (q ^^^ q) ^^^ (r ^^^ r) ^^^ (s ^^^ s) ^^^ (t ^^^ t) by ac_rfl]
  simp
theorem P_cut (c : Nat → Bool) (n : Nat) (h : ∀ i, 128 ≤ i → i < 128 + n → c i = false) : P c (128 + n) = P c 128 := by
  induction n with
  | zero => rfl
  | succ n ih =>
    have e : P c (128 + n + 1) = P c (128 + n) ^^^ sel (c (128 + n)) (Xn (128 + n) one) := rfl
    rw [← Nat.add_assoc, e, ih (fun i h1 h2 => h i h1 (by omega)), h (128 + n) (by omega) (by omega)]
    simp [sel]
theorem co_P (c : Nat → Bool) (h : ∀ i, 127 < i → i < 255 → c i = false) (k : Nat) (hk : k < 128) : co (P c 255) k = c k := by
  rw [show (255 : Nat) = 128 + 127 from rfl, P_cut c 127 (fun i h1 h2 => h i (by omega) (by omega))]
  unfold P
  rw [co_S c 128 (Nat.le_refl _) k hk]
  simp [hk]

/-! ### Two words -/
def hi (v : BitVec 128) : BitVec 64 := v.extractLsb' 64 64
def lo (v : BitVec 128) : BitVec 64 := v.extractLsb' 0 64
def join (h l : BitVec 64) : BitVec 128 := h ++ l
theorem hi_join (h l : BitVec 64) : hi (join h l) = h := by
  apply BitVec.eq_of_getLsbD_eq
  intro i h64
  have e := BitVec.getLsbD_append (x := h) (y := l) (i := 64 + i)
  have e2 : (hi (join h l)).getLsbD i = (h ++ l).getLsbD (64 + i) := by simp [hi, join, h64]
  rw [e2, e]
  simp
theorem lo_join (h l : BitVec 64) : lo (join h l) = l := by
  apply BitVec.eq_of_getLsbD_eq
  intro i h64
  have e := BitVec.getLsbD_append (x := h) (y := l) (i := i)
  have e2 : (lo (join h l)).getLsbD i = (h ++ l).getLsbD i := by simp [lo, join, h64]
  rw [e2, e]
  simp [h64]
theorem hi_xor (u v : BitVec 128) : hi (u ^^^ v) = hi u ^^^ hi v := by
  apply BitVec.eq_of_getLsbD_eq
  intro i hi
  simp [Field.hi, hi]
theorem lo_xor (u v : BitVec 128) : lo (u ^^^ v) = lo u ^^^ lo v := by
  apply BitVec.eq_of_getLsbD_eq
  intro i hi
  simp [lo, hi]
theorem ext_two {u v : BitVec 128} (h : hi u = hi v) (l : lo u = lo v) : u = v := by
  apply BitVec.eq_of_getLsbD_eq
  intro i h128
  by_cases hi64 : i < 64
  · have := congrArg (fun x => BitVec.getLsbD x i) l
    simpa [lo, hi64] using this
  · have := congrArg (fun x => BitVec.getLsbD x (i - 64)) h
    simpa [hi, show i - 64 < 64 by omega, show 64 + (i - 64) = i by omega] using this
theorem hi_zero : hi 0#128 = 0#64 := by decide
theorem lo_zero : lo 0#128 = 0#64 := by decide
theorem hi_one : hi one = 0x8000000000000000#64 := by decide
theorem lo_one : lo one = 0#64 := by decide
theorem neg_bit (b : Bool) : -(if b then 1#64 else 0#64) = if b then BitVec.allOnes 64 else 0#64 := by cases b <;> decide
theorem and_one (x : BitVec 64) : x &&& 1#64 = if x.getLsbD 0 then 1#64 else 0#64 := by
  apply BitVec.eq_of_getLsbD_eq
  intro i hi
  by_cases h : i = 0
  · subst h; cases h : x.getLsbD 0 <;> simp_all
  · cases h' : x.getLsbD 0 <;> simp [BitVec.getLsbD_one, h]
theorem shr_63 (x : BitVec 64) : x >>> 63 = if x.msb then 1#64 else 0#64 := by
  apply BitVec.eq_of_getLsbD_eq
  intro i hi
  by_cases h : i = 0
  · subst h; rw [BitVec.msb_eq_getLsbD_last]; simp; cases h : x[63] <;> rfl
  · have : x.getLsbD (63 + i) = false := BitVec.getLsbD_of_ge _ _ (by omega)
    cases h' : x.msb <;> simp [BitVec.getLsbD_one, h, this]
theorem hi_X (v : BitVec 128) : hi (X v) = (hi v >>> 1) ^^^ (0xe100000000000000#64 &&& -(lo v &&& 1#64)) := by
  have hb : (lo v).getLsbD 0 = v.getLsbD 0 := by simp [lo]
  rw [and_one, hb, neg_bit]
  unfold X
  rw [hi_xor]
  congr 1
  · apply BitVec.eq_of_getLsbD_eq
    intro i h64
    simp only [hi, BitVec.getLsbD_extractLsb', BitVec.getLsbD_ushiftRight, h64, decide_true, Bool.true_and]
    rw [show 1 + (64 + i) = 64 + (1 + i) by omega]
    by_cases h : 1 + i < 64
    · simp [h]
    · have : v.getLsbD (64 + (1 + i)) = false := BitVec.getLsbD_of_ge _ _ (by omega)
      simp [this]
  · cases v.getLsbD 0
    · decide
    · decide
theorem lo_X (v : BitVec 128) : lo (X v) = (lo v >>> 1) ||| (hi v <<< 63) := by
  unfold X
  have hr : lo (if v.getLsbD 0 then red else 0#128) = 0#64 := by cases v.getLsbD 0 <;> decide
  rw [lo_xor, hr, BitVec.xor_zero]
  apply BitVec.eq_of_getLsbD_eq
  intro i h64
  simp only [lo, hi, BitVec.getLsbD_or, BitVec.getLsbD_extractLsb', BitVec.getLsbD_ushiftRight, BitVec.getLsbD_shiftLeft, h64, decide_true, Bool.true_and]
  by_cases h : i = 63
  · subst h; simp
  · have h1 : i < 63 := by omega
    simp [show 1 + i < 64 by omega, h1]
theorem hi_sel (w : BitVec 64) (v : BitVec 128) : hi (sel w.msb v) = hi v &&& -(w >>> 63) := by
  rw [shr_63, neg_bit]
  cases w.msb
  · simp [sel, hi_zero]
  · exact (BitVec.and_allOnes (x := hi v)).symm
theorem lo_sel (w : BitVec 64) (v : BitVec 128) : lo (sel w.msb v) = lo v &&& -(w >>> 63) := by
  rw [shr_63, neg_bit]
  cases w.msb
  · simp [sel, lo_zero]
  · exact (BitVec.and_allOnes (x := lo v)).symm
theorem co_hi (v : BitVec 128) (i : Nat) (h : i < 64) : co v i = (hi v).getLsbD (63 - i) := by
  simp only [co, hi, BitVec.getMsbD_eq_getLsbD, BitVec.getLsbD_extractLsb', show i < 128 by omega, show 63 - i < 64 by omega, decide_true, Bool.true_and]
  rw [show 128 - 1 - i = 64 + (63 - i) by omega]
theorem co_lo (v : BitVec 128) (i : Nat) (h : i < 64) : co v (64 + i) = (lo v).getLsbD (63 - i) := by
  simp only [co, lo, BitVec.getMsbD_eq_getLsbD, BitVec.getLsbD_extractLsb', show 64 + i < 128 by omega, show 63 - i < 64 by omega, decide_true, Bool.true_and]
  rw [show 128 - 1 - (64 + i) = 0 + (63 - i) by omega]
theorem msb_shl (x : BitVec 64) (t : Nat) (h : t < 64) : (x <<< t).msb = x.getLsbD (63 - t) := by
  rw [BitVec.msb_eq_getLsbD_last]
  simp only [BitVec.getLsbD_shiftLeft]
  simp [show ¬ 63 < t by omega]
/-- (x >> n) & 1 -/
theorem shr_and (x : BitVec 64) (n : Nat) : (x >>> n) &&& 1#64 = if x.getLsbD n then 1#64 else 0#64 := by
  rw [and_one]
  simp
/-- the word that is made of coefficients, one at a time. -/
def G (c : Nat → Bool) : Nat → BitVec 64
  | 0 => 0#64
  | t + 1 => G c t ||| ((if c t then 1#64 else 0#64) <<< (63 - t))
theorem G_at (c : Nat → Bool) (t : Nat) (ht : t ≤ 64) (i : Nat) (hi : i < 64) : (G c t).getLsbD (63 - i) = (decide (i < t) && c i) := by
  induction t with
  | zero => simp [G]
  | succ t ih =>
    simp only [G, BitVec.getLsbD_or]
    rw [ih (by omega)]
    have e : ((if c t then 1#64 else 0#64) <<< (63 - t)).getLsbD (63 - i) = (decide (i = t) && c t) := by
      cases c t
      · simp
      · simp only [if_true, BitVec.getLsbD_shiftLeft, BitVec.getLsbD_one]
        rw [Bool.eq_iff_iff]
        simp
        omega
    rw [e]
    by_cases h : i = t
    · subst h; simp
    · have h1 : decide (i < t + 1) = decide (i < t) := by rw [Bool.eq_iff_iff]; simp; omega
      simp [h, h1]
theorem hi_G (v : BitVec 128) (c : Nat → Bool) (h : ∀ k, k < 128 → co v k = c k) : hi v = G c 64 := by
  apply BitVec.eq_of_getLsbD_eq
  intro i h64
  have e := G_at c 64 (Nat.le_refl _) (63 - i) (by omega)
  have e2 := co_hi v (63 - i) (by omega)
  rw [show 63 - (63 - i) = i by omega] at e e2
  rw [e, ← e2, h (63 - i) (by omega)]
  simp [show 63 - i < 64 by omega]
theorem lo_G (v : BitVec 128) (c : Nat → Bool) (h : ∀ k, k < 128 → co v k = c k) : lo v = G (fun i => c (64 + i)) 64 := by
  apply BitVec.eq_of_getLsbD_eq
  intro i h64
  have e := G_at (fun i => c (64 + i)) 64 (Nat.le_refl _) (63 - i) (by omega)
  have e2 := co_lo v (63 - i) (by omega)
  rw [show 63 - (63 - i) = i by omega] at e e2
  rw [e, ← e2, h (64 + (63 - i)) (by omega)]
  simp [show 63 - i < 64 by omega]
end Go.Proofs.Ybulkcuia.Field
