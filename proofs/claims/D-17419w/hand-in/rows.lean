section
/-! PLAIN LAW, first half: numbers, with no program in sight. Rows nx_, fa_, b_, s_, bp_ began as rows of kit/laws (BITS, NUMBERS). -/
theorem nx_and (a b : Nat) : nI a &&& nI b = nI (a &&& b) := by
  apply Int32.toBitVec_inj.1
  show BitVec.ofNat 32 a &&& BitVec.ofNat 32 b = BitVec.ofNat 32 (a &&& b)
  apply BitVec.eq_of_getLsbD_eq
  intro i hi
  simp [hi]
theorem nx_xor (a b : Nat) : nI a ^^^ nI b = nI (a ^^^ b) := by
  apply Int32.toBitVec_inj.1
  show BitVec.ofNat 32 a ^^^ BitVec.ofNat 32 b = BitVec.ofNat 32 (a ^^^ b)
  apply BitVec.eq_of_getLsbD_eq
  intro i hi
  simp [hi]
theorem fa_or (a b : Nat) : nI a ||| nI b = nI (a ||| b) := by
  apply Int32.toBitVec_inj.1
  show BitVec.ofNat 32 a ||| BitVec.ofNat 32 b = BitVec.ofNat 32 (a ||| b)
  apply BitVec.eq_of_getLsbD_eq
  intro i hi
  simp [hi]
theorem fa_or_sum {a k : Nat} (b : Nat) (h : a < 2 ^ k) : nI (2 ^ k * b) ||| nI a = nI (2 ^ k * b + a) := by rw [fa_or, Nat.two_pow_add_eq_or_of_lt h]
theorem nx_mod (k : Nat) : nI k &&& 65535 = nI (k % 65536) := by
  show nI k &&& nI 65535 = _
  rw [nx_and, show (65535 : Nat) = 2 ^ 16 - 1 from rfl, Nat.and_two_pow_sub_one_eq_mod]
def bt (x : Int32) (i : Nat) : Bool := x.toBitVec.getLsbD i
theorem s_l : ∀ n, n < 32 → ((nI n &&& 31).toBitVec.smod 32).toNat = n := by decide +kernel
theorem b_sshr (n : Nat) (hn : n < 32) (x : Int32) {i : Nat} (hi : i < 32) : bt (x >>> (nI n &&& 31)) i = if n + i < 32 then bt x (n + i) else bt x 31 := by
  unfold bt
  rw [Int32.toBitVec_shiftRight]
  show (x.toBitVec.sshiftRight ((nI n &&& 31).toBitVec.smod 32).toNat).getLsbD i = _
  rw [s_l n hn, BitVec.getLsbD_sshiftRight, BitVec.msb_eq_getLsbD_last]
  simp [hi]
theorem bp_b (x : Int32) : x.toInt8.toInt32 &&& 255 = x &&& 255 := by
  apply Int32.toBitVec_inj.mp
  rw [Int32.toBitVec_and, Int32.toBitVec_and, Int8.toBitVec_toInt32, Int32.toBitVec_toInt8]
  apply BitVec.eq_of_getLsbD_eq
  intro i hi
  rw [BitVec.getLsbD_and, BitVec.getLsbD_and]
  have hm : ∀ i < 32, 8 ≤ i → (255 : Int32).toBitVec.getLsbD i = false := by decide
  rcases Nat.lt_or_ge i 8 with z | z
  · rw [BitVec.getLsbD_signExtend, BitVec.getLsbD_signExtend, if_pos z, if_pos hi]
    simp only [z, hi, decide_true, Bool.true_and]
  · rw [hm i hi z]; simp
theorem fa_byte_low (x : Int32) : (x &&& 255).toInt8 = x.toInt8 := by
  apply Int8.toBitVec_inj.1
  apply BitVec.eq_of_getLsbD_eq
  intro i hi
  have h2 : (255 : Int32).toBitVec.getLsbD i = true := by
    have : ∀ j : Fin 8, (255 : Int32).toBitVec.getLsbD j.val = true := by decide +kernel
    exact this ⟨i, hi⟩
  have h4 : (x &&& 255).toBitVec.getLsbD i = x.toBitVec.getLsbD i := by
    show (x.toBitVec &&& (255 : Int32).toBitVec).getLsbD i = _
    rw [BitVec.getLsbD_and, h2, Bool.and_true]
  have h3 : i < 32 := by omega
  first
    | (show (((x &&& 255).toBitVec).signExtend 8).getLsbD i = (x.toBitVec.signExtend 8).getLsbD i; rw [BitVec.getLsbD_signExtend, BitVec.getLsbD_signExtend, if_pos h3, if_pos h3, h4])
    | (show (((x &&& 255).toBitVec).setWidth 8).getLsbD i = (x.toBitVec.setWidth 8).getLsbD i; rw [BitVec.getLsbD_setWidth, BitVec.getLsbD_setWidth, h4])
    | (simp [hi, h3, h4]; done)
/-! ===== ints that wrap ===== -/
theorem im_wrap (n : Nat) : nI (n + 4294967296) = nI n := by
  apply Int32.toBitVec_inj.1
  show BitVec.ofNat 32 (n + 4294967296) = BitVec.ofNat 32 n
  apply BitVec.eq_of_toNat_eq
  rw [BitVec.toNat_ofNat, BitVec.toNat_ofNat]
  omega
theorem im_sub {a b : Nat} (h : b ≤ a + 4294967296) : nI a - nI b = nI (a + 4294967296 - b) := by
  rw [← pk_sub h, im_wrap]
theorem im_neg {a : Nat} (h : a ≤ 4294967296) : -(nI a) = nI (4294967296 - a) := by
  have e := im_sub (a := 0) (b := a) (by omega)
  rw [Nat.zero_add, show nI 0 = (0 : Int32) from rfl, Int32.zero_sub] at e
  exact e
/-! ===== bytes ===== -/
def by8 (x : Int32) : Nat := x.toBitVec.toNat % 256
theorem by8_lt (x : Int32) : by8 x < 256 := Nat.mod_lt _ (by decide)
theorem by8_and (x : Int32) : x &&& 255 = nI (by8 x) := pk_and x 8 (by decide)
theorem by8_nar (x : Int32) : by8 (vp_nar .byte x) = by8 x := by
  have h : vp_nar .byte x &&& 255 = x &&& 255 := by rw [vp_nar_byte]; exact bp_b x
  rw [by8_and, by8_and] at h
  have h1 := by8_lt x
  have h2 := by8_lt (vp_nar .byte x)
  exact (nI_eq (by omega) (by omega)).mp h
/-- the byte that a number's low part is -/
def b8 (n : Nat) : Int32 := (nI n).toInt8.toInt32
theorem b8_mod (n : Nat) : b8 (n % 256) = b8 n := by
  unfold b8
  rw [← fa_byte_low (nI n), pk_and (nI n) (m := 255) 8 (by decide)]
  congr 2
  have : (nI n).toBitVec.toNat = n % 4294967296 := by
    show (BitVec.ofNat 32 n).toNat = _
    rw [BitVec.toNat_ofNat]
  rw [this]
  congr 1
  omega
theorem b8_congr {a b : Nat} (h : a % 256 = b % 256) : b8 a = b8 b := by rw [← b8_mod a, ← b8_mod b, h]
theorem b8_nar (n : Nat) : vp_nar .byte (b8 n) = b8 n := pk_vb (nI n)
/-- a word of two bytes -/
def wd (f : Nat → Int32) (i : Nat) : Nat := by8 (f i) * 256 + by8 (f (i + 1))
theorem wd_lt (f : Nat → Int32) (i : Nat) : wd f i < 65536 := by
  have h1 := by8_lt (f i)
  have h2 := by8_lt (f (i + 1))
  unfold wd
  omega
theorem im_ff00 (n : Nat) : n &&& 65280 = n / 256 % 256 * 256 := by
  have h1 : (65280 : Nat) = 255 <<< 8 := rfl
  have h2 : n / 256 % 256 * 256 = (n / 2 ^ 8 % 2 ^ 8) <<< 8 := by rw [Nat.shiftLeft_eq]
  rw [h1, h2]
  apply Nat.eq_of_testBit_eq
  intro i
  rw [Nat.testBit_and, Nat.testBit_shiftLeft, Nat.testBit_shiftLeft, Nat.testBit_mod_two_pow, Nat.testBit_div_two_pow, show (255 : Nat) = 2 ^ 8 - 1 from rfl, Nat.testBit_two_pow_sub_one]
  by_cases h : 8 ≤ i
  · have e : i - 8 + 8 = i := by omega
    rw [e]
    cases n.testBit i <;> simp [h]
  · simp [h]
/-- the high byte as the engine reads it -/
theorem by8_hi (x : Int32) : x <<< (nI 8 &&& 31) &&& 65280 = nI (by8 x * 256) := by
  have e : x <<< (nI 8 &&& 31) = nI (x.toBitVec.toNat * 256 % 4294967296) := by
    apply Int32.toBitVec_inj.1
    apply BitVec.eq_of_toNat_eq
    rw [pk_shl x (nI 8 &&& 31) 8 (by decide), pk_tn (by omega)]
  rw [e, show (65280 : Int32) = nI 65280 from rfl, nx_and, im_ff00]
  refine congrArg nI ?_
  unfold by8
  omega
/-- one bit of a byte, as the reference reads it -/
theorem by8_bit (x : Int32) {s : Nat} (hs : s < 8) : x >>> (nI s &&& 31) &&& nI 1 = nI (by8 x / 2 ^ s % 2) := by
  rw [show nI 1 = (1 : Int32) from rfl, pk_and (x >>> (nI s &&& 31)) (m := 1) 1 (by decide)]
  congr 1
  have h := b_sshr s (by omega) x (i := 0) (by omega)
  rw [if_pos (by omega), Nat.add_zero] at h
  unfold bt at h
  rw [← BitVec.testBit_toNat, ← BitVec.testBit_toNat, Nat.testBit_eq_decide_div_mod_eq, Nat.testBit_eq_decide_div_mod_eq] at h
  have h3 : (by8 x).testBit s = x.toBitVec.toNat.testBit s := by
    unfold by8
    rw [show (256 : Nat) = 2 ^ 8 from rfl, Nat.testBit_mod_two_pow]
    simp [hs]
  rw [Nat.testBit_eq_decide_div_mod_eq, Nat.testBit_eq_decide_div_mod_eq] at h3
  have h4 := decide_eq_decide.mp h
  have h5 := decide_eq_decide.mp h3
  have e1 : (2 : Nat) ^ 1 = 2 := rfl
  have e0 : (2 : Nat) ^ 0 = 1 := rfl
  rw [e0, Nat.div_one] at h4
  rw [e1]
  generalize (x >>> (nI s &&& 31)).toBitVec.toNat = a at *
  generalize x.toBitVec.toNat / 2 ^ s = b at *
  generalize by8 x / 2 ^ s = c at *
  omega
/-! ===== multiplication modulo 65537, where 0 stands for 65536 ===== -/
def z6 (a : Nat) : Nat := if a = 0 then 65536 else a
theorem z6_0 : z6 0 = 65536 := rfl
theorem z6_n {a : Nat} (h : ¬ a = 0) : z6 a = a := if_neg h
theorem z6_pos (a : Nat) : 0 < z6 a := by
  unfold z6
  split <;> omega
theorem z6_lt {a : Nat} (h : a < 65536) : z6 a < 65537 := by
  unfold z6
  split <;> omega
theorem z6_inj {a b : Nat} (ha : a < 65536) (hb : b < 65536) (h : z6 a = z6 b) : a = b := by
  unfold z6 at h
  split at h <;> split at h <;> omega
def mulS (a b : Nat) : Nat := z6 a * z6 b % 65537 % 65536
theorem mulS_lt (a b : Nat) : mulS a b < 65536 := Nat.mod_lt _ (by decide)
theorem mulS_a {b : Nat} (hb : b < 65536) : (65537 - b) % 65536 = mulS 0 b := by
  unfold mulS
  rw [z6_0]
  by_cases h : b = 0
  · subst h
    rw [z6_0]
  · have e : 65536 * b = 65537 * (b - 1) + (65537 - b) := by omega
    rw [z6_n h, e, Nat.mul_add_mod, Nat.mod_eq_of_lt (show 65537 - b < 65537 by omega)]
theorem mulS_b {a : Nat} (ha : a < 65536) (h : ¬ a = 0) : (65537 - a) % 65536 = mulS a 0 := by
  unfold mulS
  have e : a * 65536 = 65537 * (a - 1) + (65537 - a) := by omega
  rw [z6_0, z6_n h, e, Nat.mul_add_mod, Nat.mod_eq_of_lt (show 65537 - a < 65537 by omega)]
theorem im_prod {a b : Nat} (ha : a < 65536) (hb : b < 65536) : a * b < 4294836226 := Nat.lt_of_le_of_lt (Nat.mul_le_mul (show a ≤ 65535 by omega) (show b ≤ 65535 by omega)) (by decide)
theorem mulS_c {a b : Nat} (ha : a < 65536) (hb : b < 65536) (h0 : ¬ a = 0) (h1 : ¬ b = 0) (h : a * b / 65536 ≤ a * b % 65536) : (a * b % 65536 - a * b / 65536) % 65536 = mulS a b := by
  have hp := im_prod ha hb
  unfold mulS
  rw [z6_n h0, z6_n h1]
  generalize a * b = p at *
  have e : p = 65537 * (p / 65536) + (p % 65536 - p / 65536) := by omega
  have e2 : p % 65537 = p % 65536 - p / 65536 := by
    rw (occs := .pos [1]) [e]
    rw [Nat.mul_add_mod]
    exact Nat.mod_eq_of_lt (by omega)
  rw [e2]
theorem mulS_d {a b : Nat} (ha : a < 65536) (hb : b < 65536) (h0 : ¬ a = 0) (h1 : ¬ b = 0) (h : a * b % 65536 < a * b / 65536) : (a * b % 65536 + 65537 - a * b / 65536) % 65536 = mulS a b := by
  have hp := im_prod ha hb
  unfold mulS
  rw [z6_n h0, z6_n h1]
  generalize a * b = p at *
  omega
/-- the engine's last step where the low half is the smaller -/
theorem im_mask {lo hi : Nat} (h : lo < hi) (h2 : hi ≤ 65536) : (nI lo - nI hi + nI 1) &&& 65535 = nI ((lo + 65537 - hi) % 65536) := by
  rw [im_sub (by omega), nI_add, nx_mod]
  congr 1
  omega
def negS (a : Nat) : Nat := (65536 - a) % 65536
theorem negS_lt (a : Nat) : negS a < 65536 := Nat.mod_lt _ (by decide)
theorem im_negE {a : Nat} (h : a < 65536) : (nI 0 - nI a) &&& 65535 = nI (negS a) := by
  rw [im_sub (by omega), nx_mod]
  congr 1
  unfold negS
  omega
theorem im_negM {a : Nat} (h : a < 65536) : (-(nI a)) &&& 65535 = nI (negS a) := by
  rw [im_neg (by omega), nx_mod]
  congr 1
  unfold negS
  omega
/-! ===== Fermat at 65537, by the kernel ===== -/
def sq1 (x : Nat) : Nat := Nat.mod (Nat.mul x x) 65537
def sq4 (x : Nat) : Nat := sq1 (sq1 (sq1 (sq1 x)))
def fe_t (a : Nat) : Bool := Nat.beq (sq4 (sq4 (sq4 (sq4 a)))) 1 && Nat.beq (Nat.gcd a 65537) 1
def fe_c : Nat → Nat → Bool
  | 0, lo => fe_t lo
  | d + 1, lo => fe_c d lo && fe_c d (lo + 2 ^ d)
theorem fe_all : ∀ (d lo : Nat), fe_c d lo = true → ∀ a, lo ≤ a → a < lo + 2 ^ d → fe_t a = true := by
  intro d
  induction d with
  | zero =>
    intro lo h a h1 h2
    have e : a = lo := by
      have : (2 : Nat) ^ 0 = 1 := rfl
      omega
    rw [e]
    exact h
  | succ d ih =>
    intro lo h a h1 h2
    have h : (fe_c d lo && fe_c d (lo + 2 ^ d)) = true := h
    rw [Bool.and_eq_true] at h
    have e : (2 : Nat) ^ (d + 1) = 2 ^ d + 2 ^ d := by rw [Nat.pow_succ]; omega
    by_cases hc : a < lo + 2 ^ d
    · exact ih lo h.1 a h1 hc
    · exact ih (lo + 2 ^ d) h.2 a (by omega) (by omega)
set_option maxRecDepth 100000 in
theorem fe_ran : fe_c 16 1 = true := by decide +kernel
theorem fe_at {a : Nat} (h0 : 0 < a) (h : a < 65537) : fe_t a = true := fe_all 16 1 fe_ran a h0 (by
  have : (2 : Nat) ^ 16 = 65536 := rfl
  omega)
theorem fe_gcd {a : Nat} (h0 : 0 < a) (h : a < 65537) : Nat.gcd a 65537 = 1 := by
  have h1 := fe_at h0 h
  unfold fe_t at h1
  rw [Bool.and_eq_true] at h1
  exact Nat.eq_of_beq_eq_true h1.2
def sqn (a : Nat) : Nat → Nat
  | 0 => a
  | k + 1 => sq1 (sqn a k)
theorem sqn_pow {a : Nat} (h : a < 65537) : ∀ k, sqn a k = a ^ (2 ^ k) % 65537 := by
  intro k
  induction k with
  | zero =>
    show a = a ^ 1 % 65537
    rw [Nat.pow_one, Nat.mod_eq_of_lt h]
  | succ k ih =>
    show sqn a k * sqn a k % 65537 = _
    rw [ih, ← Nat.mul_mod, ← Nat.pow_add, show 2 ^ (k + 1) = 2 ^ k + 2 ^ k by rw [Nat.pow_succ]; omega]
theorem fermat {a : Nat} (h0 : 0 < a) (h : a < 65537) : a ^ 65535 * a % 65537 = 1 := by
  have h1 := fe_at h0 h
  unfold fe_t at h1
  rw [Bool.and_eq_true] at h1
  have h2 : sqn a 16 = 1 := Nat.eq_of_beq_eq_true h1.1
  rw [sqn_pow h 16] at h2
  rw [← Nat.pow_succ]
  exact h2
/-- no divisors of zero -/
theorem im_nz {a b : Nat} (ha : 0 < a) (ha2 : a < 65537) (hb : 0 < b) (hb2 : b < 65537) : ¬ a * b % 65537 = 0 := by
  intro h
  have e : a ^ 65535 * (a * b) % 65537 = b := by
    rw [← Nat.mul_assoc, Nat.mul_mod, fermat ha ha2, Nat.one_mul, Nat.mod_mod, Nat.mod_eq_of_lt hb2]
  rw [Nat.mul_mod, h, Nat.mul_zero, Nat.zero_mod] at e
  omega
theorem z6_mul {a b : Nat} (ha : a < 65536) (hb : b < 65536) : z6 (mulS a b) = z6 a * z6 b % 65537 := by
  have h := im_nz (z6_pos a) (z6_lt ha) (z6_pos b) (z6_lt hb)
  have h2 : z6 a * z6 b % 65537 < 65537 := Nat.mod_lt _ (by decide)
  unfold mulS
  generalize z6 a * z6 b % 65537 = x at *
  unfold z6
  split <;> omega
/-- the reference's powers -/
def pw (a : Nat) : Nat → Nat
  | 0 => 1
  | k + 1 => mulS (pw a k) a
theorem pw_lt (a : Nat) : ∀ k, pw a k < 65536 := by
  intro k
  cases k with
  | zero => show 1 < 65536; decide
  | succ k => exact mulS_lt _ _
theorem pw_pow {a : Nat} (ha : a < 65536) : ∀ k, z6 (pw a k) = z6 a ^ k % 65537 := by
  intro k
  induction k with
  | zero => rfl
  | succ k ih =>
    show z6 (mulS (pw a k) a) = _
    rw [z6_mul (pw_lt a k) ha, ih, Nat.pow_succ, Nat.mod_mul_mod]
noncomputable def invS (a : Nat) : Nat := Classical.choose (⟨pw a 65535, rfl⟩ : ∃ x, x = pw a 65535)
theorem invS_eq (a : Nat) : invS a = pw a 65535 := Classical.choose_spec (⟨pw a 65535, rfl⟩ : ∃ x, x = pw a 65535)
theorem invS_lt (a : Nat) : invS a < 65536 := by rw [invS_eq]; exact pw_lt a _
/-- whatever undoes a is the reference's inverse -/
theorem inv_uniq {a w : Nat} (ha : a < 65536) (hw : w < 65536) (h : z6 w * z6 a % 65537 = 1) : w = invS a := by
  refine z6_inj hw (invS_lt a) ?_
  rw [invS_eq, pw_pow ha]
  have hf := fermat (z6_pos a) (z6_lt ha)
  have e : z6 w * (z6 a ^ 65535 * z6 a) % 65537 = z6 w := by
    rw [Nat.mul_mod, hf, Nat.mul_one, Nat.mod_mod, Nat.mod_eq_of_lt (z6_lt hw)]
  have e2 : z6 w * (z6 a ^ 65535 * z6 a) = z6 a ^ 65535 * (z6 w * z6 a) := by
    generalize z6 a ^ 65535 = q
    rw [← Nat.mul_assoc, Nat.mul_comm (z6 w) q, Nat.mul_assoc]
  rw [e2, Nat.mul_mod, h, Nat.mul_one, Nat.mod_mod] at e
  exact e.symm
theorem invS_0 : 0 = invS 0 := inv_uniq (by decide) (by decide) (by decide)
theorem invS_1 : 1 = invS 1 := inv_uniq (by decide) (by decide) (by decide)
/-! ===== Euclid, as the engine runs it ===== -/
/-- at the head of its loop -/
def Eu (A x y t0 t1 : Nat) : Prop := 2 ≤ x ∧ x < 65536 ∧ 1 ≤ y ∧ y < x ∧ 1 ≤ t0 ∧ 1 ≤ t1 ∧ t0 * y + t1 * x = 65537 ∧ Nat.gcd x y = 1 ∧ (∃ k : Int, (t0 : Int) * A = x + 65537 * k) ∧ ∃ j : Int, (y : Int) + t1 * A = 65537 * j
/-- in the middle of it -/
def Ev (A x y t0 t1 : Nat) : Prop := 1 ≤ x ∧ x < y ∧ 2 ≤ y ∧ y < 65536 ∧ 1 ≤ t0 ∧ 1 ≤ t1 ∧ t0 * y + t1 * x = 65537 ∧ Nat.gcd x y = 1 ∧ (∃ k : Int, (t0 : Int) * A = x + 65537 * k) ∧ ∃ j : Int, (y : Int) + t1 * A = 65537 * j
theorem eu_0 {A : Nat} (h2 : 2 ≤ A) (h : A < 65536) : Eu A A (65537 % A) 1 (65537 / A) := by
  have hg : Nat.gcd A 65537 = 1 := fe_gcd (by omega) (by omega)
  have hm : 65537 % A < A := Nat.mod_lt _ (by omega)
  have hd := Nat.div_add_mod 65537 A
  have hg2 : Nat.gcd A (65537 % A) = 1 := by
    rw [Nat.gcd_comm, ← Nat.gcd_rec]
    exact hg
  have hy : 1 ≤ 65537 % A := by
    rcases Nat.eq_zero_or_pos (65537 % A) with q | q
    · rw [q, Nat.gcd_zero_right] at hg2
      omega
    · exact q
  have hq : 1 ≤ 65537 / A := Nat.div_pos (by omega) (by omega)
  refine ⟨h2, h, hy, hm, Nat.le_refl _, hq, ?_, hg2, ⟨0, by omega⟩, ⟨1, ?_⟩⟩
  · rw [Nat.one_mul, Nat.mul_comm (65537 / A) A]
    omega
  · have hd2 : ((65537 : Nat) : Int) = ((A * (65537 / A) + 65537 % A : Nat) : Int) := by rw [hd]
    generalize 65537 / A = q at *
    generalize 65537 % A = y at *
    rw [Int.natCast_add, Int.natCast_mul] at hd2
    rw [Int.mul_comm (q : Int) (A : Int)]
    omega
theorem eu_end {A x t0 t1 : Nat} (hA : A < 65536) (hA0 : ¬ A = 0) (h : Eu A x 1 t0 t1) : (65537 - t1) % 65536 = invS A := by
  obtain ⟨h1, h2, -, -, h5, h6, h7, -, -, j, hj⟩ := h
  have ht : t1 * 2 ≤ 65537 := Nat.le_trans (Nat.mul_le_mul_left t1 h1) (by omega)
  refine inv_uniq hA (Nat.mod_lt _ (by decide)) ?_
  have e1 : z6 ((65537 - t1) % 65536) = 65537 - t1 := by
    unfold z6
    split <;> omega
  rw [e1, z6_n hA0]
  have e2 : (((65537 - t1) * A : Nat) : Int) = 1 + 65537 * (A - j) := by
    rw [Int.natCast_mul, show ((65537 - t1 : Nat) : Int) = 65537 - (t1 : Int) by omega, Int.sub_mul]
    generalize (t1 : Int) * (A : Int) = z at *
    omega
  generalize (65537 - t1) * A = n at *
  omega
theorem eu_a {A x y t0 t1 : Nat} (h : Eu A x y t0 t1) (hy : ¬ y = 1) : 2 ≤ y ∧ t0 + t1 * (x / y) < 65536 ∧ Ev A (x % y) y (t0 + t1 * (x / y)) t1 := by
  obtain ⟨h1, h2, h3, h4, h5, h6, h7, h8, ⟨k, hk⟩, j, hj⟩ := h
  have hy2 : 2 ≤ y := by omega
  have hd := Nat.div_add_mod x y
  have hm : x % y < y := Nat.mod_lt _ (by omega)
  have hg : Nat.gcd (x % y) y = 1 := by
    rw [← Nat.gcd_rec, Nat.gcd_comm]
    exact h8
  have hx0 : 1 ≤ x % y := by
    rcases Nat.eq_zero_or_pos (x % y) with q | q
    · rw [q, Nat.gcd_zero_left] at hg
      omega
    · exact q
  generalize x / y = q at *
  generalize x % y = r at *
  subst hd
  have e7 : (t0 + t1 * q) * y + t1 * r = 65537 := by
    rw [← h7, Nat.add_mul, Nat.mul_add, Nat.mul_assoc, Nat.mul_comm q y, Nat.add_assoc]
  have hb : (t0 + t1 * q) * 2 ≤ 65537 := Nat.le_trans (Nat.mul_le_mul_left _ hy2) (by omega)
  refine ⟨hy2, by omega, hx0, hm, hy2, by omega, by omega, h6, e7, hg, ⟨k + q * j, ?_⟩, ⟨j, hj⟩⟩
  rw [Int.natCast_add, Int.natCast_mul] at hk ⊢
  have f1 : ((t0 : Int) + t1 * q) * A = t0 * A + q * (t1 * A) := by
    rw [Int.add_mul, Int.mul_comm (t1 : Int) q, Int.mul_assoc]
  have f2 : (t1 : Int) * A = 65537 * j - y := by omega
  rw [f1, hk, f2, Int.mul_sub, Int.mul_comm (q : Int) (y : Int), Int.mul_add, Int.mul_left_comm (q : Int) 65537 j]
  generalize (y : Int) * (q : Int) = z1 at *
  generalize (q : Int) * j = z2 at *
  omega
theorem ev_end {A y t0 t1 : Nat} (hA : A < 65536) (hA0 : ¬ A = 0) (hb : t0 < 65536) (h : Ev A 1 y t0 t1) : t0 = invS A := by
  obtain ⟨-, -, -, -, h5, -, -, -, ⟨k, hk⟩, -⟩ := h
  refine inv_uniq hA hb ?_
  rw [z6_n (show ¬ t0 = 0 by omega), z6_n hA0]
  rw [← Int.natCast_mul] at hk
  generalize t0 * A = n at *
  omega
theorem ev_a {A x y t0 t1 : Nat} (h : Ev A x y t0 t1) (hx : ¬ x = 1) : 2 ≤ x ∧ t1 + t0 * (y / x) < 65536 ∧ y % x < y ∧ Eu A x (y % x) t0 (t1 + t0 * (y / x)) := by
  obtain ⟨h1, h2, h3, h4, h5, h6, h7, h8, ⟨k, hk⟩, j, hj⟩ := h
  have hx2 : 2 ≤ x := by omega
  have hd := Nat.div_add_mod y x
  have hm : y % x < x := Nat.mod_lt _ (by omega)
  have hg : Nat.gcd x (y % x) = 1 := by
    rw [Nat.gcd_comm, ← Nat.gcd_rec]
    exact h8
  have hy0 : 1 ≤ y % x := by
    rcases Nat.eq_zero_or_pos (y % x) with q | q
    · rw [q, Nat.gcd_zero_right] at hg
      omega
    · exact q
  generalize y / x = q at *
  generalize y % x = r at *
  subst hd
  have e7 : t0 * r + (t1 + t0 * q) * x = 65537 := by
    rw [← h7, Nat.add_mul, Nat.mul_add, Nat.mul_assoc, Nat.mul_comm q x]
    generalize t0 * (x * q) = z1
    generalize t0 * r = z2
    generalize t1 * x = z3
    omega
  have hb : (t1 + t0 * q) * 2 ≤ 65537 := Nat.le_trans (Nat.mul_le_mul_left _ hx2) (by omega)
  refine ⟨hx2, by omega, by omega, hx2, by omega, hy0, hm, h5, by omega, e7, hg, ⟨k, hk⟩, ⟨j + q * k, ?_⟩⟩
  rw [Int.natCast_add, Int.natCast_mul] at hj ⊢
  have f1 : ((t1 : Int) + t0 * q) * A = t1 * A + q * (t0 * A) := by
    rw [Int.add_mul, Int.mul_comm (t0 : Int) q, Int.mul_assoc]
  rw [f1, hk, Int.mul_add, Int.mul_add, Int.mul_left_comm (q : Int) 65537 k, Int.mul_comm (q : Int) (x : Int)]
  generalize (x : Int) * (q : Int) = z1 at *
  generalize (q : Int) * k = z2 at *
  generalize (t1 : Int) * (A : Int) = z3 at *
  omega
end
section
/-! PLAIN LAW, second half: the cipher, as a value -/
/-! ===== the 52 keys: runs of bits ===== -/
def bitS (f : Nat → Int32) (j : Nat) : Nat := by8 (f (j / 8)) / 2 ^ (7 - j % 8) % 2
theorem bitS_lt (f : Nat → Int32) (j : Nat) : bitS f j < 2 := Nat.mod_lt _ (by decide)
def ksA (f : Nat → Int32) (b : Nat) : Nat → Nat
  | 0 => 0
  | n + 1 => 2 * ksA f b n + bitS f ((b + n) % 128)
theorem ksA_s (f : Nat → Int32) (b n : Nat) : ksA f b (n + 1) = 2 * ksA f b n + bitS f ((b + n) % 128) := rfl
theorem ksA_lt (f : Nat → Int32) (b : Nat) : ∀ n, ksA f b n < 2 ^ n := by
  intro n
  induction n with
  | zero => exact Nat.one_pos
  | succ n ih =>
    have h := bitS_lt f ((b + n) % 128)
    rw [ksA_s, Nat.pow_succ]
    omega
theorem ksA_mod (f : Nat → Int32) {b b2 : Nat} (h : b % 128 = b2 % 128) : ∀ n, ksA f b n = ksA f b2 n := by
  intro n
  induction n with
  | zero => rfl
  | succ n ih =>
    rw [ksA_s, ksA_s, ih, show (b + n) % 128 = (b2 + n) % 128 by omega]
theorem ksA_add (f : Nat → Int32) (b m : Nat) : ∀ n, ksA f b (m + n) = ksA f b m * 2 ^ n + ksA f (b + m) n := by
  intro n
  induction n with
  | zero =>
    show ksA f b m = ksA f b m * 1 + 0
    omega
  | succ n ih =>
    rw [← Nat.add_assoc, ksA_s, ksA_s, ih, Nat.pow_succ, show b + (m + n) = b + m + n by omega, ← Nat.mul_assoc]
    generalize ksA f b m * 2 ^ n = z
    omega
def kb (i : Nat) : Nat := 25 * (i / 8) + 16 * (i % 8)
def ks (f : Nat → Int32) (i : Nat) : Nat := ksA f (kb i) 16
theorem ks_lt (f : Nat → Int32) (i : Nat) : ks f i < 65536 := ksA_lt f (kb i) 16
theorem ks_lo (f : Nat → Int32) (i : Nat) : ks f i % 128 = ksA f (kb i + 9) 7 := by
  have h := ksA_add f (kb i) 9 7
  have h2 : ksA f (kb i + 9) 7 < 128 := ksA_lt f (kb i + 9) 7
  have e : (2 : Nat) ^ 7 = 128 := rfl
  rw [e] at h
  unfold ks
  rw [show (16 : Nat) = 9 + 7 from rfl, h]
  omega
theorem ks_hi (f : Nat → Int32) (i : Nat) : ks f i / 128 = ksA f (kb i) 9 := by
  have h := ksA_add f (kb i) 9 7
  have h2 : ksA f (kb i + 9) 7 < 128 := ksA_lt f (kb i + 9) 7
  have e : (2 : Nat) ^ 7 = 128 := rfl
  rw [e] at h
  unfold ks
  rw [show (16 : Nat) = 9 + 7 from rfl, h]
  omega
/-- a key out of two of the eight before it -/
theorem ks_rec (f : Nat → Int32) {i a b : Nat} (ha : kb i % 128 = (kb a + 9) % 128) (hb : (kb i + 7) % 128 = kb b % 128) : ks f i = ks f a % 128 * 512 + ks f b / 128 := by
  have h := ksA_add f (kb i) 7 9
  have e : (2 : Nat) ^ 9 = 512 := rfl
  rw [e] at h
  rw [ks_lo, ks_hi, ← ksA_mod f ha, ← ksA_mod f hb]
  unfold ks
  rw [show (16 : Nat) = 7 + 9 from rfl, h]
theorem ks_r5 (f : Nat → Int32) {i : Nat} (h8 : 8 ≤ i) (h : i % 8 < 6) : ks f i = ks f (i - 7) % 128 * 512 + ks f (i - 6) / 128 := by
  have h1 : (i - 7) / 8 = i / 8 - 1 := by omega
  have h2 : (i - 7) % 8 = i % 8 + 1 := by omega
  have h3 : (i - 6) / 8 = i / 8 - 1 := by omega
  have h4 : (i - 6) % 8 = i % 8 + 2 := by omega
  have h5 : 1 ≤ i / 8 := by omega
  refine ks_rec f ?_ ?_
  · unfold kb
    rw [h1, h2]
    omega
  · unfold kb
    rw [h3, h4]
    omega
theorem ks_r6 (f : Nat → Int32) {i : Nat} (h8 : 14 ≤ i) (h : i % 8 = 6) : ks f i = ks f (i - 7) % 128 * 512 + ks f (i - 14) / 128 := by
  refine ks_rec f ?_ ?_ <;> (unfold kb; omega)
theorem ks_r7 (f : Nat → Int32) {i : Nat} (h8 : 15 ≤ i) (h : i % 8 = 7) : ks f i = ks f (i - 15) % 128 * 512 + ks f (i - 14) / 128 := by
  refine ks_rec f ?_ ?_ <;> (unfold kb; omega)
theorem bitS_a (f : Nat → Int32) {i : Nat} (n : Nat) (hi : i < 8) (hn : n < 8) : bitS f ((16 * i + n) % 128) = by8 (f (2 * i)) / 2 ^ (7 - n) % 2 := by
  unfold bitS
  rw [show (16 * i + n) % 128 / 8 = 2 * i by omega, show (16 * i + n) % 128 % 8 = n by omega]
theorem bitS_b (f : Nat → Int32) {i : Nat} (n : Nat) (hi : i < 8) (hn : n < 8) : bitS f ((16 * i + (8 + n)) % 128) = by8 (f (2 * i + 1)) / 2 ^ (7 - n) % 2 := by
  unfold bitS
  rw [show (16 * i + (8 + n)) % 128 / 8 = 2 * i + 1 by omega, show (16 * i + (8 + n)) % 128 % 8 = n by omega]
theorem ks_8 (f : Nat → Int32) {i : Nat} (hi : i < 8) : ks f i = wd f (2 * i) := by
  have ek : kb i = 16 * i := by
    unfold kb
    omega
  have a0 : bitS f ((16 * i + 0) % 128) = by8 (f (2 * i)) / 128 % 2 := bitS_a f 0 hi (by decide)
  have a1 : bitS f ((16 * i + 1) % 128) = by8 (f (2 * i)) / 64 % 2 := bitS_a f 1 hi (by decide)
  have a2 : bitS f ((16 * i + 2) % 128) = by8 (f (2 * i)) / 32 % 2 := bitS_a f 2 hi (by decide)
  have a3 : bitS f ((16 * i + 3) % 128) = by8 (f (2 * i)) / 16 % 2 := bitS_a f 3 hi (by decide)
  have a4 : bitS f ((16 * i + 4) % 128) = by8 (f (2 * i)) / 8 % 2 := bitS_a f 4 hi (by decide)
  have a5 : bitS f ((16 * i + 5) % 128) = by8 (f (2 * i)) / 4 % 2 := bitS_a f 5 hi (by decide)
  have a6 : bitS f ((16 * i + 6) % 128) = by8 (f (2 * i)) / 2 % 2 := bitS_a f 6 hi (by decide)
  have a7 : bitS f ((16 * i + 7) % 128) = by8 (f (2 * i)) / 1 % 2 := bitS_a f 7 hi (by decide)
  have b0 : bitS f ((16 * i + 8) % 128) = by8 (f (2 * i + 1)) / 128 % 2 := bitS_b f 0 hi (by decide)
  have b1 : bitS f ((16 * i + 9) % 128) = by8 (f (2 * i + 1)) / 64 % 2 := bitS_b f 1 hi (by decide)
  have b2 : bitS f ((16 * i + 10) % 128) = by8 (f (2 * i + 1)) / 32 % 2 := bitS_b f 2 hi (by decide)
  have b3 : bitS f ((16 * i + 11) % 128) = by8 (f (2 * i + 1)) / 16 % 2 := bitS_b f 3 hi (by decide)
  have b4 : bitS f ((16 * i + 12) % 128) = by8 (f (2 * i + 1)) / 8 % 2 := bitS_b f 4 hi (by decide)
  have b5 : bitS f ((16 * i + 13) % 128) = by8 (f (2 * i + 1)) / 4 % 2 := bitS_b f 5 hi (by decide)
  have b6 : bitS f ((16 * i + 14) % 128) = by8 (f (2 * i + 1)) / 2 % 2 := bitS_b f 6 hi (by decide)
  have b7 : bitS f ((16 * i + 15) % 128) = by8 (f (2 * i + 1)) / 1 % 2 := bitS_b f 7 hi (by decide)
  have hz : ksA f (16 * i) 0 = 0 := rfl
  have s0 := ksA_s f (16 * i) 0
  have s1 := ksA_s f (16 * i) 1
  have s2 := ksA_s f (16 * i) 2
  have s3 := ksA_s f (16 * i) 3
  have s4 := ksA_s f (16 * i) 4
  have s5 := ksA_s f (16 * i) 5
  have s6 := ksA_s f (16 * i) 6
  have s7 := ksA_s f (16 * i) 7
  have s8 := ksA_s f (16 * i) 8
  have s9 := ksA_s f (16 * i) 9
  have s10 := ksA_s f (16 * i) 10
  have s11 := ksA_s f (16 * i) 11
  have s12 := ksA_s f (16 * i) 12
  have s13 := ksA_s f (16 * i) 13
  have s14 := ksA_s f (16 * i) 14
  have s15 := ksA_s f (16 * i) 15
  rw [a0, hz] at s0
  rw [a1, s0] at s1
  rw [a2, s1] at s2
  rw [a3, s2] at s3
  rw [a4, s3] at s4
  rw [a5, s4] at s5
  rw [a6, s5] at s6
  rw [a7, s6] at s7
  have hX := by8_lt (f (2 * i))
  have hY := by8_lt (f (2 * i + 1))
  have e8 : ksA f (16 * i) (7 + 1) = by8 (f (2 * i)) := by
    rw [s7]
    generalize by8 (f (2 * i)) = X at *
    clear s0 s1 s2 s3 s4 s5 s6 s7 s8 s9 s10 s11 s12 s13 s14 s15 a0 a1 a2 a3 a4 a5 a6 a7
    omega
  rw [b0, e8] at s8
  rw [b1, s8] at s9
  rw [b2, s9] at s10
  rw [b3, s10] at s11
  rw [b4, s11] at s12
  rw [b5, s12] at s13
  rw [b6, s13] at s14
  rw [b7, s14] at s15
  unfold ks wd
  rw [ek]
  refine Eq.trans s15 ?_
  generalize by8 (f (2 * i)) = X at *
  generalize by8 (f (2 * i + 1)) = Y at *
  clear s0 s1 s2 s3 s4 s5 s6 s7 s8 s9 s10 s11 s12 s13 s14 s15 a0 a1 a2 a3 a4 a5 a6 a7 b0 b1 b2 b3 b4 b5 b6 b7 e8
  omega
theorem ksA_congr {f g : Nat → Int32} (h : ∀ j, j < 16 → by8 (f j) = by8 (g j)) (b : Nat) : ∀ n, ksA f b n = ksA g b n := by
  intro n
  induction n with
  | zero => rfl
  | succ n ih =>
    have e : bitS f ((b + n) % 128) = bitS g ((b + n) % 128) := by
      unfold bitS
      rw [h _ (by omega)]
    rw [ksA_s, ksA_s, ih, e]
theorem ks_congr {f g : Nat → Int32} (h : ∀ j, j < 16 → by8 (f j) = by8 (g j)) : ks f = ks g := funext fun i => ksA_congr h (kb i) 16
/-- the engine's step, as numbers -/
theorem im_join {a b : Nat} (ha : a < 65536) (hb : b < 65536) : ((nI a &&& nI 127) <<< (nI 9 &&& 31) ||| nI b >>> (nI 7 &&& 31)) &&& 65535 = nI (a % 128 * 512 + b / 128) := by
  have h1 : nI a &&& nI 127 = nI (a % 128) := pk_andN (by omega) (m := nI 127) 7 (by decide)
  have h2 : nI (a % 128) <<< (nI 9 &&& 31) = nI (a % 128 * 512) := pk_shlN _ 9 (by decide) (show a % 128 * 2 ^ 9 < 2 ^ 32 by omega)
  have h3 : nI b >>> (nI 7 &&& 31) = nI (b / 128) := pk_shrN (by omega) _ 7 (by decide)
  have h4 := fa_or_sum (a := b / 128) (k := 9) (a % 128) (show b / 128 < 2 ^ 9 by omega)
  rw [h1, h2, h3, Nat.mul_comm (a % 128) 512]
  have e : (2 : Nat) ^ 9 = 512 := rfl
  rw [e] at h4
  rw [h4, nx_mod]
  congr 1
  omega
/-- the reference's step -/
theorem im_push {v b : Nat} (hv : v < 32768) (hb : b < 2) : nI v <<< (nI 1 &&& 31) ||| nI b = nI (2 * v + b) := by
  have h2 : nI v <<< (nI 1 &&& 31) = nI (v * 2) := pk_shlN _ 1 (by decide) (show v * 2 ^ 1 < 2 ^ 32 by omega)
  have h4 := fa_or_sum (a := b) (k := 1) v (show b < 2 ^ 1 by omega)
  have e : (2 : Nat) ^ 1 = 2 := rfl
  rw [e] at h4
  rw [h2, Nat.mul_comm v 2, h4]
/-- a word of two bytes, as each side reads it -/
theorem im_wdE (f : Nat → Int32) (i : Nat) : (f i <<< (nI 8 &&& 31) &&& 65280) + (f (i + 1) &&& nI 255) = nI (wd f i) := by
  rw [by8_hi, show nI 255 = (255 : Int32) from rfl, by8_and, nI_add]
  rfl
theorem im_wdM (f : Nat → Int32) (i : Nat) : (f i &&& nI 255) <<< (nI 8 &&& 31) ||| (f (i + 1) &&& nI 255) = nI (wd f i) := by
  have h1 := by8_lt (f i)
  have h2 : nI (by8 (f i)) <<< (nI 8 &&& 31) = nI (by8 (f i) * 256) := pk_shlN _ 8 (by decide) (show by8 (f i) * 2 ^ 8 < 2 ^ 32 by omega)
  have h4 := fa_or_sum (a := by8 (f (i + 1))) (k := 8) (by8 (f i)) (by8_lt (f (i + 1)))
  have e : (2 : Nat) ^ 8 = 256 := rfl
  rw [e] at h4
  rw [show nI 255 = (255 : Int32) from rfl, by8_and, by8_and, h2, Nat.mul_comm (by8 (f i)) 256, h4, Nat.mul_comm 256]
  rfl
/-! ===== the keys that undo ===== -/
noncomputable def undo (K : Nat → Nat) (i : Nat) : Nat :=
  if i % 6 = 0 then invS (K (48 - 6 * (i / 6)))
  else if i % 6 = 1 then negS (K (48 - 6 * (i / 6) + (if i / 6 = 0 ∨ i / 6 = 8 then 1 else 2)))
  else if i % 6 = 2 then negS (K (48 - 6 * (i / 6) + (if i / 6 = 0 ∨ i / 6 = 8 then 2 else 1)))
  else if i % 6 = 3 then invS (K (48 - 6 * (i / 6) + 3))
  else if i % 6 = 4 then K (48 - 6 * (i / 6) - 2)
  else K (48 - 6 * (i / 6) - 1)
theorem undo_lt {K : Nat → Nat} (h : ∀ i, K i < 65536) (i : Nat) : undo K i < 65536 := by
  unfold undo
  split
  · exact invS_lt _
  split
  · exact negS_lt _
  split
  · exact negS_lt _
  split
  · exact invS_lt _
  split
  · exact h _
  · exact h _
theorem undo_0 (K : Nat → Nat) (r : Nat) : undo K (6 * r) = invS (K (48 - 6 * r)) := by
  unfold undo
  rw [if_pos (by omega), show 6 * r / 6 = r by omega]
theorem undo_1 (K : Nat → Nat) (r : Nat) : undo K (6 * r + 1) = negS (K (48 - 6 * r + (if r = 0 ∨ r = 8 then 1 else 2))) := by
  unfold undo
  rw [if_neg (by omega), if_pos (by omega), show (6 * r + 1) / 6 = r by omega]
theorem undo_2 (K : Nat → Nat) (r : Nat) : undo K (6 * r + 2) = negS (K (48 - 6 * r + (if r = 0 ∨ r = 8 then 2 else 1))) := by
  unfold undo
  rw [if_neg (by omega), if_neg (by omega), if_pos (by omega), show (6 * r + 2) / 6 = r by omega]
theorem undo_3 (K : Nat → Nat) (r : Nat) : undo K (6 * r + 3) = invS (K (48 - 6 * r + 3)) := by
  unfold undo
  rw [if_neg (by omega), if_neg (by omega), if_neg (by omega), if_pos (by omega), show (6 * r + 3) / 6 = r by omega]
theorem undo_4 (K : Nat → Nat) (r : Nat) : undo K (6 * r + 4) = K (48 - 6 * r - 2) := by
  unfold undo
  rw [if_neg (by omega), if_neg (by omega), if_neg (by omega), if_neg (by omega), if_pos (by omega), show (6 * r + 4) / 6 = r by omega]
theorem undo_5 (K : Nat → Nat) (r : Nat) : undo K (6 * r + 5) = K (48 - 6 * r - 1) := by
  unfold undo
  rw [if_neg (by omega), if_neg (by omega), if_neg (by omega), if_neg (by omega), if_neg (by omega), show (6 * r + 5) / 6 = r by omega]
/-! ===== the rounds ===== -/
def rnd (K : Nat → Nat) (o : Nat) (v : Nat × Nat × Nat × Nat) : Nat × Nat × Nat × Nat :=
  match v with
  | (a, b, c, d) =>
    (mulS a (K o) ^^^ mulS (((((b + K (o + 1)) % 65536) ^^^ mulS d (K (o + 3))) + mulS (mulS a (K o) ^^^ ((c + K (o + 2)) % 65536)) (K (o + 4))) % 65536) (K (o + 5)),
     ((c + K (o + 2)) % 65536) ^^^ mulS (((((b + K (o + 1)) % 65536) ^^^ mulS d (K (o + 3))) + mulS (mulS a (K o) ^^^ ((c + K (o + 2)) % 65536)) (K (o + 4))) % 65536) (K (o + 5)),
     ((b + K (o + 1)) % 65536) ^^^ ((mulS (mulS a (K o) ^^^ ((c + K (o + 2)) % 65536)) (K (o + 4)) + mulS (((((b + K (o + 1)) % 65536) ^^^ mulS d (K (o + 3))) + mulS (mulS a (K o) ^^^ ((c + K (o + 2)) % 65536)) (K (o + 4))) % 65536) (K (o + 5))) % 65536),
     mulS d (K (o + 3)) ^^^ ((mulS (mulS a (K o) ^^^ ((c + K (o + 2)) % 65536)) (K (o + 4)) + mulS (((((b + K (o + 1)) % 65536) ^^^ mulS d (K (o + 3))) + mulS (mulS a (K o) ^^^ ((c + K (o + 2)) % 65536)) (K (o + 4))) % 65536) (K (o + 5))) % 65536))
theorem rnd_eq {K : Nat → Nat} {o a b c d a1 b1 c1 d1 p0 q p1 : Nat} (ha : a1 = mulS a (K o)) (hb : b1 = (b + K (o + 1)) % 65536) (hc : c1 = (c + K (o + 2)) % 65536) (hd : d1 = mulS d (K (o + 3))) (hp : p0 = mulS (a1 ^^^ c1) (K (o + 4))) (hq : q = mulS (((b1 ^^^ d1) + p0) % 65536) (K (o + 5))) (hp1 : p1 = (p0 + q) % 65536) : rnd K o (a, b, c, d) = (a1 ^^^ q, c1 ^^^ q, b1 ^^^ p1, d1 ^^^ p1) := by
  subst hp1 hq hp ha hb hc hd
  rfl
def rnds (K : Nat → Nat) (v : Nat × Nat × Nat × Nat) : Nat → Nat × Nat × Nat × Nat
  | 0 => v
  | n + 1 => rnd K (6 * n) (rnds K v n)
theorem rnds_s (K : Nat → Nat) (v : Nat × Nat × Nat × Nat) (n : Nat) : rnds K v (n + 1) = rnd K (6 * n) (rnds K v n) := rfl
def v0 (b : Nat → Int32) : Nat × Nat × Nat × Nat := (wd b 0, wd b 2, wd b 4, wd b 6)
/-- the four words that come out -/
def fin4 (K : Nat → Nat) (v : Nat × Nat × Nat × Nat) : Nat × Nat × Nat × Nat := (mulS v.1 (K 48), (v.2.2.1 + K 49) % 65536, (v.2.1 + K 50) % 65536, mulS v.2.2.2 (K 51))
def enc (K : Nat → Nat) (b : Nat → Int32) : Nat × Nat × Nat × Nat := fin4 K (rnds K (v0 b) 8)
/-- a word written as two bytes -/
def wr2 (g : Nat → Int32) (i w : Nat) : Nat → Int32 := upd (upd g i (b8 (w / 256))) (i + 1) (b8 w)
theorem wr2_mod (g : Nat → Int32) (i w : Nat) : wr2 g i (w % 65536) = wr2 g i w := by
  unfold wr2
  rw [b8_congr (show w % 65536 / 256 % 256 = w / 256 % 256 by omega), b8_congr (show w % 65536 % 256 = w % 256 by omega)]
def put4 (g : Nat → Int32) (w : Nat × Nat × Nat × Nat) : Nat → Int32 := wr2 (wr2 (wr2 (wr2 g 0 w.1) 2 w.2.1) 4 w.2.2.1) 6 w.2.2.2
def outS (K : Nat → Nat) (b g : Nat → Int32) : Nat → Int32 := put4 g (enc K b)
/-- the keys that one call uses -/
noncomputable def keyB (b : Nat) (f : Nat → Int32) : Nat → Nat := if b = 0 then undo (ks f) else ks f
theorem keyB_lt (b : Nat) (f : Nat → Int32) (i : Nat) : keyB b f i < 65536 := by
  unfold keyB
  split
  · exact undo_lt (ks_lt f) i
  · exact ks_lt f i
/-! ===== the desk's own bytes ===== -/
def bw (w : Int32) (k : Nat) : Int32 := (w >>> (nI (24 - 8 * k) &&& 31)).toInt8.toInt32
def wrN (g : Nat → Int32) (i : Nat) (w : Int32) : Nat → Nat → Int32
  | 0 => g
  | n + 1 => upd (wrN g i w n) (i + n) (bw w n)
theorem wrN_s (g : Nat → Int32) (i : Nat) (w : Int32) (n : Nat) : wrN g i w (n + 1) = upd (wrN g i w n) (i + n) (bw w n) := rfl
def wr4 (g : Nat → Int32) (i : Nat) (w : Int32) : Nat → Int32 := wrN g i w 4
def keyW (g : Nat → Int32) (h a b c d : Int32) : Nat → Int32 :=
  wr4 (wr4 (wr4 (wr4 g (16 * (h.toBitVec.toNat % 2)) a) (16 * (h.toBitVec.toNat % 2) + 4) b) (16 * (h.toBitVec.toNat % 2) + 8) c) (16 * (h.toBitVec.toNat % 2) + 12) d
def blkW (g : Nat → Int32) (a b : Int32) : Nat → Int32 := wr4 (wr4 g 0 a) 4 b
def cpN (b o : Nat → Int32) : Nat → Nat → Int32
  | 0 => b
  | n + 1 => upd (cpN b o n) n (vp_nar .byte (o n))
theorem cpN_s (b o : Nat → Int32) (n : Nat) : cpN b o (n + 1) = upd (cpN b o n) n (vp_nar .byte (o n)) := rfl
theorem cpN_at (b o : Nat → Int32) : ∀ n j, j < n → cpN b o n j = vp_nar .byte (o j) := by
  intro n
  induction n with
  | zero => intro j h; omega
  | succ n ih =>
    intro j h
    rw [cpN_s]
    by_cases e : j = n
    · rw [e, pk_us]
    · rw [pk_un e]
      exact ih j (by omega)
/-- the reference's bytes out, one by one -/
def wsel (w : Nat × Nat × Nat × Nat) (k : Nat) : Nat := if k = 0 then w.1 else if k = 1 then w.2.1 else if k = 2 then w.2.2.1 else w.2.2.2
def obS (x n : Nat) : Int32 := if n % 2 = 0 then b8 (x / 256) else b8 x
theorem obS_eq {x : Nat} (n : Nat) (hx : x < 65536) : (nI x >>> (nI (8 - 8 * (n % 2)) &&& 31)).toInt8.toInt32 = obS x n := by
  unfold obS
  by_cases h : n % 2 = 0
  · rw [if_pos h, h]
    have e : nI x >>> (nI (8 - 8 * 0) &&& 31) = nI (x / 256) := pk_shrN (by omega) _ 8 (by decide)
    rw [e]
    rfl
  · rw [if_neg h, show n % 2 = 1 by omega]
    have e : nI x >>> (nI (8 - 8 * 1) &&& 31) = nI x := sb_shr0 (nI x)
    rw [e]
    rfl
def ouN (w : Nat × Nat × Nat × Nat) (g : Nat → Int32) : Nat → Nat → Int32
  | 0 => g
  | n + 1 => upd (ouN w g n) n (obS (wsel w (n / 2)) n)
theorem ouN_s (w : Nat × Nat × Nat × Nat) (g : Nat → Int32) (n : Nat) : ouN w g (n + 1) = upd (ouN w g n) n (obS (wsel w (n / 2)) n) := rfl
theorem ouN_8 (w : Nat × Nat × Nat × Nat) (g : Nat → Int32) : ouN w g 8 = put4 g w := rfl
end
section
/-! ROWS OF MY OWN OVER THE KIT: values by the naturals behind them, stores that name the new contents, loops -/
section IM
variable {p : Program} {l : Launch} {e : Env} {R : Room} {s : State} {m : MethodId} {args : Array Value} {below : List Frame} {meth : Method} {c : Code} {H : Heap} {locs : List Loc} {cells slots : Nat} {Q : State → Prop}
variable {cc : ByteArray} {pc : Nat} {ls : Array Slot} {rest : List Value} {D : va_G} {cl : List vw_C} {A : Nat → Prop} {a : Nat} {tys : List (ClassId × FieldType)} {ws : va_W} {H0 : Heap}
/-- the value on top is another way to write it -/
theorem im_top {x y : Int32} (h : x = y) (k : W p l e R s m args below meth c H locs cells slots Q (F0 m pc ls (.int y :: rest))) : W p l e R s m args below meth c H locs cells slots Q (F0 m pc ls (.int x :: rest)) := h ▸ k
theorem im_topl {x y : Int64} (h : x = y) (k : W p l e R s m args below meth c H locs cells slots Q (F0 m pc ls (.long y :: rest))) : W p l e R s m args below meth c H locs cells slots Q (F0 m pc ls (.long x :: rest)) := h ▸ k
theorem im_iald (hexec : p.tables.exec = Jvm.exec) (hb : c.code = cc) (hK : va_K D cl tys s) (hP : va_P D cl ws H) (q0 t0 : Nat) {cA : ClassId} {n : Nat} {f : Nat → Int32} (ha : ws[q0]? = some (a, .inl (cA, n, .inl f))) (ht : tys[t0]? = some (cA, .int)) {i : Nat} (hi : i < n) (hn : n < 2 ^ 31) {v : Int32} (hv : f i = v) (hdg : decode cc pc = .ok (.iaload, 1))
    (kk : W p l e R s m args below meth c H locs cells slots Q (F0 m (pc + 1) ls (.int v :: rest))) : W p l e R s m args below meth c H locs cells slots Q (F0 m pc ls (.int (nI i) :: .ref a :: rest)) := by
  refine va_iald hexec hb hK hP q0 t0 ha ht (vp_in_nI hi hn) hdg ?_
  rw [nI_clamp (Nat.lt_trans hi hn), hv]
  exact kk
theorem im_bald (hexec : p.tables.exec = Jvm.exec) (hb : c.code = cc) (hK : va_K D cl tys s) (hP : va_P D cl ws H) (q0 t0 : Nat) {cA : ClassId} {n : Nat} {f : Nat → Int32} (ha : ws[q0]? = some (a, .inl (cA, n, .inl f))) (ht : tys[t0]? = some (cA, .byte)) {i : Nat} (hi : i < n) (hn : n < 2 ^ 31) {v : Int32} (hv : f i = v) (hdg : decode cc pc = .ok (.baload, 1))
    (kk : W p l e R s m args below meth c H locs cells slots Q (F0 m (pc + 1) ls (.int v :: rest))) : W p l e R s m args below meth c H locs cells slots Q (F0 m pc ls (.int (nI i) :: .ref a :: rest)) := by
  refine va_bald hexec hb hK hP q0 t0 ha ht (vp_in_nI hi hn) hdg ?_
  rw [nI_clamp (Nat.lt_trans hi hn), hv]
  exact kk
theorem im_zald (hexec : p.tables.exec = Jvm.exec) (hb : c.code = cc) (hK : va_K D cl tys s) (hP : va_P D cl ws H) (q0 t0 : Nat) {cA : ClassId} {n : Nat} {f : Nat → Int32} (ha : ws[q0]? = some (a, .inl (cA, n, .inl f))) (ht : tys[t0]? = some (cA, .boolean)) {i : Nat} (hi : i < n) (hn : n < 2 ^ 31) {v : Int32} (hv : f i = v) (hdg : decode cc pc = .ok (.baload, 1))
    (kk : W p l e R s m args below meth c H locs cells slots Q (F0 m (pc + 1) ls (.int v :: rest))) : W p l e R s m args below meth c H locs cells slots Q (F0 m pc ls (.int (nI i) :: .ref a :: rest)) := by
  refine va_zald hexec hb hK hP q0 t0 ha ht (vp_in_nI hi hn) hdg ?_
  rw [nI_clamp (Nat.lt_trans hi hn), hv]
  exact kk
theorem im_iast (hexec : p.tables.exec = Jvm.exec) (hb : c.code = cc) (hK : va_K D cl tys s) (hP : va_P D cl ws H) (hD : va_D A ws) (hS : va_S A H0 H locs) (q0 t0 : Nat) {cA : ClassId} {n : Nat} {f : Nat → Int32} (ha : ws[q0]? = some (a, .inl (cA, n, .inl f))) (ht : tys[t0]? = some (cA, .int)) {i : Nat} {x : Int32} (hi : i < n) (hn : n < 2 ^ 31) (hdg : decode cc pc = .ok (.iastore, 1))
    (kk : ∀ (g : Nat → Int32) (H1 : Heap) (locs1 : List Loc), g = upd f i x → va_P D cl (ws.set q0 (a, .inl (cA, n, .inl g))) H1 → va_D A (ws.set q0 (a, .inl (cA, n, .inl g))) → va_S A H0 H1 locs1 → W p l e R s m args below meth c H1 locs1 cells slots Q (F0 m (pc + 1) ls rest)) : W p l e R s m args below meth c H locs cells slots Q (F0 m pc ls (.int x :: .int (nI i) :: .ref a :: rest)) := by
  refine va_iast hexec hb hK hP hD hS q0 t0 ha ht (vp_in_nI hi hn) hdg (fun H1 locs1 h1 h2 h3 => ?_)
  rw [nI_clamp (Nat.lt_trans hi hn)] at h1 h2
  exact kk _ H1 locs1 rfl h1 h2 h3
theorem im_bast (hexec : p.tables.exec = Jvm.exec) (hb : c.code = cc) (hK : va_K D cl tys s) (hP : va_P D cl ws H) (hD : va_D A ws) (hS : va_S A H0 H locs) (q0 t0 : Nat) {cA : ClassId} {n : Nat} {f : Nat → Int32} (ha : ws[q0]? = some (a, .inl (cA, n, .inl f))) (ht : tys[t0]? = some (cA, .byte)) {i : Nat} {x y : Int32} (hi : i < n) (hn : n < 2 ^ 31) (hy : vp_nar .byte x = y) (hdg : decode cc pc = .ok (.bastore, 1))
    (kk : ∀ (g : Nat → Int32) (H1 : Heap) (locs1 : List Loc), g = upd f i y → va_P D cl (ws.set q0 (a, .inl (cA, n, .inl g))) H1 → va_D A (ws.set q0 (a, .inl (cA, n, .inl g))) → va_S A H0 H1 locs1 → W p l e R s m args below meth c H1 locs1 cells slots Q (F0 m (pc + 1) ls rest)) : W p l e R s m args below meth c H locs cells slots Q (F0 m pc ls (.int x :: .int (nI i) :: .ref a :: rest)) := by
  subst hy
  refine va_bast hexec hb hK hP hD hS q0 t0 ha ht (vp_in_nI hi hn) hdg (fun H1 locs1 h1 h2 h3 => ?_)
  rw [nI_clamp (Nat.lt_trans hi hn)] at h1 h2
  exact kk _ H1 locs1 rfl h1 h2 h3
theorem im_zast (hexec : p.tables.exec = Jvm.exec) (hb : c.code = cc) (hK : va_K D cl tys s) (hP : va_P D cl ws H) (hD : va_D A ws) (hS : va_S A H0 H locs) (q0 t0 : Nat) {cA : ClassId} {n : Nat} {f : Nat → Int32} (ha : ws[q0]? = some (a, .inl (cA, n, .inl f))) (ht : tys[t0]? = some (cA, .boolean)) {i : Nat} {x y : Int32} (hi : i < n) (hn : n < 2 ^ 31) (hy : vp_nar .boolean x = y) (hdg : decode cc pc = .ok (.bastore, 1))
    (kk : ∀ (g : Nat → Int32) (H1 : Heap) (locs1 : List Loc), g = upd f i y → va_P D cl (ws.set q0 (a, .inl (cA, n, .inl g))) H1 → va_D A (ws.set q0 (a, .inl (cA, n, .inl g))) → va_S A H0 H1 locs1 → W p l e R s m args below meth c H1 locs1 cells slots Q (F0 m (pc + 1) ls rest)) : W p l e R s m args below meth c H locs cells slots Q (F0 m pc ls (.int x :: .int (nI i) :: .ref a :: rest)) := by
  subst hy
  refine va_zast hexec hb hK hP hD hS q0 t0 ha ht (vp_in_nI hi hn) hdg (fun H1 locs1 h1 h2 h3 => ?_)
  rw [nI_clamp (Nat.lt_trans hi hn)] at h1 h2
  exact kk _ H1 locs1 rfl h1 h2 h3
/-- a loop, by a number that falls -/
theorem im_loop (I : Nat → Heap → List Loc → Array Slot → Prop)
    (h0 : ∀ (H : Heap) (locs : List Loc) (ls : Array Slot), I 0 H locs ls → W p l e R s m args below meth c H locs cells slots Q (F0 m pc ls rest))
    (hs : ∀ (n : Nat), (∀ (H : Heap) (locs : List Loc) (ls : Array Slot), I n H locs ls → W p l e R s m args below meth c H locs cells slots Q (F0 m pc ls rest)) → ∀ (H : Heap) (locs : List Loc) (ls : Array Slot), I (n + 1) H locs ls → W p l e R s m args below meth c H locs cells slots Q (F0 m pc ls rest))
    (n : Nat) : ∀ (H : Heap) (locs : List Loc) (ls : Array Slot), I n H locs ls → W p l e R s m args below meth c H locs cells slots Q (F0 m pc ls rest) := by
  induction n with
  | zero => exact h0
  | succ n ih => exact hs n ih
end IM
/-! what a contract asks and gives, in short words -/
def im_Pw (D : va_G) (cl : List vw_C) (ws : va_W) (tys : List (ClassId × FieldType)) (sz : Nat) : State → Prop := fun U => U.heap.size = sz ∧ va_P D cl ws U.heap ∧ va_K D cl tys U ∧ va_D (fun _ => True) ws
theorem im_Pw.blind {av : List Value} {D : va_G} {cl : List vw_C} {ws : va_W} {tys : List (ClassId × FieldType)} {sz : Nat} : FrameBlind (va_Pc av (im_Pw D cl ws tys sz)) := by
  intro a U g mk q
  obtain ⟨q0, q1, qP, qK, qD⟩ := q
  exact ⟨q0, q1, qP, va_K.moved (u := U) (U := U.calling g mk a) (Vm.Alike.refl U.vm) qK, qD⟩
theorem im_Pw.of {s : State} {H : Heap} {A : Nat → Prop} {av : List Value} {D : va_G} {cl : List vw_C} {ws : va_W} {tys : List (ClassId × FieldType)} (hP : va_P D cl ws H) (hK : va_K D cl tys s) (hD : va_D A ws) : ∀ U : State, U.heap = H → s.WarmedH U.vm → va_Pc av (im_Pw D cl ws tys H.size) av.toArray U :=
  fun U hU hW => ⟨rfl, by rw [hU], by rw [hU]; exact hP, va_K.moved hW.alike hK, hD.weaken (fun _ _ _ _ => trivial)⟩
/-- a method that only reads: the cells that it reads -/
def im_Pr (D : va_G) (cl : List vw_C) (ws : va_W) (tys : List (ClassId × FieldType)) : State → Prop := fun U => va_P D cl ws U.heap ∧ va_K D cl tys U
theorem im_Pr.blind {av : List Value} {D : va_G} {cl : List vw_C} {ws : va_W} {tys : List (ClassId × FieldType)} : FrameBlind (va_Pc av (im_Pr D cl ws tys)) := by
  intro a U g mk q
  obtain ⟨q0, qP, qK⟩ := q
  exact ⟨q0, qP, va_K.moved (u := U) (U := U.calling g mk a) (Vm.Alike.refl U.vm) qK⟩
theorem im_Pr.of {s : State} {H : Heap} {av : List Value} {D : va_G} {cl : List vw_C} {ws : va_W} {tys : List (ClassId × FieldType)} (hP : va_P D cl ws H) (hK : va_K D cl tys s) : ∀ U : State, U.heap = H → s.WarmedH U.vm → va_Pc av (im_Pr D cl ws tys) av.toArray U :=
  fun U hU hW => ⟨rfl, by rw [hU]; exact hP, va_K.moved hW.alike hK⟩
/-- a method that looks at no cell -/
def im_P0 : State → Prop := fun _ => True
theorem im_P0.blind {av : List Value} : FrameBlind (va_Pc av im_P0) := fun _ _ _ _ q => q
theorem im_P0.of {s : State} {H : Heap} {av : List Value} : ∀ U : State, U.heap = H → s.WarmedH U.vm → va_Pc av im_P0 av.toArray U := fun _ _ _ => ⟨rfl, trivial⟩
/-- the world behind a method: its cells hold w u -/
def im_B {S : Type} (D : va_G) (cl : List vw_C) (A : Nat → Prop) (w : S → va_W) (u : S) (t : State) : Prop := va_P D cl (w u) t.heap ∧ va_D A (w u)
end
section
-- ===== PART A: goes FIRST, ahead of the names: the tables' words, and 'selects' of the private methods out of them =====
/-- a private method of a class that the tables say can be made, by its rows of tables_1 -/
def lw_okq (q : MethodName × Nat) : Prop := (q.1.cls ≠ "java/lang/invoke/MethodHandle" ∧ q.1.cls ≠ "java/lang/invoke/VarHandle") ∧ Cond.instantiable q.1.cls q.2 ∈ tables_1 ∧ Cond.privateMethod q.1 ∈ tables_1 ∧ Cond.instanceMethod q.1 ∈ tables_1
set_option maxRecDepth 100000
theorem lw_t1 {w : Cond} (h : w ∈ tables_1_1) : w ∈ tables_1 := List.mem_append_left _ h
theorem lw_t2 {w : Cond} (h : w ∈ tables_1_2) : w ∈ tables_1 := List.mem_append_right _ h
theorem lw_p0 : lw_okq (⟨"IdeaDesk", "run", "(ZI)V"⟩, 3) := ⟨⟨by decide +kernel, by decide +kernel⟩, lw_t1 (List.mem_of_getElem? (i := 15) rfl), lw_t1 (List.mem_of_getElem? (i := 49) rfl), lw_t1 (List.mem_of_getElem? (i := 50) rfl)⟩
theorem lw_p1 : lw_okq (⟨"IDEAEngine", "generateWorkingKey", "(Z[B)[I"⟩, 2) := ⟨⟨by decide +kernel, by decide +kernel⟩, lw_t1 (List.mem_of_getElem? (i := 56) rfl), lw_t1 (List.mem_of_getElem? (i := 103) rfl), lw_t1 (List.mem_of_getElem? (i := 104) rfl)⟩
theorem lw_p2 : lw_okq (⟨"IDEAEngine", "expandKey", "([B)[I"⟩, 2) := ⟨⟨by decide +kernel, by decide +kernel⟩, lw_t1 (List.mem_of_getElem? (i := 56) rfl), lw_t1 (List.mem_of_getElem? (i := 107) rfl), lw_t1 (List.mem_of_getElem? (i := 108) rfl)⟩
theorem lw_p3 : lw_okq (⟨"IDEAEngine", "bytesToWord", "([BI)I"⟩, 2) := ⟨⟨by decide +kernel, by decide +kernel⟩, lw_t1 (List.mem_of_getElem? (i := 56) rfl), lw_t1 (List.mem_of_getElem? (i := 112) rfl), lw_t1 (List.mem_of_getElem? (i := 113) rfl)⟩
theorem lw_p4 : lw_okq (⟨"IDEAEngine", "invertKey", "([I)[I"⟩, 2) := ⟨⟨by decide +kernel, by decide +kernel⟩, lw_t1 (List.mem_of_getElem? (i := 56) rfl), lw_t1 (List.mem_of_getElem? (i := 118) rfl), lw_t1 (List.mem_of_getElem? (i := 119) rfl)⟩
theorem lw_p5 : lw_okq (⟨"IDEAEngine", "mulInv", "(I)I"⟩, 2) := ⟨⟨by decide +kernel, by decide +kernel⟩, lw_t1 (List.mem_of_getElem? (i := 56) rfl), lw_t1 (List.mem_of_getElem? (i := 122) rfl), lw_t1 (List.mem_of_getElem? (i := 123) rfl)⟩
theorem lw_p6 : lw_okq (⟨"java/lang/Throwable", "fillInStackTrace", "(I)Ljava/lang/Throwable;"⟩, 6) := ⟨⟨by decide +kernel, by decide +kernel⟩, lw_t1 (List.mem_of_getElem? (i := 170) rfl), lw_t1 (List.mem_of_getElem? (i := 168) rfl), lw_t1 (List.mem_of_getElem? (i := 169) rfl)⟩
theorem lw_p7 : lw_okq (⟨"IDEAEngine", "ideaFunc", "([I[BI[BI)V"⟩, 2) := ⟨⟨by decide +kernel, by decide +kernel⟩, lw_t1 (List.mem_of_getElem? (i := 56) rfl), lw_t2 (List.mem_of_getElem? (i := 22) rfl), lw_t2 (List.mem_of_getElem? (i := 23) rfl)⟩
theorem lw_p8 : lw_okq (⟨"IDEAEngine", "mul", "(II)I"⟩, 2) := ⟨⟨by decide +kernel, by decide +kernel⟩, lw_t1 (List.mem_of_getElem? (i := 56) rfl), lw_t2 (List.mem_of_getElem? (i := 26) rfl), lw_t2 (List.mem_of_getElem? (i := 27) rfl)⟩
theorem lw_p9 : lw_okq (⟨"IDEAEngine", "wordToBytes", "(I[BI)V"⟩, 2) := ⟨⟨by decide +kernel, by decide +kernel⟩, lw_t1 (List.mem_of_getElem? (i := 56) rfl), lw_t2 (List.mem_of_getElem? (i := 30) rfl), lw_t2 (List.mem_of_getElem? (i := 31) rfl)⟩
theorem lw_p10 : lw_okq (⟨"IdeaDeskModel", "keys", "()[I"⟩, 3) := ⟨⟨by decide +kernel, by decide +kernel⟩, lw_t2 (List.mem_of_getElem? (i := 46) rfl), lw_t2 (List.mem_of_getElem? (i := 77) rfl), lw_t2 (List.mem_of_getElem? (i := 78) rfl)⟩
theorem lw_p11 : lw_okq (⟨"IdeaDeskModel", "runs", "([I)V"⟩, 3) := ⟨⟨by decide +kernel, by decide +kernel⟩, lw_t2 (List.mem_of_getElem? (i := 46) rfl), lw_t2 (List.mem_of_getElem? (i := 81) rfl), lw_t2 (List.mem_of_getElem? (i := 82) rfl)⟩
def lw_privs_1 : List (MethodName × Nat) := [(⟨"IdeaDesk", "run", "(ZI)V"⟩, 3), (⟨"IDEAEngine", "generateWorkingKey", "(Z[B)[I"⟩, 2), (⟨"IDEAEngine", "expandKey", "([B)[I"⟩, 2), (⟨"IDEAEngine", "bytesToWord", "([BI)I"⟩, 2), (⟨"IDEAEngine", "invertKey", "([I)[I"⟩, 2), (⟨"IDEAEngine", "mulInv", "(I)I"⟩, 2), (⟨"java/lang/Throwable", "fillInStackTrace", "(I)Ljava/lang/Throwable;"⟩, 6), (⟨"IDEAEngine", "ideaFunc", "([I[BI[BI)V"⟩, 2), (⟨"IDEAEngine", "mul", "(II)I"⟩, 2), (⟨"IDEAEngine", "wordToBytes", "(I[BI)V"⟩, 2), (⟨"IdeaDeskModel", "keys", "()[I"⟩, 3), (⟨"IdeaDeskModel", "runs", "([I)V"⟩, 3)]
theorem lw_r1 : ∀ q ∈ lw_privs_1, lw_okq q := List.forall_mem_cons.mpr ⟨lw_p0, List.forall_mem_cons.mpr ⟨lw_p1, List.forall_mem_cons.mpr ⟨lw_p2, List.forall_mem_cons.mpr ⟨lw_p3, List.forall_mem_cons.mpr ⟨lw_p4, List.forall_mem_cons.mpr ⟨lw_p5, List.forall_mem_cons.mpr ⟨lw_p6, List.forall_mem_cons.mpr ⟨lw_p7, List.forall_mem_cons.mpr ⟨lw_p8, List.forall_mem_cons.mpr ⟨lw_p9, List.forall_mem_cons.mpr ⟨lw_p10, List.forall_mem_cons.mpr ⟨lw_p11, fun _ h => absurd h List.not_mem_nil⟩⟩⟩⟩⟩⟩⟩⟩⟩⟩⟩⟩
def lw_privs : List (MethodName × Nat) := lw_privs_1
def lw_tbl : List Cond := k2_sels lw_privs ++ tables_1
theorem lw_privs_ok : ∀ q ∈ lw_privs, lw_okq q := lw_r1
-- ===== ONE list of words for every method: the tables' words that hold all through a run =====
def lw_all : List Cond := lw_tbl.filter goodWord
/-- a word of the tables by its place: claim/WORDS.tsv -/
theorem lw_w {w : Cond} (i : Nat) (h : lw_tbl[i]? = some w) (g : goodWord w = true) : w ∈ lw_all := List.mem_filter.mpr ⟨List.mem_of_getElem? h, g⟩
theorem lw_all_tbl {w : Cond} (h : w ∈ lw_all) : w ∈ lw_tbl := (List.mem_filter.mp h).1
theorem lw_self : GoodIn lw_all lw_all := fun w h => ⟨h, good_of_word (List.mem_filter.mp h).2⟩
/-- a class's field words, by their places -/
theorem lw_in (ws : List Cond) (ps : List Nat) (hp : ws = ps.filterMap (fun i => lw_tbl[i]?)) (hg : ws.all goodWord = true) : ∀ w ∈ ws, w ∈ lw_all := by
  intro w h
  have h1 := List.all_eq_true.mp hg w h
  rw [hp] at h
  obtain ⟨i, -, hi⟩ := List.mem_filterMap.mp h
  exact lw_w i hi h1
/-- the words of a contract for the method y with code b, L locals, answer r -/
abbrev ws_ (y : MethodName) (b : ByteArray) (L : Nat) (r : Option FieldType) : List Cond := Cond.code y b L r :: lw_all
theorem lw_meth {y : MethodName} {b : ByteArray} {L : Nat} {r : Option FieldType} (h : Cond.code y b L r ∈ lw_all) : GoodIn lw_all (ws_ y b L r) := by
  intro w hw
  rcases List.mem_cons.mp hw with e | e
  · rw [e]
    exact lw_self _ h
  · exact lw_self _ e
theorem lw_app {a c : List Cond} (ha : ∀ w ∈ a, w ∈ lw_all) (hc : GoodIn lw_all c) : GoodIn lw_all (a ++ c) := by
  intro w hw
  rcases List.mem_append.mp hw with e | e
  · exact lw_self w (ha w e)
  · exact hc w e
/-- what a call through an object asks: cwV n hts (lw_V ..) -/
theorem lw_V {own : String} {idx : Nat} {C : String} {y : MethodName} {b : ByteArray} {L : Nat} {r : Option FieldType} (h1 : Cond.methodLink own idx y ∈ lw_all) (h2 : Cond.instanceMethod y ∈ lw_all) (h3 : Cond.selects C y y ∈ lw_all) (h4 : Cond.initialized C ∈ lw_all) (h5 : Cond.code y b L r ∈ lw_all) : GoodIn lw_all (wsV own idx C y (ws_ y b L r)) := by
  refine lw_app ?_ (lw_meth h5)
  intro w hw
  simp only [List.mem_cons, List.not_mem_nil, or_false] at hw
  rcases hw with e | e | e | e
  · rw [e]; exact h1
  · rw [e]; exact h2
  · rw [e]; exact h3
  · rw [e]; exact h4
/-- what a static call asks: va_cwS n hts (lw_S ..) -/
theorem lw_S {own : String} {idx : Nat} {y : MethodName} {b : ByteArray} {L : Nat} {r : Option FieldType} (h1 : Cond.methodLink own idx y ∈ lw_all) (h2 : Cond.static y ∈ lw_all) (h3 : Cond.initialized y.cls ∈ lw_all) (h4 : Cond.code y b L r ∈ lw_all) : GoodIn lw_all (va_wsS own idx y (ws_ y b L r)) := by
  refine lw_app ?_ (lw_meth h4)
  intro w hw
  simp only [List.mem_cons, List.not_mem_nil, or_false] at hw
  rcases hw with e | e | e
  · rw [e]; exact h1
  · rw [e]; exact h2
  · rw [e]; exact h3
/-- the words of a contract for a method WITH HANDLERS (hh: its table) -/
abbrev wsW_ (y : MethodName) (b : ByteArray) (L : Nat) (r : Option FieldType) (hh : List (Nat × Nat × Nat × Nat)) : List Cond := Cond.codeWith y b L r hh :: lw_all
theorem lw_methW {y : MethodName} {b : ByteArray} {L : Nat} {r : Option FieldType} {hh : List (Nat × Nat × Nat × Nat)} (h : Cond.codeWith y b L r hh ∈ lw_all) : GoodIn lw_all (wsW_ y b L r hh) := by
  intro w hw
  rcases List.mem_cons.mp hw with e | e
  · rw [e]
    exact lw_self _ h
  · exact lw_self _ e
/-- any list of words by their places (lw_in), good -/
theorem lw_good {ws : List Cond} (h : ∀ w ∈ ws, w ∈ lw_all) : GoodIn lw_all ws := fun w hw => lw_self w (h w hw)
/-- what a call of a method with handlers asks: vx_cwVW n hts (lw_VW ..), vx_cwSW n hts (lw_SW ..) -/
theorem lw_VW {own : String} {idx : Nat} {C : String} {y : MethodName} {b : ByteArray} {L : Nat} {r : Option FieldType} {hh : List (Nat × Nat × Nat × Nat)} (h1 : Cond.methodLink own idx y ∈ lw_all) (h2 : Cond.instanceMethod y ∈ lw_all) (h3 : Cond.selects C y y ∈ lw_all) (h4 : Cond.initialized C ∈ lw_all) (h5 : Cond.codeWith y b L r hh ∈ lw_all) : GoodIn lw_all (wsV own idx C y (wsW_ y b L r hh)) := by
  refine lw_app ?_ (lw_methW h5)
  intro w hw
  simp only [List.mem_cons, List.not_mem_nil, or_false] at hw
  rcases hw with e | e | e | e
  · rw [e]; exact h1
  · rw [e]; exact h2
  · rw [e]; exact h3
  · rw [e]; exact h4
theorem lw_SW {own : String} {idx : Nat} {y : MethodName} {b : ByteArray} {L : Nat} {r : Option FieldType} {hh : List (Nat × Nat × Nat × Nat)} (h1 : Cond.methodLink own idx y ∈ lw_all) (h2 : Cond.static y ∈ lw_all) (h3 : Cond.initialized y.cls ∈ lw_all) (h4 : Cond.codeWith y b L r hh ∈ lw_all) : GoodIn lw_all (va_wsS own idx y (wsW_ y b L r hh)) := by
  refine lw_app ?_ (lw_methW h4)
  intro w hw
  simp only [List.mem_cons, List.not_mem_nil, or_false] at hw
  rcases hw with e | e | e
  · rw [e]; exact h1
  · rw [e]; exact h2
  · rw [e]; exact h3
/-- a word by its place in its run of the tables -/
theorem lw_at {r : List Cond} (hr : ∀ w ∈ r, w ∈ lw_tbl) {w : Cond} (i : Nat) (h : r[i]? = some w) : w ∈ lw_tbl := hr w (List.mem_of_getElem? h)
theorem lw_g {w : Cond} (h : w ∈ lw_tbl) (g : goodWord w = true) : w ∈ lw_all := List.mem_filter.mpr ⟨h, g⟩
theorem lw_ms : ∀ w ∈ k2_sels lw_privs, w ∈ lw_tbl := fun w h => show w ∈ k2_sels lw_privs ++ tables_1 from List.mem_append_left _ h
theorem lw_m1 : ∀ w ∈ tables_1_1, w ∈ lw_tbl := fun w h => show w ∈ k2_sels lw_privs ++ tables_1 from List.mem_append_right (k2_sels lw_privs) (show w ∈ tables_1 from List.mem_append_left _ h)
theorem lw_m2 : ∀ w ∈ tables_1_2, w ∈ lw_tbl := fun w h => show w ∈ k2_sels lw_privs ++ tables_1 from List.mem_append_right (k2_sels lw_privs) (show w ∈ tables_1 from List.mem_append_right _ h)
theorem qs0 : (Cond.selects "IdeaDesk" ⟨"IdeaDesk", "run", "(ZI)V"⟩ ⟨"IdeaDesk", "run", "(ZI)V"⟩) ∈ lw_all := lw_g (lw_at lw_ms 0 rfl) rfl
theorem qs1 : (Cond.selects "IDEAEngine" ⟨"IDEAEngine", "generateWorkingKey", "(Z[B)[I"⟩ ⟨"IDEAEngine", "generateWorkingKey", "(Z[B)[I"⟩) ∈ lw_all := lw_g (lw_at lw_ms 1 rfl) rfl
theorem qs2 : (Cond.selects "IDEAEngine" ⟨"IDEAEngine", "expandKey", "([B)[I"⟩ ⟨"IDEAEngine", "expandKey", "([B)[I"⟩) ∈ lw_all := lw_g (lw_at lw_ms 2 rfl) rfl
theorem qs3 : (Cond.selects "IDEAEngine" ⟨"IDEAEngine", "bytesToWord", "([BI)I"⟩ ⟨"IDEAEngine", "bytesToWord", "([BI)I"⟩) ∈ lw_all := lw_g (lw_at lw_ms 3 rfl) rfl
theorem qs4 : (Cond.selects "IDEAEngine" ⟨"IDEAEngine", "invertKey", "([I)[I"⟩ ⟨"IDEAEngine", "invertKey", "([I)[I"⟩) ∈ lw_all := lw_g (lw_at lw_ms 4 rfl) rfl
theorem qs5 : (Cond.selects "IDEAEngine" ⟨"IDEAEngine", "mulInv", "(I)I"⟩ ⟨"IDEAEngine", "mulInv", "(I)I"⟩) ∈ lw_all := lw_g (lw_at lw_ms 5 rfl) rfl
theorem qs6 : (Cond.selects "java/lang/Throwable" ⟨"java/lang/Throwable", "fillInStackTrace", "(I)Ljava/lang/Throwable;"⟩ ⟨"java/lang/Throwable", "fillInStackTrace", "(I)Ljava/lang/Throwable;"⟩) ∈ lw_all := lw_g (lw_at lw_ms 6 rfl) rfl
theorem qs7 : (Cond.selects "IDEAEngine" ⟨"IDEAEngine", "ideaFunc", "([I[BI[BI)V"⟩ ⟨"IDEAEngine", "ideaFunc", "([I[BI[BI)V"⟩) ∈ lw_all := lw_g (lw_at lw_ms 7 rfl) rfl
theorem qs8 : (Cond.selects "IDEAEngine" ⟨"IDEAEngine", "mul", "(II)I"⟩ ⟨"IDEAEngine", "mul", "(II)I"⟩) ∈ lw_all := lw_g (lw_at lw_ms 8 rfl) rfl
theorem qs9 : (Cond.selects "IDEAEngine" ⟨"IDEAEngine", "wordToBytes", "(I[BI)V"⟩ ⟨"IDEAEngine", "wordToBytes", "(I[BI)V"⟩) ∈ lw_all := lw_g (lw_at lw_ms 9 rfl) rfl
theorem qs10 : (Cond.selects "IdeaDeskModel" ⟨"IdeaDeskModel", "keys", "()[I"⟩ ⟨"IdeaDeskModel", "keys", "()[I"⟩) ∈ lw_all := lw_g (lw_at lw_ms 10 rfl) rfl
theorem qs11 : (Cond.selects "IdeaDeskModel" ⟨"IdeaDeskModel", "runs", "([I)V"⟩ ⟨"IdeaDeskModel", "runs", "([I)V"⟩) ∈ lw_all := lw_g (lw_at lw_ms 11 rfl) rfl
end
section
/-! DECODE ROWS BY BYTES: one lemma an opcode; a method's code is cut into short pieces once, and a row reads its own piece alone. -/
set_option maxRecDepth 100000
/-- the code has just these bytes from pc on -/
def DkAt (code : ByteArray) (pc : Nat) (bs : List UInt8) : Prop := ∀ (j : Nat) (b : UInt8), bs[j]? = some b → code.data.toList[pc + j]? = some b
/-- the piece W has the bytes bs from its place j on -/
def dkIn (W : List UInt8) (j : Nat) (bs : List UInt8) : Bool := decide ((W.drop j).take bs.length = bs)
theorem dk_seg {l W T : List UInt8} {o o2 : Nat} (h : l.drop o = W ++ T) (n : Nat) (hn : W.length = n) (ho : o + n = o2) : l.drop o2 = T := by
  subst ho
  rw [← List.drop_drop, h, List.drop_left' hn]
theorem dk_at {code : ByteArray} {W T bs : List UInt8} {o pc : Nat} (h : code.data.toList.drop o = W ++ T) (j : Nat) (hp : o + j = pc) (hw : dkIn W j bs = true) : DkAt code pc bs := by
  subst hp
  intro i b e
  have h1 := of_decide_eq_true hw
  have h2 : i < bs.length := (List.getElem?_eq_some_iff.mp e).1
  have h3 : W[j + i]? = some b := by
    rw [← h1, List.getElem?_take, if_pos h2, List.getElem?_drop] at e
    exact e
  have h4 : j + i < W.length := (List.getElem?_eq_some_iff.mp h3).1
  have h5 : (code.data.toList.drop o)[j + i]? = some b := by
    rw [h, List.getElem?_append_left h4]
    exact h3
  rw [List.getElem?_drop, ← Nat.add_assoc] at h5
  exact h5
theorem dk_u1 {A : ByteArray} {p : Nat} {b : UInt8} (h : A.data.toList[p]? = some b) : (Reader.u1 : Reader DecodeError Nat) A p = .ok (b.toNat, p + 1) := by
  obtain ⟨h1, h2⟩ := List.getElem?_eq_some_iff.mp h
  have h3 : p < A.size := by simpa using h1
  have h4 : A[p]'h3 = b := h2
  have e : (Reader.u1 : Reader DecodeError Nat) A p = (if h : p < A.size then .ok (A[p].toNat, p + 1) else .error (HasTruncated.truncated p)) := by
    show (do if h : p < A.size then do set (p + 1); Pure.pure A[p].toNat else MonadExcept.throw (HasTruncated.truncated p) : Reader DecodeError Nat) A p = _
    by_cases hi : p < A.size
    · rw [dif_pos hi, dif_pos hi]; rfl
    · rw [dif_neg hi, dif_neg hi]; rfl
  rw [e, dif_pos h3, h4]
theorem dk_bind {α β : Type} {r : Reader DecodeError α} {f : α → Reader DecodeError β} {A : ByteArray} {p s : Nat} {a : α} (h : r A p = .ok (a, s)) : (r >>= f) A p = f a A s := by
  show (do let (a, s) ← r A p; f a A s : Except DecodeError (β × Nat)) = _
  rw [h]
  rfl
theorem dk_map {α β : Type} {r : Reader DecodeError α} {g : α → β} {A : ByteArray} {p s : Nat} {a : α} (h : r A p = .ok (a, s)) : (g <$> r) A p = .ok (g a, s) := by
  show (do let (a, s) ← r A p; .ok (g a, s) : Except DecodeError (β × Nat)) = _
  rw [h]
  rfl
theorem dk_u2 {A : ByteArray} {p : Nat} {a b : UInt8} (h : A.data.toList[p]? = some a) (h2 : A.data.toList[p + 1]? = some b) : (Reader.u2 : Reader DecodeError Nat) A p = .ok (a.toNat * 256 + b.toNat, p + 2) := by
  show (Reader.u1 >>= fun hi => Reader.u1 >>= fun lo => Pure.pure (hi * 256 + lo) : Reader DecodeError Nat) A p = _
  rw [dk_bind (dk_u1 h), dk_bind (dk_u1 h2)]
  rfl
theorem dk_of {code : ByteArray} {pc n : Nat} {i : Instr} (h : Decoder.instr pc code pc = .ok (i, pc + n)) : decode code pc = .ok (i, n) := by
  have e : decode code pc = (match Decoder.instr pc code pc with | .error x => .error x | .ok (j, s) => .ok (j, s - pc)) := by
    show (do let (j, s) ← Decoder.instr pc code pc; Pure.pure (j, s - pc) : Except DecodeError (Instr × Nat)) = _
    cases Decoder.instr pc code pc <;> rfl
  rw [e, h]
  show Except.ok (i, pc + n - pc) = _
  rw [Nat.add_sub_cancel_left]
theorem dk_1 {code : ByteArray} {pc : Nat} (h : DkAt code pc [1]) : decode code pc = .ok (.aconst_null, 1) := dk_of ((dk_bind (dk_u1 (h 0 _ rfl))).trans rfl)
theorem dk_3 {code : ByteArray} {pc : Nat} (h : DkAt code pc [3]) : decode code pc = .ok (.iconst 0, 1) := dk_of ((dk_bind (dk_u1 (h 0 _ rfl))).trans rfl)
theorem dk_4 {code : ByteArray} {pc : Nat} (h : DkAt code pc [4]) : decode code pc = .ok (.iconst 1, 1) := dk_of ((dk_bind (dk_u1 (h 0 _ rfl))).trans rfl)
theorem dk_5 {code : ByteArray} {pc : Nat} (h : DkAt code pc [5]) : decode code pc = .ok (.iconst 2, 1) := dk_of ((dk_bind (dk_u1 (h 0 _ rfl))).trans rfl)
theorem dk_6 {code : ByteArray} {pc : Nat} (h : DkAt code pc [6]) : decode code pc = .ok (.iconst 3, 1) := dk_of ((dk_bind (dk_u1 (h 0 _ rfl))).trans rfl)
theorem dk_7 {code : ByteArray} {pc : Nat} (h : DkAt code pc [7]) : decode code pc = .ok (.iconst 4, 1) := dk_of ((dk_bind (dk_u1 (h 0 _ rfl))).trans rfl)
theorem dk_8 {code : ByteArray} {pc : Nat} (h : DkAt code pc [8]) : decode code pc = .ok (.iconst 5, 1) := dk_of ((dk_bind (dk_u1 (h 0 _ rfl))).trans rfl)
theorem dk_16 {code : ByteArray} {pc : Nat} (a : UInt8) (h : DkAt code pc [16, a]) : decode code pc = .ok (.bipush (Reader.signed 8 a.toNat), 2) := dk_of ((dk_bind (dk_u1 (h 0 _ rfl))).trans ((dk_bind (dk_map (dk_u1 (h 1 _ rfl)))).trans rfl))
theorem dk_17 {code : ByteArray} {pc : Nat} (a b : UInt8) (h : DkAt code pc [17, a, b]) : decode code pc = .ok (.sipush (Reader.signed 16 (a.toNat * 256 + b.toNat)), 3) := dk_of ((dk_bind (dk_u1 (h 0 _ rfl))).trans ((dk_bind (dk_map (dk_u2 (h 1 _ rfl) (h 2 _ rfl)))).trans rfl))
theorem dk_18 {code : ByteArray} {pc : Nat} (a : UInt8) (h : DkAt code pc [18, a]) : decode code pc = .ok (.ldc a.toNat, 2) := dk_of ((dk_bind (dk_u1 (h 0 _ rfl))).trans ((dk_bind (dk_u1 (h 1 _ rfl))).trans rfl))
theorem dk_20 {code : ByteArray} {pc : Nat} (a b : UInt8) (h : DkAt code pc [20, a, b]) : decode code pc = .ok (.ldc2_w (a.toNat * 256 + b.toNat), 3) := dk_of ((dk_bind (dk_u1 (h 0 _ rfl))).trans ((dk_bind (dk_u2 (h 1 _ rfl) (h 2 _ rfl))).trans rfl))
theorem dk_21 {code : ByteArray} {pc : Nat} (a : UInt8) (h : DkAt code pc [21, a]) : decode code pc = .ok (.iload a.toNat, 2) := dk_of ((dk_bind (dk_u1 (h 0 _ rfl))).trans ((dk_bind (dk_u1 (h 1 _ rfl))).trans rfl))
theorem dk_22 {code : ByteArray} {pc : Nat} (a : UInt8) (h : DkAt code pc [22, a]) : decode code pc = .ok (.lload a.toNat, 2) := dk_of ((dk_bind (dk_u1 (h 0 _ rfl))).trans ((dk_bind (dk_u1 (h 1 _ rfl))).trans rfl))
theorem dk_25 {code : ByteArray} {pc : Nat} (a : UInt8) (h : DkAt code pc [25, a]) : decode code pc = .ok (.aload a.toNat, 2) := dk_of ((dk_bind (dk_u1 (h 0 _ rfl))).trans ((dk_bind (dk_u1 (h 1 _ rfl))).trans rfl))
theorem dk_26 {code : ByteArray} {pc : Nat} (h : DkAt code pc [26]) : decode code pc = .ok (.iload_n 0, 1) := dk_of ((dk_bind (dk_u1 (h 0 _ rfl))).trans rfl)
theorem dk_27 {code : ByteArray} {pc : Nat} (h : DkAt code pc [27]) : decode code pc = .ok (.iload_n 1, 1) := dk_of ((dk_bind (dk_u1 (h 0 _ rfl))).trans rfl)
theorem dk_28 {code : ByteArray} {pc : Nat} (h : DkAt code pc [28]) : decode code pc = .ok (.iload_n 2, 1) := dk_of ((dk_bind (dk_u1 (h 0 _ rfl))).trans rfl)
theorem dk_29 {code : ByteArray} {pc : Nat} (h : DkAt code pc [29]) : decode code pc = .ok (.iload_n 3, 1) := dk_of ((dk_bind (dk_u1 (h 0 _ rfl))).trans rfl)
theorem dk_32 {code : ByteArray} {pc : Nat} (h : DkAt code pc [32]) : decode code pc = .ok (.lload_n 2, 1) := dk_of ((dk_bind (dk_u1 (h 0 _ rfl))).trans rfl)
theorem dk_42 {code : ByteArray} {pc : Nat} (h : DkAt code pc [42]) : decode code pc = .ok (.aload_n 0, 1) := dk_of ((dk_bind (dk_u1 (h 0 _ rfl))).trans rfl)
theorem dk_43 {code : ByteArray} {pc : Nat} (h : DkAt code pc [43]) : decode code pc = .ok (.aload_n 1, 1) := dk_of ((dk_bind (dk_u1 (h 0 _ rfl))).trans rfl)
theorem dk_44 {code : ByteArray} {pc : Nat} (h : DkAt code pc [44]) : decode code pc = .ok (.aload_n 2, 1) := dk_of ((dk_bind (dk_u1 (h 0 _ rfl))).trans rfl)
theorem dk_45 {code : ByteArray} {pc : Nat} (h : DkAt code pc [45]) : decode code pc = .ok (.aload_n 3, 1) := dk_of ((dk_bind (dk_u1 (h 0 _ rfl))).trans rfl)
theorem dk_46 {code : ByteArray} {pc : Nat} (h : DkAt code pc [46]) : decode code pc = .ok (.iaload, 1) := dk_of ((dk_bind (dk_u1 (h 0 _ rfl))).trans rfl)
theorem dk_51 {code : ByteArray} {pc : Nat} (h : DkAt code pc [51]) : decode code pc = .ok (.baload, 1) := dk_of ((dk_bind (dk_u1 (h 0 _ rfl))).trans rfl)
theorem dk_54 {code : ByteArray} {pc : Nat} (a : UInt8) (h : DkAt code pc [54, a]) : decode code pc = .ok (.istore a.toNat, 2) := dk_of ((dk_bind (dk_u1 (h 0 _ rfl))).trans ((dk_bind (dk_u1 (h 1 _ rfl))).trans rfl))
theorem dk_55 {code : ByteArray} {pc : Nat} (a : UInt8) (h : DkAt code pc [55, a]) : decode code pc = .ok (.lstore a.toNat, 2) := dk_of ((dk_bind (dk_u1 (h 0 _ rfl))).trans ((dk_bind (dk_u1 (h 1 _ rfl))).trans rfl))
theorem dk_58 {code : ByteArray} {pc : Nat} (a : UInt8) (h : DkAt code pc [58, a]) : decode code pc = .ok (.astore a.toNat, 2) := dk_of ((dk_bind (dk_u1 (h 0 _ rfl))).trans ((dk_bind (dk_u1 (h 1 _ rfl))).trans rfl))
theorem dk_60 {code : ByteArray} {pc : Nat} (h : DkAt code pc [60]) : decode code pc = .ok (.istore_n 1, 1) := dk_of ((dk_bind (dk_u1 (h 0 _ rfl))).trans rfl)
theorem dk_61 {code : ByteArray} {pc : Nat} (h : DkAt code pc [61]) : decode code pc = .ok (.istore_n 2, 1) := dk_of ((dk_bind (dk_u1 (h 0 _ rfl))).trans rfl)
theorem dk_62 {code : ByteArray} {pc : Nat} (h : DkAt code pc [62]) : decode code pc = .ok (.istore_n 3, 1) := dk_of ((dk_bind (dk_u1 (h 0 _ rfl))).trans rfl)
theorem dk_65 {code : ByteArray} {pc : Nat} (h : DkAt code pc [65]) : decode code pc = .ok (.lstore_n 2, 1) := dk_of ((dk_bind (dk_u1 (h 0 _ rfl))).trans rfl)
theorem dk_76 {code : ByteArray} {pc : Nat} (h : DkAt code pc [76]) : decode code pc = .ok (.astore_n 1, 1) := dk_of ((dk_bind (dk_u1 (h 0 _ rfl))).trans rfl)
theorem dk_77 {code : ByteArray} {pc : Nat} (h : DkAt code pc [77]) : decode code pc = .ok (.astore_n 2, 1) := dk_of ((dk_bind (dk_u1 (h 0 _ rfl))).trans rfl)
theorem dk_78 {code : ByteArray} {pc : Nat} (h : DkAt code pc [78]) : decode code pc = .ok (.astore_n 3, 1) := dk_of ((dk_bind (dk_u1 (h 0 _ rfl))).trans rfl)
theorem dk_79 {code : ByteArray} {pc : Nat} (h : DkAt code pc [79]) : decode code pc = .ok (.iastore, 1) := dk_of ((dk_bind (dk_u1 (h 0 _ rfl))).trans rfl)
theorem dk_84 {code : ByteArray} {pc : Nat} (h : DkAt code pc [84]) : decode code pc = .ok (.bastore, 1) := dk_of ((dk_bind (dk_u1 (h 0 _ rfl))).trans rfl)
theorem dk_87 {code : ByteArray} {pc : Nat} (h : DkAt code pc [87]) : decode code pc = .ok (.pop, 1) := dk_of ((dk_bind (dk_u1 (h 0 _ rfl))).trans rfl)
theorem dk_89 {code : ByteArray} {pc : Nat} (h : DkAt code pc [89]) : decode code pc = .ok (.dup, 1) := dk_of ((dk_bind (dk_u1 (h 0 _ rfl))).trans rfl)
theorem dk_96 {code : ByteArray} {pc : Nat} (h : DkAt code pc [96]) : decode code pc = .ok (.iadd, 1) := dk_of ((dk_bind (dk_u1 (h 0 _ rfl))).trans rfl)
theorem dk_100 {code : ByteArray} {pc : Nat} (h : DkAt code pc [100]) : decode code pc = .ok (.isub, 1) := dk_of ((dk_bind (dk_u1 (h 0 _ rfl))).trans rfl)
theorem dk_104 {code : ByteArray} {pc : Nat} (h : DkAt code pc [104]) : decode code pc = .ok (.imul, 1) := dk_of ((dk_bind (dk_u1 (h 0 _ rfl))).trans rfl)
theorem dk_105 {code : ByteArray} {pc : Nat} (h : DkAt code pc [105]) : decode code pc = .ok (.lmul, 1) := dk_of ((dk_bind (dk_u1 (h 0 _ rfl))).trans rfl)
theorem dk_108 {code : ByteArray} {pc : Nat} (h : DkAt code pc [108]) : decode code pc = .ok (.idiv, 1) := dk_of ((dk_bind (dk_u1 (h 0 _ rfl))).trans rfl)
theorem dk_112 {code : ByteArray} {pc : Nat} (h : DkAt code pc [112]) : decode code pc = .ok (.irem, 1) := dk_of ((dk_bind (dk_u1 (h 0 _ rfl))).trans rfl)
theorem dk_113 {code : ByteArray} {pc : Nat} (h : DkAt code pc [113]) : decode code pc = .ok (.lrem, 1) := dk_of ((dk_bind (dk_u1 (h 0 _ rfl))).trans rfl)
theorem dk_116 {code : ByteArray} {pc : Nat} (h : DkAt code pc [116]) : decode code pc = .ok (.ineg, 1) := dk_of ((dk_bind (dk_u1 (h 0 _ rfl))).trans rfl)
theorem dk_120 {code : ByteArray} {pc : Nat} (h : DkAt code pc [120]) : decode code pc = .ok (.ishl, 1) := dk_of ((dk_bind (dk_u1 (h 0 _ rfl))).trans rfl)
theorem dk_122 {code : ByteArray} {pc : Nat} (h : DkAt code pc [122]) : decode code pc = .ok (.ishr, 1) := dk_of ((dk_bind (dk_u1 (h 0 _ rfl))).trans rfl)
theorem dk_124 {code : ByteArray} {pc : Nat} (h : DkAt code pc [124]) : decode code pc = .ok (.iushr, 1) := dk_of ((dk_bind (dk_u1 (h 0 _ rfl))).trans rfl)
theorem dk_126 {code : ByteArray} {pc : Nat} (h : DkAt code pc [126]) : decode code pc = .ok (.iand, 1) := dk_of ((dk_bind (dk_u1 (h 0 _ rfl))).trans rfl)
theorem dk_128 {code : ByteArray} {pc : Nat} (h : DkAt code pc [128]) : decode code pc = .ok (.ior, 1) := dk_of ((dk_bind (dk_u1 (h 0 _ rfl))).trans rfl)
theorem dk_130 {code : ByteArray} {pc : Nat} (h : DkAt code pc [130]) : decode code pc = .ok (.ixor, 1) := dk_of ((dk_bind (dk_u1 (h 0 _ rfl))).trans rfl)
theorem dk_132 {code : ByteArray} {pc : Nat} (a b : UInt8) (h : DkAt code pc [132, a, b]) : decode code pc = .ok (.iinc a.toNat (Reader.signed 8 b.toNat), 3) := dk_of ((dk_bind (dk_u1 (h 0 _ rfl))).trans ((dk_bind (dk_u1 (h 1 _ rfl))).trans ((dk_bind (dk_map (dk_u1 (h 2 _ rfl)))).trans rfl)))
theorem dk_133 {code : ByteArray} {pc : Nat} (h : DkAt code pc [133]) : decode code pc = .ok (.i2l, 1) := dk_of ((dk_bind (dk_u1 (h 0 _ rfl))).trans rfl)
theorem dk_136 {code : ByteArray} {pc : Nat} (h : DkAt code pc [136]) : decode code pc = .ok (.l2i, 1) := dk_of ((dk_bind (dk_u1 (h 0 _ rfl))).trans rfl)
theorem dk_145 {code : ByteArray} {pc : Nat} (h : DkAt code pc [145]) : decode code pc = .ok (.i2b, 1) := dk_of ((dk_bind (dk_u1 (h 0 _ rfl))).trans rfl)
theorem dk_153 {code : ByteArray} {pc : Nat} (a b : UInt8) (h : DkAt code pc [153, a, b]) : decode code pc = .ok (.ifCond .eq (Reader.signed 16 (a.toNat * 256 + b.toNat)), 3) := dk_of ((dk_bind (dk_u1 (h 0 _ rfl))).trans ((dk_bind (dk_map (dk_u2 (h 1 _ rfl) (h 2 _ rfl)))).trans rfl))
theorem dk_154 {code : ByteArray} {pc : Nat} (a b : UInt8) (h : DkAt code pc [154, a, b]) : decode code pc = .ok (.ifCond .ne (Reader.signed 16 (a.toNat * 256 + b.toNat)), 3) := dk_of ((dk_bind (dk_u1 (h 0 _ rfl))).trans ((dk_bind (dk_map (dk_u2 (h 1 _ rfl) (h 2 _ rfl)))).trans rfl))
theorem dk_159 {code : ByteArray} {pc : Nat} (a b : UInt8) (h : DkAt code pc [159, a, b]) : decode code pc = .ok (.if_icmp .eq (Reader.signed 16 (a.toNat * 256 + b.toNat)), 3) := dk_of ((dk_bind (dk_u1 (h 0 _ rfl))).trans ((dk_bind (dk_map (dk_u2 (h 1 _ rfl) (h 2 _ rfl)))).trans rfl))
theorem dk_160 {code : ByteArray} {pc : Nat} (a b : UInt8) (h : DkAt code pc [160, a, b]) : decode code pc = .ok (.if_icmp .ne (Reader.signed 16 (a.toNat * 256 + b.toNat)), 3) := dk_of ((dk_bind (dk_u1 (h 0 _ rfl))).trans ((dk_bind (dk_map (dk_u2 (h 1 _ rfl) (h 2 _ rfl)))).trans rfl))
theorem dk_162 {code : ByteArray} {pc : Nat} (a b : UInt8) (h : DkAt code pc [162, a, b]) : decode code pc = .ok (.if_icmp .ge (Reader.signed 16 (a.toNat * 256 + b.toNat)), 3) := dk_of ((dk_bind (dk_u1 (h 0 _ rfl))).trans ((dk_bind (dk_map (dk_u2 (h 1 _ rfl) (h 2 _ rfl)))).trans rfl))
theorem dk_163 {code : ByteArray} {pc : Nat} (a b : UInt8) (h : DkAt code pc [163, a, b]) : decode code pc = .ok (.if_icmp .gt (Reader.signed 16 (a.toNat * 256 + b.toNat)), 3) := dk_of ((dk_bind (dk_u1 (h 0 _ rfl))).trans ((dk_bind (dk_map (dk_u2 (h 1 _ rfl) (h 2 _ rfl)))).trans rfl))
theorem dk_164 {code : ByteArray} {pc : Nat} (a b : UInt8) (h : DkAt code pc [164, a, b]) : decode code pc = .ok (.if_icmp .le (Reader.signed 16 (a.toNat * 256 + b.toNat)), 3) := dk_of ((dk_bind (dk_u1 (h 0 _ rfl))).trans ((dk_bind (dk_map (dk_u2 (h 1 _ rfl) (h 2 _ rfl)))).trans rfl))
theorem dk_167 {code : ByteArray} {pc : Nat} (a b : UInt8) (h : DkAt code pc [167, a, b]) : decode code pc = .ok (.goto (Reader.signed 16 (a.toNat * 256 + b.toNat)), 3) := dk_of ((dk_bind (dk_u1 (h 0 _ rfl))).trans ((dk_bind (dk_map (dk_u2 (h 1 _ rfl) (h 2 _ rfl)))).trans rfl))
theorem dk_172 {code : ByteArray} {pc : Nat} (h : DkAt code pc [172]) : decode code pc = .ok (.ireturn, 1) := dk_of ((dk_bind (dk_u1 (h 0 _ rfl))).trans rfl)
theorem dk_176 {code : ByteArray} {pc : Nat} (h : DkAt code pc [176]) : decode code pc = .ok (.areturn, 1) := dk_of ((dk_bind (dk_u1 (h 0 _ rfl))).trans rfl)
theorem dk_177 {code : ByteArray} {pc : Nat} (h : DkAt code pc [177]) : decode code pc = .ok (.return_, 1) := dk_of ((dk_bind (dk_u1 (h 0 _ rfl))).trans rfl)
theorem dk_178 {code : ByteArray} {pc : Nat} (a b : UInt8) (h : DkAt code pc [178, a, b]) : decode code pc = .ok (.getstatic (a.toNat * 256 + b.toNat), 3) := dk_of ((dk_bind (dk_u1 (h 0 _ rfl))).trans ((dk_bind (dk_u2 (h 1 _ rfl) (h 2 _ rfl))).trans rfl))
theorem dk_180 {code : ByteArray} {pc : Nat} (a b : UInt8) (h : DkAt code pc [180, a, b]) : decode code pc = .ok (.getfield (a.toNat * 256 + b.toNat), 3) := dk_of ((dk_bind (dk_u1 (h 0 _ rfl))).trans ((dk_bind (dk_u2 (h 1 _ rfl) (h 2 _ rfl))).trans rfl))
theorem dk_181 {code : ByteArray} {pc : Nat} (a b : UInt8) (h : DkAt code pc [181, a, b]) : decode code pc = .ok (.putfield (a.toNat * 256 + b.toNat), 3) := dk_of ((dk_bind (dk_u1 (h 0 _ rfl))).trans ((dk_bind (dk_u2 (h 1 _ rfl) (h 2 _ rfl))).trans rfl))
theorem dk_182 {code : ByteArray} {pc : Nat} (a b : UInt8) (h : DkAt code pc [182, a, b]) : decode code pc = .ok (.invokevirtual (a.toNat * 256 + b.toNat), 3) := dk_of ((dk_bind (dk_u1 (h 0 _ rfl))).trans ((dk_bind (dk_u2 (h 1 _ rfl) (h 2 _ rfl))).trans rfl))
theorem dk_183 {code : ByteArray} {pc : Nat} (a b : UInt8) (h : DkAt code pc [183, a, b]) : decode code pc = .ok (.invokespecial (a.toNat * 256 + b.toNat), 3) := dk_of ((dk_bind (dk_u1 (h 0 _ rfl))).trans ((dk_bind (dk_u2 (h 1 _ rfl) (h 2 _ rfl))).trans rfl))
theorem dk_184 {code : ByteArray} {pc : Nat} (a b : UInt8) (h : DkAt code pc [184, a, b]) : decode code pc = .ok (.invokestatic (a.toNat * 256 + b.toNat), 3) := dk_of ((dk_bind (dk_u1 (h 0 _ rfl))).trans ((dk_bind (dk_u2 (h 1 _ rfl) (h 2 _ rfl))).trans rfl))
theorem dk_187 {code : ByteArray} {pc : Nat} (a b : UInt8) (h : DkAt code pc [187, a, b]) : decode code pc = .ok (.new (a.toNat * 256 + b.toNat), 3) := dk_of ((dk_bind (dk_u1 (h 0 _ rfl))).trans ((dk_bind (dk_u2 (h 1 _ rfl) (h 2 _ rfl))).trans rfl))
theorem dk_188_4 {code : ByteArray} {pc : Nat} (h : DkAt code pc [188, 4]) : decode code pc = .ok (.newarray .boolean, 2) := dk_of ((dk_bind (dk_u1 (h 0 _ rfl))).trans ((dk_bind (dk_u1 (h 1 _ rfl))).trans rfl))
theorem dk_188_8 {code : ByteArray} {pc : Nat} (h : DkAt code pc [188, 8]) : decode code pc = .ok (.newarray .byte, 2) := dk_of ((dk_bind (dk_u1 (h 0 _ rfl))).trans ((dk_bind (dk_u1 (h 1 _ rfl))).trans rfl))
theorem dk_188_10 {code : ByteArray} {pc : Nat} (h : DkAt code pc [188, 10]) : decode code pc = .ok (.newarray .int, 2) := dk_of ((dk_bind (dk_u1 (h 0 _ rfl))).trans ((dk_bind (dk_u1 (h 1 _ rfl))).trans rfl))
theorem dk_190 {code : ByteArray} {pc : Nat} (h : DkAt code pc [190]) : decode code pc = .ok (.arraylength, 1) := dk_of ((dk_bind (dk_u1 (h 0 _ rfl))).trans rfl)
theorem dk_191 {code : ByteArray} {pc : Nat} (h : DkAt code pc [191]) : decode code pc = .ok (.athrow, 1) := dk_of ((dk_bind (dk_u1 (h 0 _ rfl))).trans rfl)
theorem dk_192 {code : ByteArray} {pc : Nat} (a b : UInt8) (h : DkAt code pc [192, a, b]) : decode code pc = .ok (.checkcast (a.toNat * 256 + b.toNat), 3) := dk_of ((dk_bind (dk_u1 (h 0 _ rfl))).trans ((dk_bind (dk_u2 (h 1 _ rfl) (h 2 _ rfl))).trans rfl))
theorem dk_193 {code : ByteArray} {pc : Nat} (a b : UInt8) (h : DkAt code pc [193, a, b]) : decode code pc = .ok (.instanceof (a.toNat * 256 + b.toNat), 3) := dk_of ((dk_bind (dk_u1 (h 0 _ rfl))).trans ((dk_bind (dk_u2 (h 1 _ rfl) (h 2 _ rfl))).trans rfl))
theorem dk_199 {code : ByteArray} {pc : Nat} (a b : UInt8) (h : DkAt code pc [199, a, b]) : decode code pc = .ok (.ifnonnull (Reader.signed 16 (a.toNat * 256 + b.toNat)), 3) := dk_of ((dk_bind (dk_u1 (h 0 _ rfl))).trans ((dk_bind (dk_map (dk_u2 (h 1 _ rfl) (h 2 _ rfl)))).trans rfl))
/-! java/lang/Object -/
set_option maxRecDepth 100000
def RJ5 : String := "java/lang/Object"
abbrev cJ5_init : ByteArray := object_method_1_code
def yJ5_init : MethodName := ⟨RJ5, "<init>", "()V"⟩
theorem dJ5_init_0 : decode cJ5_init 0 = .ok (.return_, 1) := by decide +kernel
theorem q32 : (Jvm.Cond.instanceMethod ({ cls := "java/lang/Object", name := "<init>", desc := "()V" } : Jvm.MethodName)) ∈ lw_all := lw_g (lw_at lw_m1 20 rfl) rfl
theorem q33 : (Jvm.Cond.code ({ cls := "java/lang/Object", name := "<init>", desc := "()V" } : Jvm.MethodName) object_method_1_code (1 : Nat) (Option.none : Option Jvm.ClassFile.FieldType)) ∈ lw_all := lw_g (lw_at lw_m1 21 rfl) rfl
theorem q44 : (Jvm.Cond.arrayClass Jvm.ClassFile.FieldType.byte) ∈ lw_all := lw_g (lw_at lw_m1 32 rfl) rfl
set_option maxRecDepth 100000
theorem q210 : (Jvm.Cond.arrayClass Jvm.ClassFile.FieldType.int) ∈ lw_all := lw_g (lw_at lw_m1 198 rfl) rfl
theorem q345 : (Jvm.Cond.arrayClass Jvm.ClassFile.FieldType.boolean) ∈ lw_all := lw_g (lw_at lw_m2 93 rfl) rfl
theorem q17 : (Jvm.Cond.initialized "java/lang/System") ∈ lw_all := lw_g (lw_at lw_m1 5 rfl) rfl
set_option maxRecDepth 100000
theorem q97 : (Jvm.Cond.static ({ cls := "java/lang/System", name := "arraycopy", desc := "(Ljava/lang/Object;ILjava/lang/Object;II)V" } : Jvm.MethodName)) ∈ lw_all := lw_g (lw_at lw_m1 85 rfl) rfl
theorem q98 : (Jvm.Cond.native ({ cls := "java/lang/System", name := "arraycopy", desc := "(Ljava/lang/Object;ILjava/lang/Object;II)V" } : Jvm.MethodName)) ∈ lw_all := lw_g (lw_at lw_m1 86 rfl) rfl
theorem q101 : (Jvm.Cond.interfaceMethod "BlockCipher" "BlockCipher" "init" "(ZLCipherParameters;)V") ∈ lw_tbl := lw_at lw_m1 89 rfl
set_option maxRecDepth 100000
theorem q102 : (Jvm.Cond.declares ({ cls := "BlockCipher", name := "init", desc := "(ZLCipherParameters;)V" } : Jvm.MethodName)) ∈ lw_tbl := lw_at lw_m1 90 rfl
theorem q213 : (Jvm.Cond.interfaceMethod "BlockCipher" "BlockCipher" "processBlock" "([BI[BI)I") ∈ lw_tbl := lw_at lw_m1 201 rfl
theorem q214 : (Jvm.Cond.declares ({ cls := "BlockCipher", name := "processBlock", desc := "([BI[BI)I" } : Jvm.MethodName)) ∈ lw_tbl := lw_at lw_m1 202 rfl
/-! KeyParameter -/
set_option maxRecDepth 100000
def RX3 : String := "KeyParameter"
def TX3 : u_T := fun k => match k with
  | _ => ("KeyParameter", "key", "[B", false)
def tyX3 : Nat → FieldType := fun k => match k with
  | _ => .array .byte
abbrev wsX30 : List Cond := u_ws RX3 TX3 1
theorem nmX3 : ∀ a, a < 1 → ∀ b, b < 1 → a ≠ b → (TX3 a).2.1 ≠ (TX3 b).2.1 := by decide +kernel
theorem tyX3_ok : ∀ k, k < 1 → parseFieldDescriptor (TX3 k).2.2.1 = some (tyX3 k) := by decide +kernel
abbrev cX3_init : ByteArray := prog_8_method_1_code
def yX3_init : MethodName := ⟨RX3, "<init>", "([B)V"⟩
def dkwX3_init_0 : List UInt8 := [42, 43, 3, 43, 190, 183, 0, 1, 177]
abbrev dktX3_init_0 : List UInt8 := dkwX3_init_0 ++ []
theorem dksX3_init_0 : cX3_init.data.toList.drop 0 = dktX3_init_0 := by decide +kernel
theorem dX3_init_0 : decode cX3_init 0 = .ok (.aload_n 0, 1) := dk_42 (dk_at dksX3_init_0 0 rfl rfl)
theorem dX3_init_1 : decode cX3_init 1 = .ok (.aload_n 1, 1) := dk_43 (dk_at dksX3_init_0 1 rfl rfl)
theorem dX3_init_2 : decode cX3_init 2 = .ok (.iconst 0, 1) := dk_3 (dk_at dksX3_init_0 2 rfl rfl)
theorem dX3_init_3 : decode cX3_init 3 = .ok (.aload_n 1, 1) := dk_43 (dk_at dksX3_init_0 3 rfl rfl)
theorem dX3_init_4 : decode cX3_init 4 = .ok (.arraylength, 1) := dk_190 (dk_at dksX3_init_0 4 rfl rfl)
theorem dX3_init_5 : decode cX3_init 5 = .ok (.invokespecial 1, 3) := dk_183 0 1 (dk_at dksX3_init_0 5 rfl rfl)
theorem dX3_init_8 : decode cX3_init 8 = .ok (.return_, 1) := dk_177 (dk_at dksX3_init_0 8 rfl rfl)
abbrev cX3_init_2 : ByteArray := prog_8_method_2_code
def yX3_init_2 : MethodName := ⟨RX3, "<init>", "([BII)V"⟩
def dkwX3_init_2_0 : List UInt8 := [42, 29, 183, 0, 7, 43, 28, 42, 180, 0, 10, 3, 29, 184, 0, 14, 177]
abbrev dktX3_init_2_0 : List UInt8 := dkwX3_init_2_0 ++ []
theorem dksX3_init_2_0 : cX3_init_2.data.toList.drop 0 = dktX3_init_2_0 := by decide +kernel
theorem dX3_init_2_0 : decode cX3_init_2 0 = .ok (.aload_n 0, 1) := dk_42 (dk_at dksX3_init_2_0 0 rfl rfl)
theorem dX3_init_2_1 : decode cX3_init_2 1 = .ok (.iload_n 3, 1) := dk_29 (dk_at dksX3_init_2_0 1 rfl rfl)
theorem dX3_init_2_2 : decode cX3_init_2 2 = .ok (.invokespecial 7, 3) := dk_183 0 7 (dk_at dksX3_init_2_0 2 rfl rfl)
theorem dX3_init_2_5 : decode cX3_init_2 5 = .ok (.aload_n 1, 1) := dk_43 (dk_at dksX3_init_2_0 5 rfl rfl)
theorem dX3_init_2_6 : decode cX3_init_2 6 = .ok (.iload_n 2, 1) := dk_28 (dk_at dksX3_init_2_0 6 rfl rfl)
theorem dX3_init_2_7 : decode cX3_init_2 7 = .ok (.aload_n 0, 1) := dk_42 (dk_at dksX3_init_2_0 7 rfl rfl)
theorem dX3_init_2_8 : decode cX3_init_2 8 = .ok (.getfield 10, 3) := dk_180 0 10 (dk_at dksX3_init_2_0 8 rfl rfl)
theorem dX3_init_2_11 : decode cX3_init_2 11 = .ok (.iconst 0, 1) := dk_3 (dk_at dksX3_init_2_0 11 rfl rfl)
theorem dX3_init_2_12 : decode cX3_init_2 12 = .ok (.iload_n 3, 1) := dk_29 (dk_at dksX3_init_2_0 12 rfl rfl)
theorem dX3_init_2_13 : decode cX3_init_2 13 = .ok (.invokestatic 14, 3) := dk_184 0 14 (dk_at dksX3_init_2_0 13 rfl rfl)
theorem dX3_init_2_16 : decode cX3_init_2 16 = .ok (.return_, 1) := dk_177 (dk_at dksX3_init_2_0 16 rfl rfl)
abbrev cX3_init_3 : ByteArray := prog_8_method_3_code
def yX3_init_3 : MethodName := ⟨RX3, "<init>", "(I)V"⟩
def dkwX3_init_3_0 : List UInt8 := [42, 183, 0, 20, 42, 27, 188, 8, 181, 0, 10, 177]
abbrev dktX3_init_3_0 : List UInt8 := dkwX3_init_3_0 ++ []
theorem dksX3_init_3_0 : cX3_init_3.data.toList.drop 0 = dktX3_init_3_0 := by decide +kernel
theorem dX3_init_3_0 : decode cX3_init_3 0 = .ok (.aload_n 0, 1) := dk_42 (dk_at dksX3_init_3_0 0 rfl rfl)
theorem dX3_init_3_1 : decode cX3_init_3 1 = .ok (.invokespecial 20, 3) := dk_183 0 20 (dk_at dksX3_init_3_0 1 rfl rfl)
theorem dX3_init_3_4 : decode cX3_init_3 4 = .ok (.aload_n 0, 1) := dk_42 (dk_at dksX3_init_3_0 4 rfl rfl)
theorem dX3_init_3_5 : decode cX3_init_3 5 = .ok (.iload_n 1, 1) := dk_27 (dk_at dksX3_init_3_0 5 rfl rfl)
theorem dX3_init_3_6 : decode cX3_init_3 6 = .ok (.newarray .byte, 2) := dk_188_8 (dk_at dksX3_init_3_0 6 rfl rfl)
theorem dX3_init_3_8 : decode cX3_init_3 8 = .ok (.putfield 10, 3) := dk_181 0 10 (dk_at dksX3_init_3_0 8 rfl rfl)
theorem dX3_init_3_11 : decode cX3_init_3 11 = .ok (.return_, 1) := dk_177 (dk_at dksX3_init_3_0 11 rfl rfl)
abbrev cX3_getKey : ByteArray := prog_8_method_4_code
def yX3_getKey : MethodName := ⟨RX3, "getKey", "()[B"⟩
theorem dX3_getKey_0 : decode cX3_getKey 0 = .ok (.aload_n 0, 1) := by decide +kernel
theorem dX3_getKey_1 : decode cX3_getKey 1 = .ok (.getfield 10, 3) := by decide +kernel
theorem dX3_getKey_4 : decode cX3_getKey 4 = .ok (.areturn, 1) := by decide +kernel
theorem q16 : (Jvm.Cond.initialized "KeyParameter") ∈ lw_all := lw_g (lw_at lw_m1 4 rfl) rfl
theorem q81 : (Jvm.Cond.instantiable "KeyParameter" (1 : Nat)) ∈ lw_all := lw_g (lw_at lw_m1 69 rfl) rfl
theorem q83 : (Jvm.Cond.instanceMethod ({ cls := "KeyParameter", name := "<init>", desc := "([B)V" } : Jvm.MethodName)) ∈ lw_all := lw_g (lw_at lw_m1 71 rfl) rfl
theorem q84 : (Jvm.Cond.code ({ cls := "KeyParameter", name := "<init>", desc := "([B)V" } : Jvm.MethodName) prog_8_method_1_code (2 : Nat) (Option.none : Option Jvm.ClassFile.FieldType)) ∈ lw_all := lw_g (lw_at lw_m1 72 rfl) rfl
theorem q85 : (Jvm.Cond.methodLink "KeyParameter" (1 : Nat) ({ cls := "KeyParameter", name := "<init>", desc := "([BII)V" } : Jvm.MethodName)) ∈ lw_all := lw_g (lw_at lw_m1 73 rfl) rfl
theorem q86 : (Jvm.Cond.instanceMethod ({ cls := "KeyParameter", name := "<init>", desc := "([BII)V" } : Jvm.MethodName)) ∈ lw_all := lw_g (lw_at lw_m1 74 rfl) rfl
theorem q87 : (Jvm.Cond.code ({ cls := "KeyParameter", name := "<init>", desc := "([BII)V" } : Jvm.MethodName) prog_8_method_2_code (4 : Nat) (Option.none : Option Jvm.ClassFile.FieldType)) ∈ lw_all := lw_g (lw_at lw_m1 75 rfl) rfl
theorem q88 : (Jvm.Cond.methodLink "KeyParameter" (7 : Nat) ({ cls := "KeyParameter", name := "<init>", desc := "(I)V" } : Jvm.MethodName)) ∈ lw_all := lw_g (lw_at lw_m1 76 rfl) rfl
theorem q89 : (Jvm.Cond.instanceMethod ({ cls := "KeyParameter", name := "<init>", desc := "(I)V" } : Jvm.MethodName)) ∈ lw_all := lw_g (lw_at lw_m1 77 rfl) rfl
theorem q90 : (Jvm.Cond.code ({ cls := "KeyParameter", name := "<init>", desc := "(I)V" } : Jvm.MethodName) prog_8_method_3_code (2 : Nat) (Option.none : Option Jvm.ClassFile.FieldType)) ∈ lw_all := lw_g (lw_at lw_m1 78 rfl) rfl
theorem q91 : (Jvm.Cond.methodLink "KeyParameter" (20 : Nat) ({ cls := "java/lang/Object", name := "<init>", desc := "()V" } : Jvm.MethodName)) ∈ lw_all := lw_g (lw_at lw_m1 79 rfl) rfl
theorem q92 : (Jvm.Cond.fieldLink "KeyParameter" (10 : Nat) "KeyParameter" "key" "[B") ∈ lw_all := lw_g (lw_at lw_m1 80 rfl) rfl
theorem q93 : (Jvm.Cond.lays "KeyParameter" "KeyParameter" "key" "[B") ∈ lw_all := lw_g (lw_at lw_m1 81 rfl) rfl
theorem q94 : (Jvm.Cond.soleField "KeyParameter" "key") ∈ lw_all := lw_g (lw_at lw_m1 82 rfl) rfl
theorem q95 : (Jvm.Cond.superclass "KeyParameter" "java/lang/Object") ∈ lw_all := lw_g (lw_at lw_m1 83 rfl) rfl
theorem q96 : (Jvm.Cond.methodLink "KeyParameter" (14 : Nat) ({ cls := "java/lang/System", name := "arraycopy", desc := "(Ljava/lang/Object;ILjava/lang/Object;II)V" } : Jvm.MethodName)) ∈ lw_all := lw_g (lw_at lw_m1 84 rfl) rfl
theorem q111 : (Jvm.Cond.instanceMethod ({ cls := "KeyParameter", name := "getKey", desc := "()[B" } : Jvm.MethodName)) ∈ lw_all := lw_g (lw_at lw_m1 99 rfl) rfl
theorem q112 : (Jvm.Cond.selects "KeyParameter" ({ cls := "KeyParameter", name := "getKey", desc := "()[B" } : Jvm.MethodName) ({ cls := "KeyParameter", name := "getKey", desc := "()[B" } : Jvm.MethodName)) ∈ lw_all := lw_g (lw_at lw_m1 100 rfl) rfl
theorem q113 : (Jvm.Cond.code ({ cls := "KeyParameter", name := "getKey", desc := "()[B" } : Jvm.MethodName) prog_8_method_4_code (1 : Nat) (Option.some (Jvm.ClassFile.FieldType.array Jvm.ClassFile.FieldType.byte))) ∈ lw_all := lw_g (lw_at lw_m1 101 rfl) rfl
theorem in_X3 : ∀ w ∈ wsX30, w ∈ lw_all := lw_in wsX30 [93] (by decide +kernel) (by decide +kernel)
/-! IdeaDesk -/
set_option maxRecDepth 100000
def RX0 : String := "IdeaDesk"
def TX0 : u_T := fun k => match k with
  | 0 => ("IdeaDesk", "key", "[B", true)
  | 1 => ("IdeaDesk", "block", "[B", true)
  | _ => ("IdeaDesk", "out", "[B", true)
def tyX0 : Nat → FieldType := fun k => match k with
  | 0 => .array .byte
  | 1 => .array .byte
  | _ => .array .byte
abbrev wsX00 : List Cond := u_ws RX0 TX0 3
theorem nmX0 : ∀ a, a < 3 → ∀ b, b < 3 → a ≠ b → (TX0 a).2.1 ≠ (TX0 b).2.1 := by decide +kernel
theorem tyX0_ok : ∀ k, k < 3 → parseFieldDescriptor (TX0 k).2.2.1 = some (tyX0 k) := by decide +kernel
abbrev cX0_init : ByteArray := prog_5_method_1_code
def yX0_init : MethodName := ⟨RX0, "<init>", "()V"⟩
def dkwX0_init_1 : List UInt8 := [188, 8, 181, 0, 16, 177]
abbrev dktX0_init_1 : List UInt8 := dkwX0_init_1 ++ []
def dkwX0_init_0 : List UInt8 := [42, 183, 0, 1, 42, 16, 32, 188, 8, 181, 0, 7, 42, 16, 8, 188, 8, 181, 0, 13, 42, 16, 8]
abbrev dktX0_init_0 : List UInt8 := dkwX0_init_0 ++ dktX0_init_1
theorem dksX0_init_0 : cX0_init.data.toList.drop 0 = dktX0_init_0 := by decide +kernel
theorem dksX0_init_1 : cX0_init.data.toList.drop 23 = dktX0_init_1 := dk_seg dksX0_init_0 23 rfl rfl
theorem dX0_init_0 : decode cX0_init 0 = .ok (.aload_n 0, 1) := dk_42 (dk_at dksX0_init_0 0 rfl rfl)
theorem dX0_init_1 : decode cX0_init 1 = .ok (.invokespecial 1, 3) := dk_183 0 1 (dk_at dksX0_init_0 1 rfl rfl)
theorem dX0_init_4 : decode cX0_init 4 = .ok (.aload_n 0, 1) := dk_42 (dk_at dksX0_init_0 4 rfl rfl)
theorem dX0_init_5 : decode cX0_init 5 = .ok (.bipush 32, 2) := dk_16 32 (dk_at dksX0_init_0 5 rfl rfl)
theorem dX0_init_7 : decode cX0_init 7 = .ok (.newarray .byte, 2) := dk_188_8 (dk_at dksX0_init_0 7 rfl rfl)
theorem dX0_init_9 : decode cX0_init 9 = .ok (.putfield 7, 3) := dk_181 0 7 (dk_at dksX0_init_0 9 rfl rfl)
theorem dX0_init_12 : decode cX0_init 12 = .ok (.aload_n 0, 1) := dk_42 (dk_at dksX0_init_0 12 rfl rfl)
theorem dX0_init_13 : decode cX0_init 13 = .ok (.bipush 8, 2) := dk_16 8 (dk_at dksX0_init_0 13 rfl rfl)
theorem dX0_init_15 : decode cX0_init 15 = .ok (.newarray .byte, 2) := dk_188_8 (dk_at dksX0_init_0 15 rfl rfl)
theorem dX0_init_17 : decode cX0_init 17 = .ok (.putfield 13, 3) := dk_181 0 13 (dk_at dksX0_init_0 17 rfl rfl)
theorem dX0_init_20 : decode cX0_init 20 = .ok (.aload_n 0, 1) := dk_42 (dk_at dksX0_init_0 20 rfl rfl)
theorem dX0_init_21 : decode cX0_init 21 = .ok (.bipush 8, 2) := dk_16 8 (dk_at dksX0_init_0 21 rfl rfl)
theorem dX0_init_23 : decode cX0_init 23 = .ok (.newarray .byte, 2) := dk_188_8 (dk_at dksX0_init_1 0 rfl rfl)
theorem dX0_init_25 : decode cX0_init 25 = .ok (.putfield 16, 3) := dk_181 0 16 (dk_at dksX0_init_1 2 rfl rfl)
theorem dX0_init_28 : decode cX0_init 28 = .ok (.return_, 1) := dk_177 (dk_at dksX0_init_1 5 rfl rfl)
abbrev cX0_key : ByteArray := prog_5_method_3_code
def yX0_key : MethodName := ⟨RX0, "key", "(IIIII)V"⟩
def dkwX0_key_2 : List UInt8 := [21, 6, 16, 12, 96, 21, 5, 184, 0, 19, 177]
abbrev dktX0_key_2 : List UInt8 := dkwX0_key_2 ++ []
def dkwX0_key_1 : List UInt8 := [96, 29, 184, 0, 19, 42, 180, 0, 7, 21, 6, 16, 8, 96, 21, 4, 184, 0, 19, 42, 180, 0, 7]
abbrev dktX0_key_1 : List UInt8 := dkwX0_key_1 ++ dktX0_key_2
def dkwX0_key_0 : List UInt8 := [27, 4, 126, 7, 120, 54, 6, 42, 180, 0, 7, 21, 6, 28, 184, 0, 19, 42, 180, 0, 7, 21, 6, 7]
abbrev dktX0_key_0 : List UInt8 := dkwX0_key_0 ++ dktX0_key_1
theorem dksX0_key_0 : cX0_key.data.toList.drop 0 = dktX0_key_0 := by decide +kernel
theorem dksX0_key_1 : cX0_key.data.toList.drop 24 = dktX0_key_1 := dk_seg dksX0_key_0 24 rfl rfl
theorem dksX0_key_2 : cX0_key.data.toList.drop 47 = dktX0_key_2 := dk_seg dksX0_key_1 23 rfl rfl
theorem dX0_key_0 : decode cX0_key 0 = .ok (.iload_n 1, 1) := dk_27 (dk_at dksX0_key_0 0 rfl rfl)
theorem dX0_key_1 : decode cX0_key 1 = .ok (.iconst 1, 1) := dk_4 (dk_at dksX0_key_0 1 rfl rfl)
theorem dX0_key_2 : decode cX0_key 2 = .ok (.iand, 1) := dk_126 (dk_at dksX0_key_0 2 rfl rfl)
theorem dX0_key_3 : decode cX0_key 3 = .ok (.iconst 4, 1) := dk_7 (dk_at dksX0_key_0 3 rfl rfl)
theorem dX0_key_4 : decode cX0_key 4 = .ok (.ishl, 1) := dk_120 (dk_at dksX0_key_0 4 rfl rfl)
theorem dX0_key_5 : decode cX0_key 5 = .ok (.istore 6, 2) := dk_54 6 (dk_at dksX0_key_0 5 rfl rfl)
theorem dX0_key_7 : decode cX0_key 7 = .ok (.aload_n 0, 1) := dk_42 (dk_at dksX0_key_0 7 rfl rfl)
theorem dX0_key_8 : decode cX0_key 8 = .ok (.getfield 7, 3) := dk_180 0 7 (dk_at dksX0_key_0 8 rfl rfl)
theorem dX0_key_11 : decode cX0_key 11 = .ok (.iload 6, 2) := dk_21 6 (dk_at dksX0_key_0 11 rfl rfl)
theorem dX0_key_13 : decode cX0_key 13 = .ok (.iload_n 2, 1) := dk_28 (dk_at dksX0_key_0 13 rfl rfl)
theorem dX0_key_14 : decode cX0_key 14 = .ok (.invokestatic 19, 3) := dk_184 0 19 (dk_at dksX0_key_0 14 rfl rfl)
theorem dX0_key_17 : decode cX0_key 17 = .ok (.aload_n 0, 1) := dk_42 (dk_at dksX0_key_0 17 rfl rfl)
theorem dX0_key_18 : decode cX0_key 18 = .ok (.getfield 7, 3) := dk_180 0 7 (dk_at dksX0_key_0 18 rfl rfl)
theorem dX0_key_21 : decode cX0_key 21 = .ok (.iload 6, 2) := dk_21 6 (dk_at dksX0_key_0 21 rfl rfl)
theorem dX0_key_23 : decode cX0_key 23 = .ok (.iconst 4, 1) := dk_7 (dk_at dksX0_key_0 23 rfl rfl)
theorem dX0_key_24 : decode cX0_key 24 = .ok (.iadd, 1) := dk_96 (dk_at dksX0_key_1 0 rfl rfl)
theorem dX0_key_25 : decode cX0_key 25 = .ok (.iload_n 3, 1) := dk_29 (dk_at dksX0_key_1 1 rfl rfl)
theorem dX0_key_26 : decode cX0_key 26 = .ok (.invokestatic 19, 3) := dk_184 0 19 (dk_at dksX0_key_1 2 rfl rfl)
theorem dX0_key_29 : decode cX0_key 29 = .ok (.aload_n 0, 1) := dk_42 (dk_at dksX0_key_1 5 rfl rfl)
theorem dX0_key_30 : decode cX0_key 30 = .ok (.getfield 7, 3) := dk_180 0 7 (dk_at dksX0_key_1 6 rfl rfl)
theorem dX0_key_33 : decode cX0_key 33 = .ok (.iload 6, 2) := dk_21 6 (dk_at dksX0_key_1 9 rfl rfl)
theorem dX0_key_35 : decode cX0_key 35 = .ok (.bipush 8, 2) := dk_16 8 (dk_at dksX0_key_1 11 rfl rfl)
theorem dX0_key_37 : decode cX0_key 37 = .ok (.iadd, 1) := dk_96 (dk_at dksX0_key_1 13 rfl rfl)
theorem dX0_key_38 : decode cX0_key 38 = .ok (.iload 4, 2) := dk_21 4 (dk_at dksX0_key_1 14 rfl rfl)
theorem dX0_key_40 : decode cX0_key 40 = .ok (.invokestatic 19, 3) := dk_184 0 19 (dk_at dksX0_key_1 16 rfl rfl)
theorem dX0_key_43 : decode cX0_key 43 = .ok (.aload_n 0, 1) := dk_42 (dk_at dksX0_key_1 19 rfl rfl)
theorem dX0_key_44 : decode cX0_key 44 = .ok (.getfield 7, 3) := dk_180 0 7 (dk_at dksX0_key_1 20 rfl rfl)
theorem dX0_key_47 : decode cX0_key 47 = .ok (.iload 6, 2) := dk_21 6 (dk_at dksX0_key_2 0 rfl rfl)
theorem dX0_key_49 : decode cX0_key 49 = .ok (.bipush 12, 2) := dk_16 12 (dk_at dksX0_key_2 2 rfl rfl)
theorem dX0_key_51 : decode cX0_key 51 = .ok (.iadd, 1) := dk_96 (dk_at dksX0_key_2 4 rfl rfl)
theorem dX0_key_52 : decode cX0_key 52 = .ok (.iload 5, 2) := dk_21 5 (dk_at dksX0_key_2 5 rfl rfl)
theorem dX0_key_54 : decode cX0_key 54 = .ok (.invokestatic 19, 3) := dk_184 0 19 (dk_at dksX0_key_2 7 rfl rfl)
theorem dX0_key_57 : decode cX0_key 57 = .ok (.return_, 1) := dk_177 (dk_at dksX0_key_2 10 rfl rfl)
abbrev cX0_word : ByteArray := prog_5_method_2_code
def yX0_word : MethodName := ⟨RX0, "word", "([BII)V"⟩
def dkwX0_word_1 : List UInt8 := [16, 8, 122, 145, 84, 42, 27, 6, 96, 28, 145, 84, 177]
abbrev dktX0_word_1 : List UInt8 := dkwX0_word_1 ++ []
def dkwX0_word_0 : List UInt8 := [42, 27, 28, 16, 24, 122, 145, 84, 42, 27, 4, 96, 28, 16, 16, 122, 145, 84, 42, 27, 5, 96, 28]
abbrev dktX0_word_0 : List UInt8 := dkwX0_word_0 ++ dktX0_word_1
theorem dksX0_word_0 : cX0_word.data.toList.drop 0 = dktX0_word_0 := by decide +kernel
theorem dksX0_word_1 : cX0_word.data.toList.drop 23 = dktX0_word_1 := dk_seg dksX0_word_0 23 rfl rfl
theorem dX0_word_0 : decode cX0_word 0 = .ok (.aload_n 0, 1) := dk_42 (dk_at dksX0_word_0 0 rfl rfl)
theorem dX0_word_1 : decode cX0_word 1 = .ok (.iload_n 1, 1) := dk_27 (dk_at dksX0_word_0 1 rfl rfl)
theorem dX0_word_2 : decode cX0_word 2 = .ok (.iload_n 2, 1) := dk_28 (dk_at dksX0_word_0 2 rfl rfl)
theorem dX0_word_3 : decode cX0_word 3 = .ok (.bipush 24, 2) := dk_16 24 (dk_at dksX0_word_0 3 rfl rfl)
theorem dX0_word_5 : decode cX0_word 5 = .ok (.ishr, 1) := dk_122 (dk_at dksX0_word_0 5 rfl rfl)
theorem dX0_word_6 : decode cX0_word 6 = .ok (.i2b, 1) := dk_145 (dk_at dksX0_word_0 6 rfl rfl)
theorem dX0_word_7 : decode cX0_word 7 = .ok (.bastore, 1) := dk_84 (dk_at dksX0_word_0 7 rfl rfl)
theorem dX0_word_8 : decode cX0_word 8 = .ok (.aload_n 0, 1) := dk_42 (dk_at dksX0_word_0 8 rfl rfl)
theorem dX0_word_9 : decode cX0_word 9 = .ok (.iload_n 1, 1) := dk_27 (dk_at dksX0_word_0 9 rfl rfl)
theorem dX0_word_10 : decode cX0_word 10 = .ok (.iconst 1, 1) := dk_4 (dk_at dksX0_word_0 10 rfl rfl)
theorem dX0_word_11 : decode cX0_word 11 = .ok (.iadd, 1) := dk_96 (dk_at dksX0_word_0 11 rfl rfl)
theorem dX0_word_12 : decode cX0_word 12 = .ok (.iload_n 2, 1) := dk_28 (dk_at dksX0_word_0 12 rfl rfl)
theorem dX0_word_13 : decode cX0_word 13 = .ok (.bipush 16, 2) := dk_16 16 (dk_at dksX0_word_0 13 rfl rfl)
theorem dX0_word_15 : decode cX0_word 15 = .ok (.ishr, 1) := dk_122 (dk_at dksX0_word_0 15 rfl rfl)
theorem dX0_word_16 : decode cX0_word 16 = .ok (.i2b, 1) := dk_145 (dk_at dksX0_word_0 16 rfl rfl)
theorem dX0_word_17 : decode cX0_word 17 = .ok (.bastore, 1) := dk_84 (dk_at dksX0_word_0 17 rfl rfl)
theorem dX0_word_18 : decode cX0_word 18 = .ok (.aload_n 0, 1) := dk_42 (dk_at dksX0_word_0 18 rfl rfl)
theorem dX0_word_19 : decode cX0_word 19 = .ok (.iload_n 1, 1) := dk_27 (dk_at dksX0_word_0 19 rfl rfl)
theorem dX0_word_20 : decode cX0_word 20 = .ok (.iconst 2, 1) := dk_5 (dk_at dksX0_word_0 20 rfl rfl)
theorem dX0_word_21 : decode cX0_word 21 = .ok (.iadd, 1) := dk_96 (dk_at dksX0_word_0 21 rfl rfl)
theorem dX0_word_22 : decode cX0_word 22 = .ok (.iload_n 2, 1) := dk_28 (dk_at dksX0_word_0 22 rfl rfl)
theorem dX0_word_23 : decode cX0_word 23 = .ok (.bipush 8, 2) := dk_16 8 (dk_at dksX0_word_1 0 rfl rfl)
theorem dX0_word_25 : decode cX0_word 25 = .ok (.ishr, 1) := dk_122 (dk_at dksX0_word_1 2 rfl rfl)
theorem dX0_word_26 : decode cX0_word 26 = .ok (.i2b, 1) := dk_145 (dk_at dksX0_word_1 3 rfl rfl)
theorem dX0_word_27 : decode cX0_word 27 = .ok (.bastore, 1) := dk_84 (dk_at dksX0_word_1 4 rfl rfl)
theorem dX0_word_28 : decode cX0_word 28 = .ok (.aload_n 0, 1) := dk_42 (dk_at dksX0_word_1 5 rfl rfl)
theorem dX0_word_29 : decode cX0_word 29 = .ok (.iload_n 1, 1) := dk_27 (dk_at dksX0_word_1 6 rfl rfl)
theorem dX0_word_30 : decode cX0_word 30 = .ok (.iconst 3, 1) := dk_6 (dk_at dksX0_word_1 7 rfl rfl)
theorem dX0_word_31 : decode cX0_word 31 = .ok (.iadd, 1) := dk_96 (dk_at dksX0_word_1 8 rfl rfl)
theorem dX0_word_32 : decode cX0_word 32 = .ok (.iload_n 2, 1) := dk_28 (dk_at dksX0_word_1 9 rfl rfl)
theorem dX0_word_33 : decode cX0_word 33 = .ok (.i2b, 1) := dk_145 (dk_at dksX0_word_1 10 rfl rfl)
theorem dX0_word_34 : decode cX0_word 34 = .ok (.bastore, 1) := dk_84 (dk_at dksX0_word_1 11 rfl rfl)
theorem dX0_word_35 : decode cX0_word 35 = .ok (.return_, 1) := dk_177 (dk_at dksX0_word_1 12 rfl rfl)
abbrev cX0_block : ByteArray := prog_5_method_4_code
def yX0_block : MethodName := ⟨RX0, "block", "(II)V"⟩
def dkwX0_block_0 : List UInt8 := [42, 180, 0, 13, 3, 27, 184, 0, 19, 42, 180, 0, 13, 7, 28, 184, 0, 19, 177]
abbrev dktX0_block_0 : List UInt8 := dkwX0_block_0 ++ []
theorem dksX0_block_0 : cX0_block.data.toList.drop 0 = dktX0_block_0 := by decide +kernel
theorem dX0_block_0 : decode cX0_block 0 = .ok (.aload_n 0, 1) := dk_42 (dk_at dksX0_block_0 0 rfl rfl)
theorem dX0_block_1 : decode cX0_block 1 = .ok (.getfield 13, 3) := dk_180 0 13 (dk_at dksX0_block_0 1 rfl rfl)
theorem dX0_block_4 : decode cX0_block 4 = .ok (.iconst 0, 1) := dk_3 (dk_at dksX0_block_0 4 rfl rfl)
theorem dX0_block_5 : decode cX0_block 5 = .ok (.iload_n 1, 1) := dk_27 (dk_at dksX0_block_0 5 rfl rfl)
theorem dX0_block_6 : decode cX0_block 6 = .ok (.invokestatic 19, 3) := dk_184 0 19 (dk_at dksX0_block_0 6 rfl rfl)
theorem dX0_block_9 : decode cX0_block 9 = .ok (.aload_n 0, 1) := dk_42 (dk_at dksX0_block_0 9 rfl rfl)
theorem dX0_block_10 : decode cX0_block 10 = .ok (.getfield 13, 3) := dk_180 0 13 (dk_at dksX0_block_0 10 rfl rfl)
theorem dX0_block_13 : decode cX0_block 13 = .ok (.iconst 4, 1) := dk_7 (dk_at dksX0_block_0 13 rfl rfl)
theorem dX0_block_14 : decode cX0_block 14 = .ok (.iload_n 2, 1) := dk_28 (dk_at dksX0_block_0 14 rfl rfl)
theorem dX0_block_15 : decode cX0_block 15 = .ok (.invokestatic 19, 3) := dk_184 0 19 (dk_at dksX0_block_0 15 rfl rfl)
theorem dX0_block_18 : decode cX0_block 18 = .ok (.return_, 1) := dk_177 (dk_at dksX0_block_0 18 rfl rfl)
abbrev cX0_lock : ByteArray := prog_5_method_7_code
def yX0_lock : MethodName := ⟨RX0, "lock", "(I)V"⟩
def dkwX0_lock_0 : List UInt8 := [42, 4, 27, 182, 0, 45, 177]
abbrev dktX0_lock_0 : List UInt8 := dkwX0_lock_0 ++ []
theorem dksX0_lock_0 : cX0_lock.data.toList.drop 0 = dktX0_lock_0 := by decide +kernel
theorem dX0_lock_0 : decode cX0_lock 0 = .ok (.aload_n 0, 1) := dk_42 (dk_at dksX0_lock_0 0 rfl rfl)
theorem dX0_lock_1 : decode cX0_lock 1 = .ok (.iconst 1, 1) := dk_4 (dk_at dksX0_lock_0 1 rfl rfl)
theorem dX0_lock_2 : decode cX0_lock 2 = .ok (.iload_n 1, 1) := dk_27 (dk_at dksX0_lock_0 2 rfl rfl)
theorem dX0_lock_3 : decode cX0_lock 3 = .ok (.invokevirtual 45, 3) := dk_182 0 45 (dk_at dksX0_lock_0 3 rfl rfl)
theorem dX0_lock_6 : decode cX0_lock 6 = .ok (.return_, 1) := dk_177 (dk_at dksX0_lock_0 6 rfl rfl)
abbrev cX0_run : ByteArray := prog_5_method_5_code
def yX0_run : MethodName := ⟨RX0, "run", "(ZI)V"⟩
def dkwX0_run_3 : List UInt8 := [180, 0, 13, 3, 42, 180, 0, 16, 3, 185, 0, 41, 5, 0, 87, 177]
abbrev dktX0_run_3 : List UInt8 := dkwX0_run_3 ++ []
def dkwX0_run_2 : List UInt8 := [58, 5, 25, 5, 27, 187, 0, 30, 89, 25, 4, 183, 0, 32, 185, 0, 35, 3, 0, 25, 5, 42]
abbrev dktX0_run_2 : List UInt8 := dkwX0_run_2 ++ dktX0_run_3
def dkwX0_run_1 : List UInt8 := [21, 5, 42, 180, 0, 7, 21, 5, 51, 84, 132, 5, 1, 167, 255, 235, 187, 0, 27, 89, 183, 0, 29]
abbrev dktX0_run_1 : List UInt8 := dkwX0_run_1 ++ dktX0_run_2
def dkwX0_run_0 : List UInt8 := [28, 6, 126, 184, 0, 23, 62, 29, 188, 8, 58, 4, 3, 54, 5, 21, 5, 29, 162, 0, 21, 25, 4]
abbrev dktX0_run_0 : List UInt8 := dkwX0_run_0 ++ dktX0_run_1
theorem dksX0_run_0 : cX0_run.data.toList.drop 0 = dktX0_run_0 := by decide +kernel
theorem dksX0_run_1 : cX0_run.data.toList.drop 23 = dktX0_run_1 := dk_seg dksX0_run_0 23 rfl rfl
theorem dksX0_run_2 : cX0_run.data.toList.drop 46 = dktX0_run_2 := dk_seg dksX0_run_1 23 rfl rfl
theorem dksX0_run_3 : cX0_run.data.toList.drop 68 = dktX0_run_3 := dk_seg dksX0_run_2 22 rfl rfl
theorem dX0_run_0 : decode cX0_run 0 = .ok (.iload_n 2, 1) := dk_28 (dk_at dksX0_run_0 0 rfl rfl)
theorem dX0_run_1 : decode cX0_run 1 = .ok (.iconst 3, 1) := dk_6 (dk_at dksX0_run_0 1 rfl rfl)
theorem dX0_run_2 : decode cX0_run 2 = .ok (.iand, 1) := dk_126 (dk_at dksX0_run_0 2 rfl rfl)
theorem dX0_run_3 : decode cX0_run 3 = .ok (.invokestatic 23, 3) := dk_184 0 23 (dk_at dksX0_run_0 3 rfl rfl)
theorem dX0_run_6 : decode cX0_run 6 = .ok (.istore_n 3, 1) := dk_62 (dk_at dksX0_run_0 6 rfl rfl)
theorem dX0_run_7 : decode cX0_run 7 = .ok (.iload_n 3, 1) := dk_29 (dk_at dksX0_run_0 7 rfl rfl)
theorem dX0_run_8 : decode cX0_run 8 = .ok (.newarray .byte, 2) := dk_188_8 (dk_at dksX0_run_0 8 rfl rfl)
theorem dX0_run_10 : decode cX0_run 10 = .ok (.astore 4, 2) := dk_58 4 (dk_at dksX0_run_0 10 rfl rfl)
theorem dX0_run_12 : decode cX0_run 12 = .ok (.iconst 0, 1) := dk_3 (dk_at dksX0_run_0 12 rfl rfl)
theorem dX0_run_13 : decode cX0_run 13 = .ok (.istore 5, 2) := dk_54 5 (dk_at dksX0_run_0 13 rfl rfl)
theorem dX0_run_15 : decode cX0_run 15 = .ok (.iload 5, 2) := dk_21 5 (dk_at dksX0_run_0 15 rfl rfl)
theorem dX0_run_17 : decode cX0_run 17 = .ok (.iload_n 3, 1) := dk_29 (dk_at dksX0_run_0 17 rfl rfl)
theorem dX0_run_18 : decode cX0_run 18 = .ok (.if_icmp .ge 21, 3) := dk_162 0 21 (dk_at dksX0_run_0 18 rfl rfl)
theorem dX0_run_21 : decode cX0_run 21 = .ok (.aload 4, 2) := dk_25 4 (dk_at dksX0_run_0 21 rfl rfl)
theorem dX0_run_23 : decode cX0_run 23 = .ok (.iload 5, 2) := dk_21 5 (dk_at dksX0_run_1 0 rfl rfl)
theorem dX0_run_25 : decode cX0_run 25 = .ok (.aload_n 0, 1) := dk_42 (dk_at dksX0_run_1 2 rfl rfl)
theorem dX0_run_26 : decode cX0_run 26 = .ok (.getfield 7, 3) := dk_180 0 7 (dk_at dksX0_run_1 3 rfl rfl)
theorem dX0_run_29 : decode cX0_run 29 = .ok (.iload 5, 2) := dk_21 5 (dk_at dksX0_run_1 6 rfl rfl)
theorem dX0_run_31 : decode cX0_run 31 = .ok (.baload, 1) := dk_51 (dk_at dksX0_run_1 8 rfl rfl)
theorem dX0_run_32 : decode cX0_run 32 = .ok (.bastore, 1) := dk_84 (dk_at dksX0_run_1 9 rfl rfl)
theorem dX0_run_33 : decode cX0_run 33 = .ok (.iinc 5 1, 3) := dk_132 5 1 (dk_at dksX0_run_1 10 rfl rfl)
theorem dX0_run_36 : decode cX0_run 36 = .ok (.goto (-21), 3) := dk_167 255 235 (dk_at dksX0_run_1 13 rfl rfl)
theorem dX0_run_39 : decode cX0_run 39 = .ok (.new 27, 3) := dk_187 0 27 (dk_at dksX0_run_1 16 rfl rfl)
theorem dX0_run_42 : decode cX0_run 42 = .ok (.dup, 1) := dk_89 (dk_at dksX0_run_1 19 rfl rfl)
theorem dX0_run_43 : decode cX0_run 43 = .ok (.invokespecial 29, 3) := dk_183 0 29 (dk_at dksX0_run_1 20 rfl rfl)
theorem dX0_run_46 : decode cX0_run 46 = .ok (.astore 5, 2) := dk_58 5 (dk_at dksX0_run_2 0 rfl rfl)
theorem dX0_run_48 : decode cX0_run 48 = .ok (.aload 5, 2) := dk_25 5 (dk_at dksX0_run_2 2 rfl rfl)
theorem dX0_run_50 : decode cX0_run 50 = .ok (.iload_n 1, 1) := dk_27 (dk_at dksX0_run_2 4 rfl rfl)
theorem dX0_run_51 : decode cX0_run 51 = .ok (.new 30, 3) := dk_187 0 30 (dk_at dksX0_run_2 5 rfl rfl)
theorem dX0_run_54 : decode cX0_run 54 = .ok (.dup, 1) := dk_89 (dk_at dksX0_run_2 8 rfl rfl)
theorem dX0_run_55 : decode cX0_run 55 = .ok (.aload 4, 2) := dk_25 4 (dk_at dksX0_run_2 9 rfl rfl)
theorem dX0_run_57 : decode cX0_run 57 = .ok (.invokespecial 32, 3) := dk_183 0 32 (dk_at dksX0_run_2 11 rfl rfl)
theorem dX0_run_60 : decode cX0_run 60 = .ok (.invokeinterface 35 3, 5) := by decide +kernel
theorem dX0_run_65 : decode cX0_run 65 = .ok (.aload 5, 2) := dk_25 5 (dk_at dksX0_run_2 19 rfl rfl)
theorem dX0_run_67 : decode cX0_run 67 = .ok (.aload_n 0, 1) := dk_42 (dk_at dksX0_run_2 21 rfl rfl)
theorem dX0_run_68 : decode cX0_run 68 = .ok (.getfield 13, 3) := dk_180 0 13 (dk_at dksX0_run_3 0 rfl rfl)
theorem dX0_run_71 : decode cX0_run 71 = .ok (.iconst 0, 1) := dk_3 (dk_at dksX0_run_3 3 rfl rfl)
theorem dX0_run_72 : decode cX0_run 72 = .ok (.aload_n 0, 1) := dk_42 (dk_at dksX0_run_3 4 rfl rfl)
theorem dX0_run_73 : decode cX0_run 73 = .ok (.getfield 16, 3) := dk_180 0 16 (dk_at dksX0_run_3 5 rfl rfl)
theorem dX0_run_76 : decode cX0_run 76 = .ok (.iconst 0, 1) := dk_3 (dk_at dksX0_run_3 8 rfl rfl)
theorem dX0_run_77 : decode cX0_run 77 = .ok (.invokeinterface 41 5, 5) := by decide +kernel
theorem dX0_run_82 : decode cX0_run 82 = .ok (.pop, 1) := dk_87 (dk_at dksX0_run_3 14 rfl rfl)
theorem dX0_run_83 : decode cX0_run 83 = .ok (.return_, 1) := dk_177 (dk_at dksX0_run_3 15 rfl rfl)
abbrev cX0_size : ByteArray := prog_5_method_6_code
def yX0_size : MethodName := ⟨RX0, "size", "(I)I"⟩
theorem dX0_size_0 : decode cX0_size 0 = .ok (.bipush 16, 2) := by decide +kernel
theorem dX0_size_2 : decode cX0_size 2 = .ok (.ireturn, 1) := by decide +kernel
abbrev cX0_open : ByteArray := prog_5_method_8_code
def yX0_open : MethodName := ⟨RX0, "open", "(I)V"⟩
def dkwX0_open_0 : List UInt8 := [42, 3, 27, 182, 0, 45, 177]
abbrev dktX0_open_0 : List UInt8 := dkwX0_open_0 ++ []
theorem dksX0_open_0 : cX0_open.data.toList.drop 0 = dktX0_open_0 := by decide +kernel
theorem dX0_open_0 : decode cX0_open 0 = .ok (.aload_n 0, 1) := dk_42 (dk_at dksX0_open_0 0 rfl rfl)
theorem dX0_open_1 : decode cX0_open 1 = .ok (.iconst 0, 1) := dk_3 (dk_at dksX0_open_0 1 rfl rfl)
theorem dX0_open_2 : decode cX0_open 2 = .ok (.iload_n 1, 1) := dk_27 (dk_at dksX0_open_0 2 rfl rfl)
theorem dX0_open_3 : decode cX0_open 3 = .ok (.invokevirtual 45, 3) := dk_182 0 45 (dk_at dksX0_open_0 3 rfl rfl)
theorem dX0_open_6 : decode cX0_open 6 = .ok (.return_, 1) := dk_177 (dk_at dksX0_open_0 6 rfl rfl)
abbrev cX0_again : ByteArray := prog_5_method_9_code
def yX0_again : MethodName := ⟨RX0, "again", "()V"⟩
def dkwX0_again_1 : List UInt8 := [167, 255, 235, 177]
abbrev dktX0_again_1 : List UInt8 := dkwX0_again_1 ++ []
def dkwX0_again_0 : List UInt8 := [3, 60, 27, 16, 8, 162, 0, 21, 42, 180, 0, 13, 27, 42, 180, 0, 16, 27, 51, 84, 132, 1, 1]
abbrev dktX0_again_0 : List UInt8 := dkwX0_again_0 ++ dktX0_again_1
theorem dksX0_again_0 : cX0_again.data.toList.drop 0 = dktX0_again_0 := by decide +kernel
theorem dksX0_again_1 : cX0_again.data.toList.drop 23 = dktX0_again_1 := dk_seg dksX0_again_0 23 rfl rfl
theorem dX0_again_0 : decode cX0_again 0 = .ok (.iconst 0, 1) := dk_3 (dk_at dksX0_again_0 0 rfl rfl)
theorem dX0_again_1 : decode cX0_again 1 = .ok (.istore_n 1, 1) := dk_60 (dk_at dksX0_again_0 1 rfl rfl)
theorem dX0_again_2 : decode cX0_again 2 = .ok (.iload_n 1, 1) := dk_27 (dk_at dksX0_again_0 2 rfl rfl)
theorem dX0_again_3 : decode cX0_again 3 = .ok (.bipush 8, 2) := dk_16 8 (dk_at dksX0_again_0 3 rfl rfl)
theorem dX0_again_5 : decode cX0_again 5 = .ok (.if_icmp .ge 21, 3) := dk_162 0 21 (dk_at dksX0_again_0 5 rfl rfl)
theorem dX0_again_8 : decode cX0_again 8 = .ok (.aload_n 0, 1) := dk_42 (dk_at dksX0_again_0 8 rfl rfl)
theorem dX0_again_9 : decode cX0_again 9 = .ok (.getfield 13, 3) := dk_180 0 13 (dk_at dksX0_again_0 9 rfl rfl)
theorem dX0_again_12 : decode cX0_again 12 = .ok (.iload_n 1, 1) := dk_27 (dk_at dksX0_again_0 12 rfl rfl)
theorem dX0_again_13 : decode cX0_again 13 = .ok (.aload_n 0, 1) := dk_42 (dk_at dksX0_again_0 13 rfl rfl)
theorem dX0_again_14 : decode cX0_again 14 = .ok (.getfield 16, 3) := dk_180 0 16 (dk_at dksX0_again_0 14 rfl rfl)
theorem dX0_again_17 : decode cX0_again 17 = .ok (.iload_n 1, 1) := dk_27 (dk_at dksX0_again_0 17 rfl rfl)
theorem dX0_again_18 : decode cX0_again 18 = .ok (.baload, 1) := dk_51 (dk_at dksX0_again_0 18 rfl rfl)
theorem dX0_again_19 : decode cX0_again 19 = .ok (.bastore, 1) := dk_84 (dk_at dksX0_again_0 19 rfl rfl)
theorem dX0_again_20 : decode cX0_again 20 = .ok (.iinc 1 1, 3) := dk_132 1 1 (dk_at dksX0_again_0 20 rfl rfl)
theorem dX0_again_23 : decode cX0_again 23 = .ok (.goto (-21), 3) := dk_167 255 235 (dk_at dksX0_again_1 0 rfl rfl)
theorem dX0_again_26 : decode cX0_again 26 = .ok (.return_, 1) := dk_177 (dk_at dksX0_again_1 3 rfl rfl)
abbrev cX0_out : ByteArray := prog_5_method_10_code
def yX0_out : MethodName := ⟨RX0, "out", "(I)I"⟩
def dkwX0_out_0 : List UInt8 := [42, 180, 0, 16, 27, 16, 7, 126, 51, 17, 0, 255, 126, 172]
abbrev dktX0_out_0 : List UInt8 := dkwX0_out_0 ++ []
theorem dksX0_out_0 : cX0_out.data.toList.drop 0 = dktX0_out_0 := by decide +kernel
theorem dX0_out_0 : decode cX0_out 0 = .ok (.aload_n 0, 1) := dk_42 (dk_at dksX0_out_0 0 rfl rfl)
theorem dX0_out_1 : decode cX0_out 1 = .ok (.getfield 16, 3) := dk_180 0 16 (dk_at dksX0_out_0 1 rfl rfl)
theorem dX0_out_4 : decode cX0_out 4 = .ok (.iload_n 1, 1) := dk_27 (dk_at dksX0_out_0 4 rfl rfl)
theorem dX0_out_5 : decode cX0_out 5 = .ok (.bipush 7, 2) := dk_16 7 (dk_at dksX0_out_0 5 rfl rfl)
theorem dX0_out_7 : decode cX0_out 7 = .ok (.iand, 1) := dk_126 (dk_at dksX0_out_0 7 rfl rfl)
theorem dX0_out_8 : decode cX0_out 8 = .ok (.baload, 1) := dk_51 (dk_at dksX0_out_0 8 rfl rfl)
theorem dX0_out_9 : decode cX0_out 9 = .ok (.sipush 255, 3) := dk_17 0 255 (dk_at dksX0_out_0 9 rfl rfl)
theorem dX0_out_12 : decode cX0_out 12 = .ok (.iand, 1) := dk_126 (dk_at dksX0_out_0 12 rfl rfl)
theorem dX0_out_13 : decode cX0_out 13 = .ok (.ireturn, 1) := dk_172 (dk_at dksX0_out_0 13 rfl rfl)
theorem q13 : (Jvm.Cond.initialized "IdeaDesk") ∈ lw_all := lw_g (lw_at lw_m1 1 rfl) rfl
theorem q27 : (Jvm.Cond.instantiable "IdeaDesk" (3 : Nat)) ∈ lw_all := lw_g (lw_at lw_m1 15 rfl) rfl
theorem q29 : (Jvm.Cond.instanceMethod ({ cls := "IdeaDesk", name := "<init>", desc := "()V" } : Jvm.MethodName)) ∈ lw_all := lw_g (lw_at lw_m1 17 rfl) rfl
theorem q30 : (Jvm.Cond.code ({ cls := "IdeaDesk", name := "<init>", desc := "()V" } : Jvm.MethodName) prog_5_method_1_code (1 : Nat) (Option.none : Option Jvm.ClassFile.FieldType)) ∈ lw_all := lw_g (lw_at lw_m1 18 rfl) rfl
theorem q31 : (Jvm.Cond.methodLink "IdeaDesk" (1 : Nat) ({ cls := "java/lang/Object", name := "<init>", desc := "()V" } : Jvm.MethodName)) ∈ lw_all := lw_g (lw_at lw_m1 19 rfl) rfl
theorem q34 : (Jvm.Cond.fieldLink "IdeaDesk" (7 : Nat) "IdeaDesk" "key" "[B") ∈ lw_all := lw_g (lw_at lw_m1 22 rfl) rfl
theorem q35 : (Jvm.Cond.fieldLink "IdeaDesk" (13 : Nat) "IdeaDesk" "block" "[B") ∈ lw_all := lw_g (lw_at lw_m1 23 rfl) rfl
theorem q36 : (Jvm.Cond.fieldLink "IdeaDesk" (16 : Nat) "IdeaDesk" "out" "[B") ∈ lw_all := lw_g (lw_at lw_m1 24 rfl) rfl
theorem q37 : (Jvm.Cond.laysFinal "IdeaDesk" "IdeaDesk" "key" "[B") ∈ lw_all := lw_g (lw_at lw_m1 25 rfl) rfl
theorem q38 : (Jvm.Cond.soleField "IdeaDesk" "key") ∈ lw_all := lw_g (lw_at lw_m1 26 rfl) rfl
theorem q39 : (Jvm.Cond.laysFinal "IdeaDesk" "IdeaDesk" "block" "[B") ∈ lw_all := lw_g (lw_at lw_m1 27 rfl) rfl
theorem q40 : (Jvm.Cond.soleField "IdeaDesk" "block") ∈ lw_all := lw_g (lw_at lw_m1 28 rfl) rfl
theorem q41 : (Jvm.Cond.laysFinal "IdeaDesk" "IdeaDesk" "out" "[B") ∈ lw_all := lw_g (lw_at lw_m1 29 rfl) rfl
theorem q42 : (Jvm.Cond.soleField "IdeaDesk" "out") ∈ lw_all := lw_g (lw_at lw_m1 30 rfl) rfl
theorem q43 : (Jvm.Cond.superclass "IdeaDesk" "java/lang/Object") ∈ lw_all := lw_g (lw_at lw_m1 31 rfl) rfl
theorem q46 : (Jvm.Cond.instanceMethod ({ cls := "IdeaDesk", name := "key", desc := "(IIIII)V" } : Jvm.MethodName)) ∈ lw_all := lw_g (lw_at lw_m1 34 rfl) rfl
theorem q47 : (Jvm.Cond.selects "IdeaDesk" ({ cls := "IdeaDesk", name := "key", desc := "(IIIII)V" } : Jvm.MethodName) ({ cls := "IdeaDesk", name := "key", desc := "(IIIII)V" } : Jvm.MethodName)) ∈ lw_all := lw_g (lw_at lw_m1 35 rfl) rfl
theorem q48 : (Jvm.Cond.code ({ cls := "IdeaDesk", name := "key", desc := "(IIIII)V" } : Jvm.MethodName) prog_5_method_3_code (7 : Nat) (Option.none : Option Jvm.ClassFile.FieldType)) ∈ lw_all := lw_g (lw_at lw_m1 36 rfl) rfl
theorem q49 : (Jvm.Cond.methodLink "IdeaDesk" (19 : Nat) ({ cls := "IdeaDesk", name := "word", desc := "([BII)V" } : Jvm.MethodName)) ∈ lw_all := lw_g (lw_at lw_m1 37 rfl) rfl
theorem q50 : (Jvm.Cond.static ({ cls := "IdeaDesk", name := "word", desc := "([BII)V" } : Jvm.MethodName)) ∈ lw_all := lw_g (lw_at lw_m1 38 rfl) rfl
theorem q51 : (Jvm.Cond.code ({ cls := "IdeaDesk", name := "word", desc := "([BII)V" } : Jvm.MethodName) prog_5_method_2_code (3 : Nat) (Option.none : Option Jvm.ClassFile.FieldType)) ∈ lw_all := lw_g (lw_at lw_m1 39 rfl) rfl
theorem q53 : (Jvm.Cond.instanceMethod ({ cls := "IdeaDesk", name := "block", desc := "(II)V" } : Jvm.MethodName)) ∈ lw_all := lw_g (lw_at lw_m1 41 rfl) rfl
theorem q54 : (Jvm.Cond.selects "IdeaDesk" ({ cls := "IdeaDesk", name := "block", desc := "(II)V" } : Jvm.MethodName) ({ cls := "IdeaDesk", name := "block", desc := "(II)V" } : Jvm.MethodName)) ∈ lw_all := lw_g (lw_at lw_m1 42 rfl) rfl
theorem q55 : (Jvm.Cond.code ({ cls := "IdeaDesk", name := "block", desc := "(II)V" } : Jvm.MethodName) prog_5_method_4_code (3 : Nat) (Option.none : Option Jvm.ClassFile.FieldType)) ∈ lw_all := lw_g (lw_at lw_m1 43 rfl) rfl
theorem q57 : (Jvm.Cond.instanceMethod ({ cls := "IdeaDesk", name := "lock", desc := "(I)V" } : Jvm.MethodName)) ∈ lw_all := lw_g (lw_at lw_m1 45 rfl) rfl
theorem q58 : (Jvm.Cond.selects "IdeaDesk" ({ cls := "IdeaDesk", name := "lock", desc := "(I)V" } : Jvm.MethodName) ({ cls := "IdeaDesk", name := "lock", desc := "(I)V" } : Jvm.MethodName)) ∈ lw_all := lw_g (lw_at lw_m1 46 rfl) rfl
theorem q59 : (Jvm.Cond.code ({ cls := "IdeaDesk", name := "lock", desc := "(I)V" } : Jvm.MethodName) prog_5_method_7_code (2 : Nat) (Option.none : Option Jvm.ClassFile.FieldType)) ∈ lw_all := lw_g (lw_at lw_m1 47 rfl) rfl
theorem q60 : (Jvm.Cond.methodLink "IdeaDesk" (45 : Nat) ({ cls := "IdeaDesk", name := "run", desc := "(ZI)V" } : Jvm.MethodName)) ∈ lw_all := lw_g (lw_at lw_m1 48 rfl) rfl
theorem q61 : (Jvm.Cond.privateMethod ({ cls := "IdeaDesk", name := "run", desc := "(ZI)V" } : Jvm.MethodName)) ∈ lw_tbl := lw_at lw_m1 49 rfl
theorem q62 : (Jvm.Cond.instanceMethod ({ cls := "IdeaDesk", name := "run", desc := "(ZI)V" } : Jvm.MethodName)) ∈ lw_all := lw_g (lw_at lw_m1 50 rfl) rfl
theorem q63 : (Jvm.Cond.code ({ cls := "IdeaDesk", name := "run", desc := "(ZI)V" } : Jvm.MethodName) prog_5_method_5_code (6 : Nat) (Option.none : Option Jvm.ClassFile.FieldType)) ∈ lw_all := lw_g (lw_at lw_m1 51 rfl) rfl
theorem q64 : (Jvm.Cond.methodLink "IdeaDesk" (23 : Nat) ({ cls := "IdeaDesk", name := "size", desc := "(I)I" } : Jvm.MethodName)) ∈ lw_all := lw_g (lw_at lw_m1 52 rfl) rfl
theorem q65 : (Jvm.Cond.static ({ cls := "IdeaDesk", name := "size", desc := "(I)I" } : Jvm.MethodName)) ∈ lw_all := lw_g (lw_at lw_m1 53 rfl) rfl
theorem q66 : (Jvm.Cond.code ({ cls := "IdeaDesk", name := "size", desc := "(I)I" } : Jvm.MethodName) prog_5_method_6_code (1 : Nat) (Option.some Jvm.ClassFile.FieldType.int)) ∈ lw_all := lw_g (lw_at lw_m1 54 rfl) rfl
theorem q67 : (Jvm.Cond.classLink "IdeaDesk" (27 : Nat) "IDEAEngine") ∈ lw_all := lw_g (lw_at lw_m1 55 rfl) rfl
theorem q69 : (Jvm.Cond.methodLink "IdeaDesk" (29 : Nat) ({ cls := "IDEAEngine", name := "<init>", desc := "()V" } : Jvm.MethodName)) ∈ lw_all := lw_g (lw_at lw_m1 57 rfl) rfl
theorem q80 : (Jvm.Cond.classLink "IdeaDesk" (30 : Nat) "KeyParameter") ∈ lw_all := lw_g (lw_at lw_m1 68 rfl) rfl
theorem q82 : (Jvm.Cond.methodLink "IdeaDesk" (32 : Nat) ({ cls := "KeyParameter", name := "<init>", desc := "([B)V" } : Jvm.MethodName)) ∈ lw_all := lw_g (lw_at lw_m1 70 rfl) rfl
theorem q99 : (Jvm.Cond.interfaceEntry "IdeaDesk" (35 : Nat)) ∈ lw_tbl := lw_at lw_m1 87 rfl
theorem q100 : (Jvm.Cond.methodLink "IdeaDesk" (35 : Nat) ({ cls := "BlockCipher", name := "init", desc := "(ZLCipherParameters;)V" } : Jvm.MethodName)) ∈ lw_all := lw_g (lw_at lw_m1 88 rfl) rfl
theorem q211 : (Jvm.Cond.interfaceEntry "IdeaDesk" (41 : Nat)) ∈ lw_tbl := lw_at lw_m1 199 rfl
theorem q212 : (Jvm.Cond.methodLink "IdeaDesk" (41 : Nat) ({ cls := "BlockCipher", name := "processBlock", desc := "([BI[BI)I" } : Jvm.MethodName)) ∈ lw_all := lw_g (lw_at lw_m1 200 rfl) rfl
theorem q286 : (Jvm.Cond.instanceMethod ({ cls := "IdeaDesk", name := "open", desc := "(I)V" } : Jvm.MethodName)) ∈ lw_all := lw_g (lw_at lw_m2 34 rfl) rfl
theorem q287 : (Jvm.Cond.selects "IdeaDesk" ({ cls := "IdeaDesk", name := "open", desc := "(I)V" } : Jvm.MethodName) ({ cls := "IdeaDesk", name := "open", desc := "(I)V" } : Jvm.MethodName)) ∈ lw_all := lw_g (lw_at lw_m2 35 rfl) rfl
theorem q288 : (Jvm.Cond.code ({ cls := "IdeaDesk", name := "open", desc := "(I)V" } : Jvm.MethodName) prog_5_method_8_code (2 : Nat) (Option.none : Option Jvm.ClassFile.FieldType)) ∈ lw_all := lw_g (lw_at lw_m2 36 rfl) rfl
theorem q290 : (Jvm.Cond.instanceMethod ({ cls := "IdeaDesk", name := "again", desc := "()V" } : Jvm.MethodName)) ∈ lw_all := lw_g (lw_at lw_m2 38 rfl) rfl
theorem q291 : (Jvm.Cond.selects "IdeaDesk" ({ cls := "IdeaDesk", name := "again", desc := "()V" } : Jvm.MethodName) ({ cls := "IdeaDesk", name := "again", desc := "()V" } : Jvm.MethodName)) ∈ lw_all := lw_g (lw_at lw_m2 39 rfl) rfl
theorem q292 : (Jvm.Cond.code ({ cls := "IdeaDesk", name := "again", desc := "()V" } : Jvm.MethodName) prog_5_method_9_code (2 : Nat) (Option.none : Option Jvm.ClassFile.FieldType)) ∈ lw_all := lw_g (lw_at lw_m2 40 rfl) rfl
theorem q294 : (Jvm.Cond.instanceMethod ({ cls := "IdeaDesk", name := "out", desc := "(I)I" } : Jvm.MethodName)) ∈ lw_all := lw_g (lw_at lw_m2 42 rfl) rfl
theorem q295 : (Jvm.Cond.selects "IdeaDesk" ({ cls := "IdeaDesk", name := "out", desc := "(I)I" } : Jvm.MethodName) ({ cls := "IdeaDesk", name := "out", desc := "(I)I" } : Jvm.MethodName)) ∈ lw_all := lw_g (lw_at lw_m2 43 rfl) rfl
theorem q296 : (Jvm.Cond.code ({ cls := "IdeaDesk", name := "out", desc := "(I)I" } : Jvm.MethodName) prog_5_method_10_code (2 : Nat) (Option.some Jvm.ClassFile.FieldType.int)) ∈ lw_all := lw_g (lw_at lw_m2 44 rfl) rfl
theorem in_X0 : ∀ w ∈ wsX00, w ∈ lw_all := lw_in wsX00 [37, 39, 41] (by decide +kernel) (by decide +kernel)
end
section
/-! IdeaDeskModel -/
set_option maxRecDepth 100000
def RX1 : String := "IdeaDeskModel"
def TX1 : u_T := fun k => match k with
  | 0 => ("IdeaDeskModel", "key", "[B", true)
  | 1 => ("IdeaDeskModel", "block", "[B", true)
  | _ => ("IdeaDeskModel", "out", "[B", true)
def tyX1 : Nat → FieldType := fun k => match k with
  | 0 => .array .byte
  | 1 => .array .byte
  | _ => .array .byte
abbrev wsX10 : List Cond := u_ws RX1 TX1 3
theorem nmX1 : ∀ a, a < 3 → ∀ b, b < 3 → a ≠ b → (TX1 a).2.1 ≠ (TX1 b).2.1 := by decide +kernel
theorem tyX1_ok : ∀ k, k < 3 → parseFieldDescriptor (TX1 k).2.2.1 = some (tyX1 k) := by decide +kernel
abbrev cX1_init : ByteArray := prog_7_method_1_code
def yX1_init : MethodName := ⟨RX1, "<init>", "()V"⟩
def dkwX1_init_1 : List UInt8 := [188, 8, 181, 0, 16, 177]
abbrev dktX1_init_1 : List UInt8 := dkwX1_init_1 ++ []
def dkwX1_init_0 : List UInt8 := [42, 183, 0, 1, 42, 16, 32, 188, 8, 181, 0, 7, 42, 16, 8, 188, 8, 181, 0, 13, 42, 16, 8]
abbrev dktX1_init_0 : List UInt8 := dkwX1_init_0 ++ dktX1_init_1
theorem dksX1_init_0 : cX1_init.data.toList.drop 0 = dktX1_init_0 := by decide +kernel
theorem dksX1_init_1 : cX1_init.data.toList.drop 23 = dktX1_init_1 := dk_seg dksX1_init_0 23 rfl rfl
theorem dX1_init_0 : decode cX1_init 0 = .ok (.aload_n 0, 1) := dk_42 (dk_at dksX1_init_0 0 rfl rfl)
theorem dX1_init_1 : decode cX1_init 1 = .ok (.invokespecial 1, 3) := dk_183 0 1 (dk_at dksX1_init_0 1 rfl rfl)
theorem dX1_init_4 : decode cX1_init 4 = .ok (.aload_n 0, 1) := dk_42 (dk_at dksX1_init_0 4 rfl rfl)
theorem dX1_init_5 : decode cX1_init 5 = .ok (.bipush 32, 2) := dk_16 32 (dk_at dksX1_init_0 5 rfl rfl)
theorem dX1_init_7 : decode cX1_init 7 = .ok (.newarray .byte, 2) := dk_188_8 (dk_at dksX1_init_0 7 rfl rfl)
theorem dX1_init_9 : decode cX1_init 9 = .ok (.putfield 7, 3) := dk_181 0 7 (dk_at dksX1_init_0 9 rfl rfl)
theorem dX1_init_12 : decode cX1_init 12 = .ok (.aload_n 0, 1) := dk_42 (dk_at dksX1_init_0 12 rfl rfl)
theorem dX1_init_13 : decode cX1_init 13 = .ok (.bipush 8, 2) := dk_16 8 (dk_at dksX1_init_0 13 rfl rfl)
theorem dX1_init_15 : decode cX1_init 15 = .ok (.newarray .byte, 2) := dk_188_8 (dk_at dksX1_init_0 15 rfl rfl)
theorem dX1_init_17 : decode cX1_init 17 = .ok (.putfield 13, 3) := dk_181 0 13 (dk_at dksX1_init_0 17 rfl rfl)
theorem dX1_init_20 : decode cX1_init 20 = .ok (.aload_n 0, 1) := dk_42 (dk_at dksX1_init_0 20 rfl rfl)
theorem dX1_init_21 : decode cX1_init 21 = .ok (.bipush 8, 2) := dk_16 8 (dk_at dksX1_init_0 21 rfl rfl)
theorem dX1_init_23 : decode cX1_init 23 = .ok (.newarray .byte, 2) := dk_188_8 (dk_at dksX1_init_1 0 rfl rfl)
theorem dX1_init_25 : decode cX1_init 25 = .ok (.putfield 16, 3) := dk_181 0 16 (dk_at dksX1_init_1 2 rfl rfl)
theorem dX1_init_28 : decode cX1_init 28 = .ok (.return_, 1) := dk_177 (dk_at dksX1_init_1 5 rfl rfl)
abbrev cX1_key : ByteArray := prog_7_method_3_code
def yX1_key : MethodName := ⟨RX1, "key", "(IIIII)V"⟩
def dkwX1_key_2 : List UInt8 := [21, 6, 16, 12, 96, 21, 5, 184, 0, 19, 177]
abbrev dktX1_key_2 : List UInt8 := dkwX1_key_2 ++ []
def dkwX1_key_1 : List UInt8 := [7, 96, 29, 184, 0, 19, 42, 180, 0, 7, 21, 6, 16, 8, 96, 21, 4, 184, 0, 19, 42, 180, 0, 7]
abbrev dktX1_key_1 : List UInt8 := dkwX1_key_1 ++ dktX1_key_2
def dkwX1_key_0 : List UInt8 := [16, 16, 27, 4, 126, 104, 54, 6, 42, 180, 0, 7, 21, 6, 28, 184, 0, 19, 42, 180, 0, 7, 21, 6]
abbrev dktX1_key_0 : List UInt8 := dkwX1_key_0 ++ dktX1_key_1
theorem dksX1_key_0 : cX1_key.data.toList.drop 0 = dktX1_key_0 := by decide +kernel
theorem dksX1_key_1 : cX1_key.data.toList.drop 24 = dktX1_key_1 := dk_seg dksX1_key_0 24 rfl rfl
theorem dksX1_key_2 : cX1_key.data.toList.drop 48 = dktX1_key_2 := dk_seg dksX1_key_1 24 rfl rfl
theorem dX1_key_0 : decode cX1_key 0 = .ok (.bipush 16, 2) := dk_16 16 (dk_at dksX1_key_0 0 rfl rfl)
theorem dX1_key_2 : decode cX1_key 2 = .ok (.iload_n 1, 1) := dk_27 (dk_at dksX1_key_0 2 rfl rfl)
theorem dX1_key_3 : decode cX1_key 3 = .ok (.iconst 1, 1) := dk_4 (dk_at dksX1_key_0 3 rfl rfl)
theorem dX1_key_4 : decode cX1_key 4 = .ok (.iand, 1) := dk_126 (dk_at dksX1_key_0 4 rfl rfl)
theorem dX1_key_5 : decode cX1_key 5 = .ok (.imul, 1) := dk_104 (dk_at dksX1_key_0 5 rfl rfl)
theorem dX1_key_6 : decode cX1_key 6 = .ok (.istore 6, 2) := dk_54 6 (dk_at dksX1_key_0 6 rfl rfl)
theorem dX1_key_8 : decode cX1_key 8 = .ok (.aload_n 0, 1) := dk_42 (dk_at dksX1_key_0 8 rfl rfl)
theorem dX1_key_9 : decode cX1_key 9 = .ok (.getfield 7, 3) := dk_180 0 7 (dk_at dksX1_key_0 9 rfl rfl)
theorem dX1_key_12 : decode cX1_key 12 = .ok (.iload 6, 2) := dk_21 6 (dk_at dksX1_key_0 12 rfl rfl)
theorem dX1_key_14 : decode cX1_key 14 = .ok (.iload_n 2, 1) := dk_28 (dk_at dksX1_key_0 14 rfl rfl)
theorem dX1_key_15 : decode cX1_key 15 = .ok (.invokestatic 19, 3) := dk_184 0 19 (dk_at dksX1_key_0 15 rfl rfl)
theorem dX1_key_18 : decode cX1_key 18 = .ok (.aload_n 0, 1) := dk_42 (dk_at dksX1_key_0 18 rfl rfl)
theorem dX1_key_19 : decode cX1_key 19 = .ok (.getfield 7, 3) := dk_180 0 7 (dk_at dksX1_key_0 19 rfl rfl)
theorem dX1_key_22 : decode cX1_key 22 = .ok (.iload 6, 2) := dk_21 6 (dk_at dksX1_key_0 22 rfl rfl)
theorem dX1_key_24 : decode cX1_key 24 = .ok (.iconst 4, 1) := dk_7 (dk_at dksX1_key_1 0 rfl rfl)
theorem dX1_key_25 : decode cX1_key 25 = .ok (.iadd, 1) := dk_96 (dk_at dksX1_key_1 1 rfl rfl)
theorem dX1_key_26 : decode cX1_key 26 = .ok (.iload_n 3, 1) := dk_29 (dk_at dksX1_key_1 2 rfl rfl)
theorem dX1_key_27 : decode cX1_key 27 = .ok (.invokestatic 19, 3) := dk_184 0 19 (dk_at dksX1_key_1 3 rfl rfl)
theorem dX1_key_30 : decode cX1_key 30 = .ok (.aload_n 0, 1) := dk_42 (dk_at dksX1_key_1 6 rfl rfl)
theorem dX1_key_31 : decode cX1_key 31 = .ok (.getfield 7, 3) := dk_180 0 7 (dk_at dksX1_key_1 7 rfl rfl)
theorem dX1_key_34 : decode cX1_key 34 = .ok (.iload 6, 2) := dk_21 6 (dk_at dksX1_key_1 10 rfl rfl)
theorem dX1_key_36 : decode cX1_key 36 = .ok (.bipush 8, 2) := dk_16 8 (dk_at dksX1_key_1 12 rfl rfl)
theorem dX1_key_38 : decode cX1_key 38 = .ok (.iadd, 1) := dk_96 (dk_at dksX1_key_1 14 rfl rfl)
theorem dX1_key_39 : decode cX1_key 39 = .ok (.iload 4, 2) := dk_21 4 (dk_at dksX1_key_1 15 rfl rfl)
theorem dX1_key_41 : decode cX1_key 41 = .ok (.invokestatic 19, 3) := dk_184 0 19 (dk_at dksX1_key_1 17 rfl rfl)
theorem dX1_key_44 : decode cX1_key 44 = .ok (.aload_n 0, 1) := dk_42 (dk_at dksX1_key_1 20 rfl rfl)
theorem dX1_key_45 : decode cX1_key 45 = .ok (.getfield 7, 3) := dk_180 0 7 (dk_at dksX1_key_1 21 rfl rfl)
theorem dX1_key_48 : decode cX1_key 48 = .ok (.iload 6, 2) := dk_21 6 (dk_at dksX1_key_2 0 rfl rfl)
theorem dX1_key_50 : decode cX1_key 50 = .ok (.bipush 12, 2) := dk_16 12 (dk_at dksX1_key_2 2 rfl rfl)
theorem dX1_key_52 : decode cX1_key 52 = .ok (.iadd, 1) := dk_96 (dk_at dksX1_key_2 4 rfl rfl)
theorem dX1_key_53 : decode cX1_key 53 = .ok (.iload 5, 2) := dk_21 5 (dk_at dksX1_key_2 5 rfl rfl)
theorem dX1_key_55 : decode cX1_key 55 = .ok (.invokestatic 19, 3) := dk_184 0 19 (dk_at dksX1_key_2 7 rfl rfl)
theorem dX1_key_58 : decode cX1_key 58 = .ok (.return_, 1) := dk_177 (dk_at dksX1_key_2 10 rfl rfl)
abbrev cX1_put : ByteArray := prog_7_method_2_code
def yX1_put : MethodName := ⟨RX1, "put", "([BII)V"⟩
def dkwX1_put_1 : List UInt8 := [132, 3, 1, 167, 255, 233, 177]
abbrev dktX1_put_1 : List UInt8 := dkwX1_put_1 ++ []
def dkwX1_put_0 : List UInt8 := [3, 62, 29, 7, 162, 0, 24, 42, 27, 29, 96, 28, 16, 24, 16, 8, 29, 104, 100, 122, 145, 84]
abbrev dktX1_put_0 : List UInt8 := dkwX1_put_0 ++ dktX1_put_1
theorem dksX1_put_0 : cX1_put.data.toList.drop 0 = dktX1_put_0 := by decide +kernel
theorem dksX1_put_1 : cX1_put.data.toList.drop 22 = dktX1_put_1 := dk_seg dksX1_put_0 22 rfl rfl
theorem dX1_put_0 : decode cX1_put 0 = .ok (.iconst 0, 1) := dk_3 (dk_at dksX1_put_0 0 rfl rfl)
theorem dX1_put_1 : decode cX1_put 1 = .ok (.istore_n 3, 1) := dk_62 (dk_at dksX1_put_0 1 rfl rfl)
theorem dX1_put_2 : decode cX1_put 2 = .ok (.iload_n 3, 1) := dk_29 (dk_at dksX1_put_0 2 rfl rfl)
theorem dX1_put_3 : decode cX1_put 3 = .ok (.iconst 4, 1) := dk_7 (dk_at dksX1_put_0 3 rfl rfl)
theorem dX1_put_4 : decode cX1_put 4 = .ok (.if_icmp .ge 24, 3) := dk_162 0 24 (dk_at dksX1_put_0 4 rfl rfl)
theorem dX1_put_7 : decode cX1_put 7 = .ok (.aload_n 0, 1) := dk_42 (dk_at dksX1_put_0 7 rfl rfl)
theorem dX1_put_8 : decode cX1_put 8 = .ok (.iload_n 1, 1) := dk_27 (dk_at dksX1_put_0 8 rfl rfl)
theorem dX1_put_9 : decode cX1_put 9 = .ok (.iload_n 3, 1) := dk_29 (dk_at dksX1_put_0 9 rfl rfl)
theorem dX1_put_10 : decode cX1_put 10 = .ok (.iadd, 1) := dk_96 (dk_at dksX1_put_0 10 rfl rfl)
theorem dX1_put_11 : decode cX1_put 11 = .ok (.iload_n 2, 1) := dk_28 (dk_at dksX1_put_0 11 rfl rfl)
theorem dX1_put_12 : decode cX1_put 12 = .ok (.bipush 24, 2) := dk_16 24 (dk_at dksX1_put_0 12 rfl rfl)
theorem dX1_put_14 : decode cX1_put 14 = .ok (.bipush 8, 2) := dk_16 8 (dk_at dksX1_put_0 14 rfl rfl)
theorem dX1_put_16 : decode cX1_put 16 = .ok (.iload_n 3, 1) := dk_29 (dk_at dksX1_put_0 16 rfl rfl)
theorem dX1_put_17 : decode cX1_put 17 = .ok (.imul, 1) := dk_104 (dk_at dksX1_put_0 17 rfl rfl)
theorem dX1_put_18 : decode cX1_put 18 = .ok (.isub, 1) := dk_100 (dk_at dksX1_put_0 18 rfl rfl)
theorem dX1_put_19 : decode cX1_put 19 = .ok (.ishr, 1) := dk_122 (dk_at dksX1_put_0 19 rfl rfl)
theorem dX1_put_20 : decode cX1_put 20 = .ok (.i2b, 1) := dk_145 (dk_at dksX1_put_0 20 rfl rfl)
theorem dX1_put_21 : decode cX1_put 21 = .ok (.bastore, 1) := dk_84 (dk_at dksX1_put_0 21 rfl rfl)
theorem dX1_put_22 : decode cX1_put 22 = .ok (.iinc 3 1, 3) := dk_132 3 1 (dk_at dksX1_put_1 0 rfl rfl)
theorem dX1_put_25 : decode cX1_put 25 = .ok (.goto (-23), 3) := dk_167 255 233 (dk_at dksX1_put_1 3 rfl rfl)
theorem dX1_put_28 : decode cX1_put 28 = .ok (.return_, 1) := dk_177 (dk_at dksX1_put_1 6 rfl rfl)
abbrev cX1_block : ByteArray := prog_7_method_4_code
def yX1_block : MethodName := ⟨RX1, "block", "(II)V"⟩
def dkwX1_block_0 : List UInt8 := [42, 180, 0, 13, 3, 27, 184, 0, 19, 42, 180, 0, 13, 7, 28, 184, 0, 19, 177]
abbrev dktX1_block_0 : List UInt8 := dkwX1_block_0 ++ []
theorem dksX1_block_0 : cX1_block.data.toList.drop 0 = dktX1_block_0 := by decide +kernel
theorem dX1_block_0 : decode cX1_block 0 = .ok (.aload_n 0, 1) := dk_42 (dk_at dksX1_block_0 0 rfl rfl)
theorem dX1_block_1 : decode cX1_block 1 = .ok (.getfield 13, 3) := dk_180 0 13 (dk_at dksX1_block_0 1 rfl rfl)
theorem dX1_block_4 : decode cX1_block 4 = .ok (.iconst 0, 1) := dk_3 (dk_at dksX1_block_0 4 rfl rfl)
theorem dX1_block_5 : decode cX1_block 5 = .ok (.iload_n 1, 1) := dk_27 (dk_at dksX1_block_0 5 rfl rfl)
theorem dX1_block_6 : decode cX1_block 6 = .ok (.invokestatic 19, 3) := dk_184 0 19 (dk_at dksX1_block_0 6 rfl rfl)
theorem dX1_block_9 : decode cX1_block 9 = .ok (.aload_n 0, 1) := dk_42 (dk_at dksX1_block_0 9 rfl rfl)
theorem dX1_block_10 : decode cX1_block 10 = .ok (.getfield 13, 3) := dk_180 0 13 (dk_at dksX1_block_0 10 rfl rfl)
theorem dX1_block_13 : decode cX1_block 13 = .ok (.iconst 4, 1) := dk_7 (dk_at dksX1_block_0 13 rfl rfl)
theorem dX1_block_14 : decode cX1_block 14 = .ok (.iload_n 2, 1) := dk_28 (dk_at dksX1_block_0 14 rfl rfl)
theorem dX1_block_15 : decode cX1_block 15 = .ok (.invokestatic 19, 3) := dk_184 0 19 (dk_at dksX1_block_0 15 rfl rfl)
theorem dX1_block_18 : decode cX1_block 18 = .ok (.return_, 1) := dk_177 (dk_at dksX1_block_0 18 rfl rfl)
abbrev cX1_lock : ByteArray := prog_7_method_12_code
def yX1_lock : MethodName := ⟨RX1, "lock", "(I)V"⟩
def dkwX1_lock_0 : List UInt8 := [42, 42, 182, 0, 43, 182, 0, 47, 177]
abbrev dktX1_lock_0 : List UInt8 := dkwX1_lock_0 ++ []
theorem dksX1_lock_0 : cX1_lock.data.toList.drop 0 = dktX1_lock_0 := by decide +kernel
theorem dX1_lock_0 : decode cX1_lock 0 = .ok (.aload_n 0, 1) := dk_42 (dk_at dksX1_lock_0 0 rfl rfl)
theorem dX1_lock_1 : decode cX1_lock 1 = .ok (.aload_n 0, 1) := dk_42 (dk_at dksX1_lock_0 1 rfl rfl)
theorem dX1_lock_2 : decode cX1_lock 2 = .ok (.invokevirtual 43, 3) := dk_182 0 43 (dk_at dksX1_lock_0 2 rfl rfl)
theorem dX1_lock_5 : decode cX1_lock 5 = .ok (.invokevirtual 47, 3) := dk_182 0 47 (dk_at dksX1_lock_0 5 rfl rfl)
theorem dX1_lock_8 : decode cX1_lock 8 = .ok (.return_, 1) := dk_177 (dk_at dksX1_lock_0 8 rfl rfl)
abbrev cX1_keys : ByteArray := prog_7_method_9_code
def yX1_keys : MethodName := ⟨RX1, "keys", "()[I"⟩
def dkwX1_keys_5 : List UInt8 := [128, 79, 132, 5, 1, 167, 255, 218, 132, 3, 1, 167, 255, 186, 43, 176]
abbrev dktX1_keys_5 : List UInt8 := dkwX1_keys_5 ++ []
def dkwX1_keys_4 : List UInt8 := [43, 29, 46, 4, 120, 44, 21, 4, 21, 5, 96, 17, 0, 128, 112, 51, 153, 0, 7, 4, 167, 0, 4, 3]
abbrev dktX1_keys_4 : List UInt8 := dkwX1_keys_4 ++ dktX1_keys_5
def dkwX1_keys_3 : List UInt8 := [108, 104, 16, 16, 29, 16, 8, 112, 104, 96, 54, 4, 3, 54, 5, 21, 5, 16, 16, 162, 0, 37, 43, 29]
abbrev dktX1_keys_3 : List UInt8 := dkwX1_keys_3 ++ dktX1_keys_4
def dkwX1_keys_2 : List UInt8 := [167, 0, 4, 3, 84, 132, 3, 1, 167, 255, 215, 3, 62, 29, 16, 52, 162, 0, 70, 16, 25, 29, 16, 8]
abbrev dktX1_keys_2 : List UInt8 := dkwX1_keys_2 ++ dktX1_keys_3
def dkwX1_keys_1 : List UInt8 := [180, 0, 7, 29, 16, 8, 108, 51, 16, 7, 29, 16, 8, 112, 100, 122, 4, 126, 4, 160, 0, 7, 4]
abbrev dktX1_keys_1 : List UInt8 := dkwX1_keys_1 ++ dktX1_keys_2
def dkwX1_keys_0 : List UInt8 := [16, 52, 188, 10, 76, 17, 0, 128, 188, 4, 77, 3, 62, 29, 17, 0, 128, 162, 0, 40, 44, 29, 42]
abbrev dktX1_keys_0 : List UInt8 := dkwX1_keys_0 ++ dktX1_keys_1
theorem dksX1_keys_0 : cX1_keys.data.toList.drop 0 = dktX1_keys_0 := by decide +kernel
theorem dksX1_keys_1 : cX1_keys.data.toList.drop 23 = dktX1_keys_1 := dk_seg dksX1_keys_0 23 rfl rfl
theorem dksX1_keys_2 : cX1_keys.data.toList.drop 46 = dktX1_keys_2 := dk_seg dksX1_keys_1 23 rfl rfl
theorem dksX1_keys_3 : cX1_keys.data.toList.drop 70 = dktX1_keys_3 := dk_seg dksX1_keys_2 24 rfl rfl
theorem dksX1_keys_4 : cX1_keys.data.toList.drop 94 = dktX1_keys_4 := dk_seg dksX1_keys_3 24 rfl rfl
theorem dksX1_keys_5 : cX1_keys.data.toList.drop 118 = dktX1_keys_5 := dk_seg dksX1_keys_4 24 rfl rfl
theorem dX1_keys_0 : decode cX1_keys 0 = .ok (.bipush 52, 2) := dk_16 52 (dk_at dksX1_keys_0 0 rfl rfl)
theorem dX1_keys_2 : decode cX1_keys 2 = .ok (.newarray .int, 2) := dk_188_10 (dk_at dksX1_keys_0 2 rfl rfl)
theorem dX1_keys_4 : decode cX1_keys 4 = .ok (.astore_n 1, 1) := dk_76 (dk_at dksX1_keys_0 4 rfl rfl)
theorem dX1_keys_5 : decode cX1_keys 5 = .ok (.sipush 128, 3) := dk_17 0 128 (dk_at dksX1_keys_0 5 rfl rfl)
theorem dX1_keys_8 : decode cX1_keys 8 = .ok (.newarray .boolean, 2) := dk_188_4 (dk_at dksX1_keys_0 8 rfl rfl)
theorem dX1_keys_10 : decode cX1_keys 10 = .ok (.astore_n 2, 1) := dk_77 (dk_at dksX1_keys_0 10 rfl rfl)
theorem dX1_keys_11 : decode cX1_keys 11 = .ok (.iconst 0, 1) := dk_3 (dk_at dksX1_keys_0 11 rfl rfl)
theorem dX1_keys_12 : decode cX1_keys 12 = .ok (.istore_n 3, 1) := dk_62 (dk_at dksX1_keys_0 12 rfl rfl)
theorem dX1_keys_13 : decode cX1_keys 13 = .ok (.iload_n 3, 1) := dk_29 (dk_at dksX1_keys_0 13 rfl rfl)
theorem dX1_keys_14 : decode cX1_keys 14 = .ok (.sipush 128, 3) := dk_17 0 128 (dk_at dksX1_keys_0 14 rfl rfl)
theorem dX1_keys_17 : decode cX1_keys 17 = .ok (.if_icmp .ge 40, 3) := dk_162 0 40 (dk_at dksX1_keys_0 17 rfl rfl)
theorem dX1_keys_20 : decode cX1_keys 20 = .ok (.aload_n 2, 1) := dk_44 (dk_at dksX1_keys_0 20 rfl rfl)
theorem dX1_keys_21 : decode cX1_keys 21 = .ok (.iload_n 3, 1) := dk_29 (dk_at dksX1_keys_0 21 rfl rfl)
theorem dX1_keys_22 : decode cX1_keys 22 = .ok (.aload_n 0, 1) := dk_42 (dk_at dksX1_keys_0 22 rfl rfl)
theorem dX1_keys_23 : decode cX1_keys 23 = .ok (.getfield 7, 3) := dk_180 0 7 (dk_at dksX1_keys_1 0 rfl rfl)
theorem dX1_keys_26 : decode cX1_keys 26 = .ok (.iload_n 3, 1) := dk_29 (dk_at dksX1_keys_1 3 rfl rfl)
theorem dX1_keys_27 : decode cX1_keys 27 = .ok (.bipush 8, 2) := dk_16 8 (dk_at dksX1_keys_1 4 rfl rfl)
theorem dX1_keys_29 : decode cX1_keys 29 = .ok (.idiv, 1) := dk_108 (dk_at dksX1_keys_1 6 rfl rfl)
theorem dX1_keys_30 : decode cX1_keys 30 = .ok (.baload, 1) := dk_51 (dk_at dksX1_keys_1 7 rfl rfl)
theorem dX1_keys_31 : decode cX1_keys 31 = .ok (.bipush 7, 2) := dk_16 7 (dk_at dksX1_keys_1 8 rfl rfl)
theorem dX1_keys_33 : decode cX1_keys 33 = .ok (.iload_n 3, 1) := dk_29 (dk_at dksX1_keys_1 10 rfl rfl)
theorem dX1_keys_34 : decode cX1_keys 34 = .ok (.bipush 8, 2) := dk_16 8 (dk_at dksX1_keys_1 11 rfl rfl)
theorem dX1_keys_36 : decode cX1_keys 36 = .ok (.irem, 1) := dk_112 (dk_at dksX1_keys_1 13 rfl rfl)
theorem dX1_keys_37 : decode cX1_keys 37 = .ok (.isub, 1) := dk_100 (dk_at dksX1_keys_1 14 rfl rfl)
theorem dX1_keys_38 : decode cX1_keys 38 = .ok (.ishr, 1) := dk_122 (dk_at dksX1_keys_1 15 rfl rfl)
theorem dX1_keys_39 : decode cX1_keys 39 = .ok (.iconst 1, 1) := dk_4 (dk_at dksX1_keys_1 16 rfl rfl)
theorem dX1_keys_40 : decode cX1_keys 40 = .ok (.iand, 1) := dk_126 (dk_at dksX1_keys_1 17 rfl rfl)
theorem dX1_keys_41 : decode cX1_keys 41 = .ok (.iconst 1, 1) := dk_4 (dk_at dksX1_keys_1 18 rfl rfl)
theorem dX1_keys_42 : decode cX1_keys 42 = .ok (.if_icmp .ne 7, 3) := dk_160 0 7 (dk_at dksX1_keys_1 19 rfl rfl)
theorem dX1_keys_45 : decode cX1_keys 45 = .ok (.iconst 1, 1) := dk_4 (dk_at dksX1_keys_1 22 rfl rfl)
theorem dX1_keys_46 : decode cX1_keys 46 = .ok (.goto 4, 3) := dk_167 0 4 (dk_at dksX1_keys_2 0 rfl rfl)
theorem dX1_keys_49 : decode cX1_keys 49 = .ok (.iconst 0, 1) := dk_3 (dk_at dksX1_keys_2 3 rfl rfl)
theorem dX1_keys_50 : decode cX1_keys 50 = .ok (.bastore, 1) := dk_84 (dk_at dksX1_keys_2 4 rfl rfl)
theorem dX1_keys_51 : decode cX1_keys 51 = .ok (.iinc 3 1, 3) := dk_132 3 1 (dk_at dksX1_keys_2 5 rfl rfl)
theorem dX1_keys_54 : decode cX1_keys 54 = .ok (.goto (-41), 3) := dk_167 255 215 (dk_at dksX1_keys_2 8 rfl rfl)
theorem dX1_keys_57 : decode cX1_keys 57 = .ok (.iconst 0, 1) := dk_3 (dk_at dksX1_keys_2 11 rfl rfl)
theorem dX1_keys_58 : decode cX1_keys 58 = .ok (.istore_n 3, 1) := dk_62 (dk_at dksX1_keys_2 12 rfl rfl)
theorem dX1_keys_59 : decode cX1_keys 59 = .ok (.iload_n 3, 1) := dk_29 (dk_at dksX1_keys_2 13 rfl rfl)
theorem dX1_keys_60 : decode cX1_keys 60 = .ok (.bipush 52, 2) := dk_16 52 (dk_at dksX1_keys_2 14 rfl rfl)
theorem dX1_keys_62 : decode cX1_keys 62 = .ok (.if_icmp .ge 70, 3) := dk_162 0 70 (dk_at dksX1_keys_2 16 rfl rfl)
theorem dX1_keys_65 : decode cX1_keys 65 = .ok (.bipush 25, 2) := dk_16 25 (dk_at dksX1_keys_2 19 rfl rfl)
theorem dX1_keys_67 : decode cX1_keys 67 = .ok (.iload_n 3, 1) := dk_29 (dk_at dksX1_keys_2 21 rfl rfl)
theorem dX1_keys_68 : decode cX1_keys 68 = .ok (.bipush 8, 2) := dk_16 8 (dk_at dksX1_keys_2 22 rfl rfl)
theorem dX1_keys_70 : decode cX1_keys 70 = .ok (.idiv, 1) := dk_108 (dk_at dksX1_keys_3 0 rfl rfl)
theorem dX1_keys_71 : decode cX1_keys 71 = .ok (.imul, 1) := dk_104 (dk_at dksX1_keys_3 1 rfl rfl)
theorem dX1_keys_72 : decode cX1_keys 72 = .ok (.bipush 16, 2) := dk_16 16 (dk_at dksX1_keys_3 2 rfl rfl)
theorem dX1_keys_74 : decode cX1_keys 74 = .ok (.iload_n 3, 1) := dk_29 (dk_at dksX1_keys_3 4 rfl rfl)
theorem dX1_keys_75 : decode cX1_keys 75 = .ok (.bipush 8, 2) := dk_16 8 (dk_at dksX1_keys_3 5 rfl rfl)
theorem dX1_keys_77 : decode cX1_keys 77 = .ok (.irem, 1) := dk_112 (dk_at dksX1_keys_3 7 rfl rfl)
theorem dX1_keys_78 : decode cX1_keys 78 = .ok (.imul, 1) := dk_104 (dk_at dksX1_keys_3 8 rfl rfl)
theorem dX1_keys_79 : decode cX1_keys 79 = .ok (.iadd, 1) := dk_96 (dk_at dksX1_keys_3 9 rfl rfl)
theorem dX1_keys_80 : decode cX1_keys 80 = .ok (.istore 4, 2) := dk_54 4 (dk_at dksX1_keys_3 10 rfl rfl)
theorem dX1_keys_82 : decode cX1_keys 82 = .ok (.iconst 0, 1) := dk_3 (dk_at dksX1_keys_3 12 rfl rfl)
theorem dX1_keys_83 : decode cX1_keys 83 = .ok (.istore 5, 2) := dk_54 5 (dk_at dksX1_keys_3 13 rfl rfl)
theorem dX1_keys_85 : decode cX1_keys 85 = .ok (.iload 5, 2) := dk_21 5 (dk_at dksX1_keys_3 15 rfl rfl)
theorem dX1_keys_87 : decode cX1_keys 87 = .ok (.bipush 16, 2) := dk_16 16 (dk_at dksX1_keys_3 17 rfl rfl)
theorem dX1_keys_89 : decode cX1_keys 89 = .ok (.if_icmp .ge 37, 3) := dk_162 0 37 (dk_at dksX1_keys_3 19 rfl rfl)
theorem dX1_keys_92 : decode cX1_keys 92 = .ok (.aload_n 1, 1) := dk_43 (dk_at dksX1_keys_3 22 rfl rfl)
theorem dX1_keys_93 : decode cX1_keys 93 = .ok (.iload_n 3, 1) := dk_29 (dk_at dksX1_keys_3 23 rfl rfl)
theorem dX1_keys_94 : decode cX1_keys 94 = .ok (.aload_n 1, 1) := dk_43 (dk_at dksX1_keys_4 0 rfl rfl)
theorem dX1_keys_95 : decode cX1_keys 95 = .ok (.iload_n 3, 1) := dk_29 (dk_at dksX1_keys_4 1 rfl rfl)
theorem dX1_keys_96 : decode cX1_keys 96 = .ok (.iaload, 1) := dk_46 (dk_at dksX1_keys_4 2 rfl rfl)
theorem dX1_keys_97 : decode cX1_keys 97 = .ok (.iconst 1, 1) := dk_4 (dk_at dksX1_keys_4 3 rfl rfl)
theorem dX1_keys_98 : decode cX1_keys 98 = .ok (.ishl, 1) := dk_120 (dk_at dksX1_keys_4 4 rfl rfl)
theorem dX1_keys_99 : decode cX1_keys 99 = .ok (.aload_n 2, 1) := dk_44 (dk_at dksX1_keys_4 5 rfl rfl)
theorem dX1_keys_100 : decode cX1_keys 100 = .ok (.iload 4, 2) := dk_21 4 (dk_at dksX1_keys_4 6 rfl rfl)
theorem dX1_keys_102 : decode cX1_keys 102 = .ok (.iload 5, 2) := dk_21 5 (dk_at dksX1_keys_4 8 rfl rfl)
theorem dX1_keys_104 : decode cX1_keys 104 = .ok (.iadd, 1) := dk_96 (dk_at dksX1_keys_4 10 rfl rfl)
theorem dX1_keys_105 : decode cX1_keys 105 = .ok (.sipush 128, 3) := dk_17 0 128 (dk_at dksX1_keys_4 11 rfl rfl)
theorem dX1_keys_108 : decode cX1_keys 108 = .ok (.irem, 1) := dk_112 (dk_at dksX1_keys_4 14 rfl rfl)
theorem dX1_keys_109 : decode cX1_keys 109 = .ok (.baload, 1) := dk_51 (dk_at dksX1_keys_4 15 rfl rfl)
theorem dX1_keys_110 : decode cX1_keys 110 = .ok (.ifCond .eq 7, 3) := dk_153 0 7 (dk_at dksX1_keys_4 16 rfl rfl)
theorem dX1_keys_113 : decode cX1_keys 113 = .ok (.iconst 1, 1) := dk_4 (dk_at dksX1_keys_4 19 rfl rfl)
theorem dX1_keys_114 : decode cX1_keys 114 = .ok (.goto 4, 3) := dk_167 0 4 (dk_at dksX1_keys_4 20 rfl rfl)
theorem dX1_keys_117 : decode cX1_keys 117 = .ok (.iconst 0, 1) := dk_3 (dk_at dksX1_keys_4 23 rfl rfl)
theorem dX1_keys_118 : decode cX1_keys 118 = .ok (.ior, 1) := dk_128 (dk_at dksX1_keys_5 0 rfl rfl)
theorem dX1_keys_119 : decode cX1_keys 119 = .ok (.iastore, 1) := dk_79 (dk_at dksX1_keys_5 1 rfl rfl)
theorem dX1_keys_120 : decode cX1_keys 120 = .ok (.iinc 5 1, 3) := dk_132 5 1 (dk_at dksX1_keys_5 2 rfl rfl)
theorem dX1_keys_123 : decode cX1_keys 123 = .ok (.goto (-38), 3) := dk_167 255 218 (dk_at dksX1_keys_5 5 rfl rfl)
theorem dX1_keys_126 : decode cX1_keys 126 = .ok (.iinc 3 1, 3) := dk_132 3 1 (dk_at dksX1_keys_5 8 rfl rfl)
theorem dX1_keys_129 : decode cX1_keys 129 = .ok (.goto (-70), 3) := dk_167 255 186 (dk_at dksX1_keys_5 11 rfl rfl)
theorem dX1_keys_132 : decode cX1_keys 132 = .ok (.aload_n 1, 1) := dk_43 (dk_at dksX1_keys_5 14 rfl rfl)
theorem dX1_keys_133 : decode cX1_keys 133 = .ok (.areturn, 1) := dk_176 (dk_at dksX1_keys_5 15 rfl rfl)
abbrev cX1_runs : ByteArray := prog_7_method_11_code
def yX1_runs : MethodName := ⟨RX1, "runs", "([I)V"⟩
def dkwX1_runs_11 : List UInt8 := [5, 112, 104, 100, 122, 145, 84, 132, 7, 1, 167, 255, 220, 177]
abbrev dktX1_runs_11 : List UInt8 := dkwX1_runs_11 ++ []
def dkwX1_runs_10 : List UInt8 := [16, 8, 162, 0, 35, 42, 180, 0, 16, 21, 7, 25, 6, 21, 7, 5, 108, 46, 16, 8, 16, 8, 21, 7]
abbrev dktX1_runs_10 : List UInt8 := dkwX1_runs_10 ++ dktX1_runs_11
def dkwX1_runs_9 : List UInt8 := [96, 18, 27, 126, 79, 89, 6, 21, 5, 43, 16, 51, 46, 184, 0, 28, 79, 58, 6, 3, 54, 7, 21, 7]
abbrev dktX1_runs_9 : List UInt8 := dkwX1_runs_9 ++ dktX1_runs_10
def dkwX1_runs_8 : List UInt8 := [184, 0, 28, 79, 89, 4, 21, 4, 43, 16, 49, 46, 96, 18, 27, 126, 79, 89, 5, 29, 43, 16, 50, 46]
abbrev dktX1_runs_8 : List UInt8 := dkwX1_runs_8 ++ dktX1_runs_9
def dkwX1_runs_7 : List UInt8 := [21, 8, 130, 62, 21, 9, 54, 4, 132, 6, 6, 167, 255, 124, 7, 188, 10, 89, 3, 28, 43, 16, 48, 46]
abbrev dktX1_runs_7 : List UInt8 := dkwX1_runs_7 ++ dktX1_runs_8
def dkwX1_runs_6 : List UInt8 := [126, 54, 7, 28, 21, 8, 130, 61, 21, 5, 21, 7, 130, 54, 5, 29, 21, 7, 130, 54, 9, 21, 4]
abbrev dktX1_runs_6 : List UInt8 := dkwX1_runs_6 ++ dktX1_runs_7
def dkwX1_runs_5 : List UInt8 := [21, 7, 96, 18, 27, 126, 43, 21, 6, 8, 96, 46, 184, 0, 28, 54, 8, 21, 7, 21, 8, 96, 18, 27]
abbrev dktX1_runs_5 : List UInt8 := dkwX1_runs_5 ++ dktX1_runs_6
def dkwX1_runs_4 : List UInt8 := [184, 0, 28, 54, 5, 28, 21, 4, 130, 43, 21, 6, 7, 96, 46, 184, 0, 28, 54, 7, 29, 21, 5, 130]
abbrev dktX1_runs_4 : List UInt8 := dkwX1_runs_4 ++ dktX1_runs_5
def dkwX1_runs_3 : List UInt8 := [21, 4, 43, 21, 6, 5, 96, 46, 96, 18, 27, 126, 54, 4, 21, 5, 43, 21, 6, 6, 96, 46]
abbrev dktX1_runs_3 : List UInt8 := dkwX1_runs_3 ++ dktX1_runs_4
def dkwX1_runs_2 : List UInt8 := [162, 0, 131, 28, 43, 21, 6, 46, 184, 0, 28, 61, 29, 43, 21, 6, 4, 96, 46, 96, 18, 27, 126, 62]
abbrev dktX1_runs_2 : List UInt8 := dkwX1_runs_2 ++ dktX1_runs_3
def dkwX1_runs_1 : List UInt8 := [184, 0, 39, 54, 4, 42, 180, 0, 13, 16, 6, 184, 0, 39, 54, 5, 3, 54, 6, 21, 6, 16, 48]
abbrev dktX1_runs_1 : List UInt8 := dkwX1_runs_1 ++ dktX1_runs_2
def dkwX1_runs_0 : List UInt8 := [42, 180, 0, 13, 3, 184, 0, 39, 61, 42, 180, 0, 13, 5, 184, 0, 39, 62, 42, 180, 0, 13, 7]
abbrev dktX1_runs_0 : List UInt8 := dkwX1_runs_0 ++ dktX1_runs_1
theorem dksX1_runs_0 : cX1_runs.data.toList.drop 0 = dktX1_runs_0 := by decide +kernel
theorem dksX1_runs_1 : cX1_runs.data.toList.drop 23 = dktX1_runs_1 := dk_seg dksX1_runs_0 23 rfl rfl
theorem dksX1_runs_2 : cX1_runs.data.toList.drop 46 = dktX1_runs_2 := dk_seg dksX1_runs_1 23 rfl rfl
theorem dksX1_runs_3 : cX1_runs.data.toList.drop 70 = dktX1_runs_3 := dk_seg dksX1_runs_2 24 rfl rfl
theorem dksX1_runs_4 : cX1_runs.data.toList.drop 92 = dktX1_runs_4 := dk_seg dksX1_runs_3 22 rfl rfl
theorem dksX1_runs_5 : cX1_runs.data.toList.drop 116 = dktX1_runs_5 := dk_seg dksX1_runs_4 24 rfl rfl
theorem dksX1_runs_6 : cX1_runs.data.toList.drop 140 = dktX1_runs_6 := dk_seg dksX1_runs_5 24 rfl rfl
theorem dksX1_runs_7 : cX1_runs.data.toList.drop 163 = dktX1_runs_7 := dk_seg dksX1_runs_6 23 rfl rfl
theorem dksX1_runs_8 : cX1_runs.data.toList.drop 187 = dktX1_runs_8 := dk_seg dksX1_runs_7 24 rfl rfl
theorem dksX1_runs_9 : cX1_runs.data.toList.drop 211 = dktX1_runs_9 := dk_seg dksX1_runs_8 24 rfl rfl
theorem dksX1_runs_10 : cX1_runs.data.toList.drop 235 = dktX1_runs_10 := dk_seg dksX1_runs_9 24 rfl rfl
theorem dksX1_runs_11 : cX1_runs.data.toList.drop 259 = dktX1_runs_11 := dk_seg dksX1_runs_10 24 rfl rfl
theorem dX1_runs_0 : decode cX1_runs 0 = .ok (.aload_n 0, 1) := dk_42 (dk_at dksX1_runs_0 0 rfl rfl)
theorem dX1_runs_1 : decode cX1_runs 1 = .ok (.getfield 13, 3) := dk_180 0 13 (dk_at dksX1_runs_0 1 rfl rfl)
theorem dX1_runs_4 : decode cX1_runs 4 = .ok (.iconst 0, 1) := dk_3 (dk_at dksX1_runs_0 4 rfl rfl)
theorem dX1_runs_5 : decode cX1_runs 5 = .ok (.invokestatic 39, 3) := dk_184 0 39 (dk_at dksX1_runs_0 5 rfl rfl)
theorem dX1_runs_8 : decode cX1_runs 8 = .ok (.istore_n 2, 1) := dk_61 (dk_at dksX1_runs_0 8 rfl rfl)
theorem dX1_runs_9 : decode cX1_runs 9 = .ok (.aload_n 0, 1) := dk_42 (dk_at dksX1_runs_0 9 rfl rfl)
theorem dX1_runs_10 : decode cX1_runs 10 = .ok (.getfield 13, 3) := dk_180 0 13 (dk_at dksX1_runs_0 10 rfl rfl)
theorem dX1_runs_13 : decode cX1_runs 13 = .ok (.iconst 2, 1) := dk_5 (dk_at dksX1_runs_0 13 rfl rfl)
theorem dX1_runs_14 : decode cX1_runs 14 = .ok (.invokestatic 39, 3) := dk_184 0 39 (dk_at dksX1_runs_0 14 rfl rfl)
theorem dX1_runs_17 : decode cX1_runs 17 = .ok (.istore_n 3, 1) := dk_62 (dk_at dksX1_runs_0 17 rfl rfl)
theorem dX1_runs_18 : decode cX1_runs 18 = .ok (.aload_n 0, 1) := dk_42 (dk_at dksX1_runs_0 18 rfl rfl)
theorem dX1_runs_19 : decode cX1_runs 19 = .ok (.getfield 13, 3) := dk_180 0 13 (dk_at dksX1_runs_0 19 rfl rfl)
theorem dX1_runs_22 : decode cX1_runs 22 = .ok (.iconst 4, 1) := dk_7 (dk_at dksX1_runs_0 22 rfl rfl)
theorem dX1_runs_23 : decode cX1_runs 23 = .ok (.invokestatic 39, 3) := dk_184 0 39 (dk_at dksX1_runs_1 0 rfl rfl)
theorem dX1_runs_26 : decode cX1_runs 26 = .ok (.istore 4, 2) := dk_54 4 (dk_at dksX1_runs_1 3 rfl rfl)
theorem dX1_runs_28 : decode cX1_runs 28 = .ok (.aload_n 0, 1) := dk_42 (dk_at dksX1_runs_1 5 rfl rfl)
theorem dX1_runs_29 : decode cX1_runs 29 = .ok (.getfield 13, 3) := dk_180 0 13 (dk_at dksX1_runs_1 6 rfl rfl)
theorem dX1_runs_32 : decode cX1_runs 32 = .ok (.bipush 6, 2) := dk_16 6 (dk_at dksX1_runs_1 9 rfl rfl)
theorem dX1_runs_34 : decode cX1_runs 34 = .ok (.invokestatic 39, 3) := dk_184 0 39 (dk_at dksX1_runs_1 11 rfl rfl)
theorem dX1_runs_37 : decode cX1_runs 37 = .ok (.istore 5, 2) := dk_54 5 (dk_at dksX1_runs_1 14 rfl rfl)
theorem dX1_runs_39 : decode cX1_runs 39 = .ok (.iconst 0, 1) := dk_3 (dk_at dksX1_runs_1 16 rfl rfl)
theorem dX1_runs_40 : decode cX1_runs 40 = .ok (.istore 6, 2) := dk_54 6 (dk_at dksX1_runs_1 17 rfl rfl)
theorem dX1_runs_42 : decode cX1_runs 42 = .ok (.iload 6, 2) := dk_21 6 (dk_at dksX1_runs_1 19 rfl rfl)
theorem dX1_runs_44 : decode cX1_runs 44 = .ok (.bipush 48, 2) := dk_16 48 (dk_at dksX1_runs_1 21 rfl rfl)
theorem dX1_runs_46 : decode cX1_runs 46 = .ok (.if_icmp .ge 131, 3) := dk_162 0 131 (dk_at dksX1_runs_2 0 rfl rfl)
theorem dX1_runs_49 : decode cX1_runs 49 = .ok (.iload_n 2, 1) := dk_28 (dk_at dksX1_runs_2 3 rfl rfl)
theorem dX1_runs_50 : decode cX1_runs 50 = .ok (.aload_n 1, 1) := dk_43 (dk_at dksX1_runs_2 4 rfl rfl)
theorem dX1_runs_51 : decode cX1_runs 51 = .ok (.iload 6, 2) := dk_21 6 (dk_at dksX1_runs_2 5 rfl rfl)
theorem dX1_runs_53 : decode cX1_runs 53 = .ok (.iaload, 1) := dk_46 (dk_at dksX1_runs_2 7 rfl rfl)
theorem dX1_runs_54 : decode cX1_runs 54 = .ok (.invokestatic 28, 3) := dk_184 0 28 (dk_at dksX1_runs_2 8 rfl rfl)
theorem dX1_runs_57 : decode cX1_runs 57 = .ok (.istore_n 2, 1) := dk_61 (dk_at dksX1_runs_2 11 rfl rfl)
theorem dX1_runs_58 : decode cX1_runs 58 = .ok (.iload_n 3, 1) := dk_29 (dk_at dksX1_runs_2 12 rfl rfl)
theorem dX1_runs_59 : decode cX1_runs 59 = .ok (.aload_n 1, 1) := dk_43 (dk_at dksX1_runs_2 13 rfl rfl)
theorem dX1_runs_60 : decode cX1_runs 60 = .ok (.iload 6, 2) := dk_21 6 (dk_at dksX1_runs_2 14 rfl rfl)
theorem dX1_runs_62 : decode cX1_runs 62 = .ok (.iconst 1, 1) := dk_4 (dk_at dksX1_runs_2 16 rfl rfl)
theorem dX1_runs_63 : decode cX1_runs 63 = .ok (.iadd, 1) := dk_96 (dk_at dksX1_runs_2 17 rfl rfl)
theorem dX1_runs_64 : decode cX1_runs 64 = .ok (.iaload, 1) := dk_46 (dk_at dksX1_runs_2 18 rfl rfl)
theorem dX1_runs_65 : decode cX1_runs 65 = .ok (.iadd, 1) := dk_96 (dk_at dksX1_runs_2 19 rfl rfl)
theorem dX1_runs_66 : decode cX1_runs 66 = .ok (.ldc 27, 2) := dk_18 27 (dk_at dksX1_runs_2 20 rfl rfl)
theorem dX1_runs_68 : decode cX1_runs 68 = .ok (.iand, 1) := dk_126 (dk_at dksX1_runs_2 22 rfl rfl)
theorem dX1_runs_69 : decode cX1_runs 69 = .ok (.istore_n 3, 1) := dk_62 (dk_at dksX1_runs_2 23 rfl rfl)
theorem dX1_runs_70 : decode cX1_runs 70 = .ok (.iload 4, 2) := dk_21 4 (dk_at dksX1_runs_3 0 rfl rfl)
theorem dX1_runs_72 : decode cX1_runs 72 = .ok (.aload_n 1, 1) := dk_43 (dk_at dksX1_runs_3 2 rfl rfl)
theorem dX1_runs_73 : decode cX1_runs 73 = .ok (.iload 6, 2) := dk_21 6 (dk_at dksX1_runs_3 3 rfl rfl)
theorem dX1_runs_75 : decode cX1_runs 75 = .ok (.iconst 2, 1) := dk_5 (dk_at dksX1_runs_3 5 rfl rfl)
theorem dX1_runs_76 : decode cX1_runs 76 = .ok (.iadd, 1) := dk_96 (dk_at dksX1_runs_3 6 rfl rfl)
theorem dX1_runs_77 : decode cX1_runs 77 = .ok (.iaload, 1) := dk_46 (dk_at dksX1_runs_3 7 rfl rfl)
theorem dX1_runs_78 : decode cX1_runs 78 = .ok (.iadd, 1) := dk_96 (dk_at dksX1_runs_3 8 rfl rfl)
theorem dX1_runs_79 : decode cX1_runs 79 = .ok (.ldc 27, 2) := dk_18 27 (dk_at dksX1_runs_3 9 rfl rfl)
theorem dX1_runs_81 : decode cX1_runs 81 = .ok (.iand, 1) := dk_126 (dk_at dksX1_runs_3 11 rfl rfl)
theorem dX1_runs_82 : decode cX1_runs 82 = .ok (.istore 4, 2) := dk_54 4 (dk_at dksX1_runs_3 12 rfl rfl)
theorem dX1_runs_84 : decode cX1_runs 84 = .ok (.iload 5, 2) := dk_21 5 (dk_at dksX1_runs_3 14 rfl rfl)
theorem dX1_runs_86 : decode cX1_runs 86 = .ok (.aload_n 1, 1) := dk_43 (dk_at dksX1_runs_3 16 rfl rfl)
theorem dX1_runs_87 : decode cX1_runs 87 = .ok (.iload 6, 2) := dk_21 6 (dk_at dksX1_runs_3 17 rfl rfl)
theorem dX1_runs_89 : decode cX1_runs 89 = .ok (.iconst 3, 1) := dk_6 (dk_at dksX1_runs_3 19 rfl rfl)
theorem dX1_runs_90 : decode cX1_runs 90 = .ok (.iadd, 1) := dk_96 (dk_at dksX1_runs_3 20 rfl rfl)
theorem dX1_runs_91 : decode cX1_runs 91 = .ok (.iaload, 1) := dk_46 (dk_at dksX1_runs_3 21 rfl rfl)
theorem dX1_runs_92 : decode cX1_runs 92 = .ok (.invokestatic 28, 3) := dk_184 0 28 (dk_at dksX1_runs_4 0 rfl rfl)
theorem dX1_runs_95 : decode cX1_runs 95 = .ok (.istore 5, 2) := dk_54 5 (dk_at dksX1_runs_4 3 rfl rfl)
theorem dX1_runs_97 : decode cX1_runs 97 = .ok (.iload_n 2, 1) := dk_28 (dk_at dksX1_runs_4 5 rfl rfl)
theorem dX1_runs_98 : decode cX1_runs 98 = .ok (.iload 4, 2) := dk_21 4 (dk_at dksX1_runs_4 6 rfl rfl)
theorem dX1_runs_100 : decode cX1_runs 100 = .ok (.ixor, 1) := dk_130 (dk_at dksX1_runs_4 8 rfl rfl)
theorem dX1_runs_101 : decode cX1_runs 101 = .ok (.aload_n 1, 1) := dk_43 (dk_at dksX1_runs_4 9 rfl rfl)
theorem dX1_runs_102 : decode cX1_runs 102 = .ok (.iload 6, 2) := dk_21 6 (dk_at dksX1_runs_4 10 rfl rfl)
theorem dX1_runs_104 : decode cX1_runs 104 = .ok (.iconst 4, 1) := dk_7 (dk_at dksX1_runs_4 12 rfl rfl)
theorem dX1_runs_105 : decode cX1_runs 105 = .ok (.iadd, 1) := dk_96 (dk_at dksX1_runs_4 13 rfl rfl)
theorem dX1_runs_106 : decode cX1_runs 106 = .ok (.iaload, 1) := dk_46 (dk_at dksX1_runs_4 14 rfl rfl)
theorem dX1_runs_107 : decode cX1_runs 107 = .ok (.invokestatic 28, 3) := dk_184 0 28 (dk_at dksX1_runs_4 15 rfl rfl)
theorem dX1_runs_110 : decode cX1_runs 110 = .ok (.istore 7, 2) := dk_54 7 (dk_at dksX1_runs_4 18 rfl rfl)
theorem dX1_runs_112 : decode cX1_runs 112 = .ok (.iload_n 3, 1) := dk_29 (dk_at dksX1_runs_4 20 rfl rfl)
theorem dX1_runs_113 : decode cX1_runs 113 = .ok (.iload 5, 2) := dk_21 5 (dk_at dksX1_runs_4 21 rfl rfl)
theorem dX1_runs_115 : decode cX1_runs 115 = .ok (.ixor, 1) := dk_130 (dk_at dksX1_runs_4 23 rfl rfl)
theorem dX1_runs_116 : decode cX1_runs 116 = .ok (.iload 7, 2) := dk_21 7 (dk_at dksX1_runs_5 0 rfl rfl)
theorem dX1_runs_118 : decode cX1_runs 118 = .ok (.iadd, 1) := dk_96 (dk_at dksX1_runs_5 2 rfl rfl)
theorem dX1_runs_119 : decode cX1_runs 119 = .ok (.ldc 27, 2) := dk_18 27 (dk_at dksX1_runs_5 3 rfl rfl)
theorem dX1_runs_121 : decode cX1_runs 121 = .ok (.iand, 1) := dk_126 (dk_at dksX1_runs_5 5 rfl rfl)
theorem dX1_runs_122 : decode cX1_runs 122 = .ok (.aload_n 1, 1) := dk_43 (dk_at dksX1_runs_5 6 rfl rfl)
theorem dX1_runs_123 : decode cX1_runs 123 = .ok (.iload 6, 2) := dk_21 6 (dk_at dksX1_runs_5 7 rfl rfl)
theorem dX1_runs_125 : decode cX1_runs 125 = .ok (.iconst 5, 1) := dk_8 (dk_at dksX1_runs_5 9 rfl rfl)
theorem dX1_runs_126 : decode cX1_runs 126 = .ok (.iadd, 1) := dk_96 (dk_at dksX1_runs_5 10 rfl rfl)
theorem dX1_runs_127 : decode cX1_runs 127 = .ok (.iaload, 1) := dk_46 (dk_at dksX1_runs_5 11 rfl rfl)
theorem dX1_runs_128 : decode cX1_runs 128 = .ok (.invokestatic 28, 3) := dk_184 0 28 (dk_at dksX1_runs_5 12 rfl rfl)
theorem dX1_runs_131 : decode cX1_runs 131 = .ok (.istore 8, 2) := dk_54 8 (dk_at dksX1_runs_5 15 rfl rfl)
theorem dX1_runs_133 : decode cX1_runs 133 = .ok (.iload 7, 2) := dk_21 7 (dk_at dksX1_runs_5 17 rfl rfl)
theorem dX1_runs_135 : decode cX1_runs 135 = .ok (.iload 8, 2) := dk_21 8 (dk_at dksX1_runs_5 19 rfl rfl)
theorem dX1_runs_137 : decode cX1_runs 137 = .ok (.iadd, 1) := dk_96 (dk_at dksX1_runs_5 21 rfl rfl)
theorem dX1_runs_138 : decode cX1_runs 138 = .ok (.ldc 27, 2) := dk_18 27 (dk_at dksX1_runs_5 22 rfl rfl)
theorem dX1_runs_140 : decode cX1_runs 140 = .ok (.iand, 1) := dk_126 (dk_at dksX1_runs_6 0 rfl rfl)
theorem dX1_runs_141 : decode cX1_runs 141 = .ok (.istore 7, 2) := dk_54 7 (dk_at dksX1_runs_6 1 rfl rfl)
theorem dX1_runs_143 : decode cX1_runs 143 = .ok (.iload_n 2, 1) := dk_28 (dk_at dksX1_runs_6 3 rfl rfl)
theorem dX1_runs_144 : decode cX1_runs 144 = .ok (.iload 8, 2) := dk_21 8 (dk_at dksX1_runs_6 4 rfl rfl)
theorem dX1_runs_146 : decode cX1_runs 146 = .ok (.ixor, 1) := dk_130 (dk_at dksX1_runs_6 6 rfl rfl)
theorem dX1_runs_147 : decode cX1_runs 147 = .ok (.istore_n 2, 1) := dk_61 (dk_at dksX1_runs_6 7 rfl rfl)
theorem dX1_runs_148 : decode cX1_runs 148 = .ok (.iload 5, 2) := dk_21 5 (dk_at dksX1_runs_6 8 rfl rfl)
theorem dX1_runs_150 : decode cX1_runs 150 = .ok (.iload 7, 2) := dk_21 7 (dk_at dksX1_runs_6 10 rfl rfl)
theorem dX1_runs_152 : decode cX1_runs 152 = .ok (.ixor, 1) := dk_130 (dk_at dksX1_runs_6 12 rfl rfl)
theorem dX1_runs_153 : decode cX1_runs 153 = .ok (.istore 5, 2) := dk_54 5 (dk_at dksX1_runs_6 13 rfl rfl)
theorem dX1_runs_155 : decode cX1_runs 155 = .ok (.iload_n 3, 1) := dk_29 (dk_at dksX1_runs_6 15 rfl rfl)
theorem dX1_runs_156 : decode cX1_runs 156 = .ok (.iload 7, 2) := dk_21 7 (dk_at dksX1_runs_6 16 rfl rfl)
theorem dX1_runs_158 : decode cX1_runs 158 = .ok (.ixor, 1) := dk_130 (dk_at dksX1_runs_6 18 rfl rfl)
theorem dX1_runs_159 : decode cX1_runs 159 = .ok (.istore 9, 2) := dk_54 9 (dk_at dksX1_runs_6 19 rfl rfl)
theorem dX1_runs_161 : decode cX1_runs 161 = .ok (.iload 4, 2) := dk_21 4 (dk_at dksX1_runs_6 21 rfl rfl)
theorem dX1_runs_163 : decode cX1_runs 163 = .ok (.iload 8, 2) := dk_21 8 (dk_at dksX1_runs_7 0 rfl rfl)
theorem dX1_runs_165 : decode cX1_runs 165 = .ok (.ixor, 1) := dk_130 (dk_at dksX1_runs_7 2 rfl rfl)
theorem dX1_runs_166 : decode cX1_runs 166 = .ok (.istore_n 3, 1) := dk_62 (dk_at dksX1_runs_7 3 rfl rfl)
theorem dX1_runs_167 : decode cX1_runs 167 = .ok (.iload 9, 2) := dk_21 9 (dk_at dksX1_runs_7 4 rfl rfl)
theorem dX1_runs_169 : decode cX1_runs 169 = .ok (.istore 4, 2) := dk_54 4 (dk_at dksX1_runs_7 6 rfl rfl)
theorem dX1_runs_171 : decode cX1_runs 171 = .ok (.iinc 6 6, 3) := dk_132 6 6 (dk_at dksX1_runs_7 8 rfl rfl)
theorem dX1_runs_174 : decode cX1_runs 174 = .ok (.goto (-132), 3) := dk_167 255 124 (dk_at dksX1_runs_7 11 rfl rfl)
theorem dX1_runs_177 : decode cX1_runs 177 = .ok (.iconst 4, 1) := dk_7 (dk_at dksX1_runs_7 14 rfl rfl)
theorem dX1_runs_178 : decode cX1_runs 178 = .ok (.newarray .int, 2) := dk_188_10 (dk_at dksX1_runs_7 15 rfl rfl)
theorem dX1_runs_180 : decode cX1_runs 180 = .ok (.dup, 1) := dk_89 (dk_at dksX1_runs_7 17 rfl rfl)
theorem dX1_runs_181 : decode cX1_runs 181 = .ok (.iconst 0, 1) := dk_3 (dk_at dksX1_runs_7 18 rfl rfl)
theorem dX1_runs_182 : decode cX1_runs 182 = .ok (.iload_n 2, 1) := dk_28 (dk_at dksX1_runs_7 19 rfl rfl)
theorem dX1_runs_183 : decode cX1_runs 183 = .ok (.aload_n 1, 1) := dk_43 (dk_at dksX1_runs_7 20 rfl rfl)
theorem dX1_runs_184 : decode cX1_runs 184 = .ok (.bipush 48, 2) := dk_16 48 (dk_at dksX1_runs_7 21 rfl rfl)
theorem dX1_runs_186 : decode cX1_runs 186 = .ok (.iaload, 1) := dk_46 (dk_at dksX1_runs_7 23 rfl rfl)
theorem dX1_runs_187 : decode cX1_runs 187 = .ok (.invokestatic 28, 3) := dk_184 0 28 (dk_at dksX1_runs_8 0 rfl rfl)
theorem dX1_runs_190 : decode cX1_runs 190 = .ok (.iastore, 1) := dk_79 (dk_at dksX1_runs_8 3 rfl rfl)
theorem dX1_runs_191 : decode cX1_runs 191 = .ok (.dup, 1) := dk_89 (dk_at dksX1_runs_8 4 rfl rfl)
theorem dX1_runs_192 : decode cX1_runs 192 = .ok (.iconst 1, 1) := dk_4 (dk_at dksX1_runs_8 5 rfl rfl)
theorem dX1_runs_193 : decode cX1_runs 193 = .ok (.iload 4, 2) := dk_21 4 (dk_at dksX1_runs_8 6 rfl rfl)
theorem dX1_runs_195 : decode cX1_runs 195 = .ok (.aload_n 1, 1) := dk_43 (dk_at dksX1_runs_8 8 rfl rfl)
theorem dX1_runs_196 : decode cX1_runs 196 = .ok (.bipush 49, 2) := dk_16 49 (dk_at dksX1_runs_8 9 rfl rfl)
theorem dX1_runs_198 : decode cX1_runs 198 = .ok (.iaload, 1) := dk_46 (dk_at dksX1_runs_8 11 rfl rfl)
theorem dX1_runs_199 : decode cX1_runs 199 = .ok (.iadd, 1) := dk_96 (dk_at dksX1_runs_8 12 rfl rfl)
theorem dX1_runs_200 : decode cX1_runs 200 = .ok (.ldc 27, 2) := dk_18 27 (dk_at dksX1_runs_8 13 rfl rfl)
theorem dX1_runs_202 : decode cX1_runs 202 = .ok (.iand, 1) := dk_126 (dk_at dksX1_runs_8 15 rfl rfl)
theorem dX1_runs_203 : decode cX1_runs 203 = .ok (.iastore, 1) := dk_79 (dk_at dksX1_runs_8 16 rfl rfl)
theorem dX1_runs_204 : decode cX1_runs 204 = .ok (.dup, 1) := dk_89 (dk_at dksX1_runs_8 17 rfl rfl)
theorem dX1_runs_205 : decode cX1_runs 205 = .ok (.iconst 2, 1) := dk_5 (dk_at dksX1_runs_8 18 rfl rfl)
theorem dX1_runs_206 : decode cX1_runs 206 = .ok (.iload_n 3, 1) := dk_29 (dk_at dksX1_runs_8 19 rfl rfl)
theorem dX1_runs_207 : decode cX1_runs 207 = .ok (.aload_n 1, 1) := dk_43 (dk_at dksX1_runs_8 20 rfl rfl)
theorem dX1_runs_208 : decode cX1_runs 208 = .ok (.bipush 50, 2) := dk_16 50 (dk_at dksX1_runs_8 21 rfl rfl)
theorem dX1_runs_210 : decode cX1_runs 210 = .ok (.iaload, 1) := dk_46 (dk_at dksX1_runs_8 23 rfl rfl)
theorem dX1_runs_211 : decode cX1_runs 211 = .ok (.iadd, 1) := dk_96 (dk_at dksX1_runs_9 0 rfl rfl)
theorem dX1_runs_212 : decode cX1_runs 212 = .ok (.ldc 27, 2) := dk_18 27 (dk_at dksX1_runs_9 1 rfl rfl)
theorem dX1_runs_214 : decode cX1_runs 214 = .ok (.iand, 1) := dk_126 (dk_at dksX1_runs_9 3 rfl rfl)
theorem dX1_runs_215 : decode cX1_runs 215 = .ok (.iastore, 1) := dk_79 (dk_at dksX1_runs_9 4 rfl rfl)
theorem dX1_runs_216 : decode cX1_runs 216 = .ok (.dup, 1) := dk_89 (dk_at dksX1_runs_9 5 rfl rfl)
theorem dX1_runs_217 : decode cX1_runs 217 = .ok (.iconst 3, 1) := dk_6 (dk_at dksX1_runs_9 6 rfl rfl)
theorem dX1_runs_218 : decode cX1_runs 218 = .ok (.iload 5, 2) := dk_21 5 (dk_at dksX1_runs_9 7 rfl rfl)
theorem dX1_runs_220 : decode cX1_runs 220 = .ok (.aload_n 1, 1) := dk_43 (dk_at dksX1_runs_9 9 rfl rfl)
theorem dX1_runs_221 : decode cX1_runs 221 = .ok (.bipush 51, 2) := dk_16 51 (dk_at dksX1_runs_9 10 rfl rfl)
theorem dX1_runs_223 : decode cX1_runs 223 = .ok (.iaload, 1) := dk_46 (dk_at dksX1_runs_9 12 rfl rfl)
theorem dX1_runs_224 : decode cX1_runs 224 = .ok (.invokestatic 28, 3) := dk_184 0 28 (dk_at dksX1_runs_9 13 rfl rfl)
theorem dX1_runs_227 : decode cX1_runs 227 = .ok (.iastore, 1) := dk_79 (dk_at dksX1_runs_9 16 rfl rfl)
theorem dX1_runs_228 : decode cX1_runs 228 = .ok (.astore 6, 2) := dk_58 6 (dk_at dksX1_runs_9 17 rfl rfl)
theorem dX1_runs_230 : decode cX1_runs 230 = .ok (.iconst 0, 1) := dk_3 (dk_at dksX1_runs_9 19 rfl rfl)
theorem dX1_runs_231 : decode cX1_runs 231 = .ok (.istore 7, 2) := dk_54 7 (dk_at dksX1_runs_9 20 rfl rfl)
theorem dX1_runs_233 : decode cX1_runs 233 = .ok (.iload 7, 2) := dk_21 7 (dk_at dksX1_runs_9 22 rfl rfl)
theorem dX1_runs_235 : decode cX1_runs 235 = .ok (.bipush 8, 2) := dk_16 8 (dk_at dksX1_runs_10 0 rfl rfl)
theorem dX1_runs_237 : decode cX1_runs 237 = .ok (.if_icmp .ge 35, 3) := dk_162 0 35 (dk_at dksX1_runs_10 2 rfl rfl)
theorem dX1_runs_240 : decode cX1_runs 240 = .ok (.aload_n 0, 1) := dk_42 (dk_at dksX1_runs_10 5 rfl rfl)
theorem dX1_runs_241 : decode cX1_runs 241 = .ok (.getfield 16, 3) := dk_180 0 16 (dk_at dksX1_runs_10 6 rfl rfl)
theorem dX1_runs_244 : decode cX1_runs 244 = .ok (.iload 7, 2) := dk_21 7 (dk_at dksX1_runs_10 9 rfl rfl)
theorem dX1_runs_246 : decode cX1_runs 246 = .ok (.aload 6, 2) := dk_25 6 (dk_at dksX1_runs_10 11 rfl rfl)
theorem dX1_runs_248 : decode cX1_runs 248 = .ok (.iload 7, 2) := dk_21 7 (dk_at dksX1_runs_10 13 rfl rfl)
theorem dX1_runs_250 : decode cX1_runs 250 = .ok (.iconst 2, 1) := dk_5 (dk_at dksX1_runs_10 15 rfl rfl)
theorem dX1_runs_251 : decode cX1_runs 251 = .ok (.idiv, 1) := dk_108 (dk_at dksX1_runs_10 16 rfl rfl)
theorem dX1_runs_252 : decode cX1_runs 252 = .ok (.iaload, 1) := dk_46 (dk_at dksX1_runs_10 17 rfl rfl)
theorem dX1_runs_253 : decode cX1_runs 253 = .ok (.bipush 8, 2) := dk_16 8 (dk_at dksX1_runs_10 18 rfl rfl)
theorem dX1_runs_255 : decode cX1_runs 255 = .ok (.bipush 8, 2) := dk_16 8 (dk_at dksX1_runs_10 20 rfl rfl)
theorem dX1_runs_257 : decode cX1_runs 257 = .ok (.iload 7, 2) := dk_21 7 (dk_at dksX1_runs_10 22 rfl rfl)
theorem dX1_runs_259 : decode cX1_runs 259 = .ok (.iconst 2, 1) := dk_5 (dk_at dksX1_runs_11 0 rfl rfl)
theorem dX1_runs_260 : decode cX1_runs 260 = .ok (.irem, 1) := dk_112 (dk_at dksX1_runs_11 1 rfl rfl)
theorem dX1_runs_261 : decode cX1_runs 261 = .ok (.imul, 1) := dk_104 (dk_at dksX1_runs_11 2 rfl rfl)
theorem dX1_runs_262 : decode cX1_runs 262 = .ok (.isub, 1) := dk_100 (dk_at dksX1_runs_11 3 rfl rfl)
theorem dX1_runs_263 : decode cX1_runs 263 = .ok (.ishr, 1) := dk_122 (dk_at dksX1_runs_11 4 rfl rfl)
theorem dX1_runs_264 : decode cX1_runs 264 = .ok (.i2b, 1) := dk_145 (dk_at dksX1_runs_11 5 rfl rfl)
theorem dX1_runs_265 : decode cX1_runs 265 = .ok (.bastore, 1) := dk_84 (dk_at dksX1_runs_11 6 rfl rfl)
theorem dX1_runs_266 : decode cX1_runs 266 = .ok (.iinc 7 1, 3) := dk_132 7 1 (dk_at dksX1_runs_11 7 rfl rfl)
theorem dX1_runs_269 : decode cX1_runs 269 = .ok (.goto (-36), 3) := dk_167 255 220 (dk_at dksX1_runs_11 10 rfl rfl)
theorem dX1_runs_272 : decode cX1_runs 272 = .ok (.return_, 1) := dk_177 (dk_at dksX1_runs_11 13 rfl rfl)
abbrev cX1_half : ByteArray := prog_7_method_5_code
def yX1_half : MethodName := ⟨RX1, "half", "([BI)I"⟩
def dkwX1_half_0 : List UInt8 := [42, 27, 51, 17, 0, 255, 126, 16, 8, 120, 42, 27, 4, 96, 51, 17, 0, 255, 126, 128, 172]
abbrev dktX1_half_0 : List UInt8 := dkwX1_half_0 ++ []
theorem dksX1_half_0 : cX1_half.data.toList.drop 0 = dktX1_half_0 := by decide +kernel
theorem dX1_half_0 : decode cX1_half 0 = .ok (.aload_n 0, 1) := dk_42 (dk_at dksX1_half_0 0 rfl rfl)
theorem dX1_half_1 : decode cX1_half 1 = .ok (.iload_n 1, 1) := dk_27 (dk_at dksX1_half_0 1 rfl rfl)
theorem dX1_half_2 : decode cX1_half 2 = .ok (.baload, 1) := dk_51 (dk_at dksX1_half_0 2 rfl rfl)
theorem dX1_half_3 : decode cX1_half 3 = .ok (.sipush 255, 3) := dk_17 0 255 (dk_at dksX1_half_0 3 rfl rfl)
theorem dX1_half_6 : decode cX1_half 6 = .ok (.iand, 1) := dk_126 (dk_at dksX1_half_0 6 rfl rfl)
theorem dX1_half_7 : decode cX1_half 7 = .ok (.bipush 8, 2) := dk_16 8 (dk_at dksX1_half_0 7 rfl rfl)
theorem dX1_half_9 : decode cX1_half 9 = .ok (.ishl, 1) := dk_120 (dk_at dksX1_half_0 9 rfl rfl)
theorem dX1_half_10 : decode cX1_half 10 = .ok (.aload_n 0, 1) := dk_42 (dk_at dksX1_half_0 10 rfl rfl)
theorem dX1_half_11 : decode cX1_half 11 = .ok (.iload_n 1, 1) := dk_27 (dk_at dksX1_half_0 11 rfl rfl)
theorem dX1_half_12 : decode cX1_half 12 = .ok (.iconst 1, 1) := dk_4 (dk_at dksX1_half_0 12 rfl rfl)
theorem dX1_half_13 : decode cX1_half 13 = .ok (.iadd, 1) := dk_96 (dk_at dksX1_half_0 13 rfl rfl)
theorem dX1_half_14 : decode cX1_half 14 = .ok (.baload, 1) := dk_51 (dk_at dksX1_half_0 14 rfl rfl)
theorem dX1_half_15 : decode cX1_half 15 = .ok (.sipush 255, 3) := dk_17 0 255 (dk_at dksX1_half_0 15 rfl rfl)
theorem dX1_half_18 : decode cX1_half 18 = .ok (.iand, 1) := dk_126 (dk_at dksX1_half_0 18 rfl rfl)
theorem dX1_half_19 : decode cX1_half 19 = .ok (.ior, 1) := dk_128 (dk_at dksX1_half_0 19 rfl rfl)
theorem dX1_half_20 : decode cX1_half 20 = .ok (.ireturn, 1) := dk_172 (dk_at dksX1_half_0 20 rfl rfl)
abbrev cX1_times : ByteArray := prog_7_method_6_code
def yX1_times : MethodName := ⟨RX1, "times", "(II)I"⟩
def dkwX1_times_1 : List UInt8 := [133, 55, 4, 32, 22, 4, 105, 20, 0, 25, 113, 136, 18, 27, 126, 172]
abbrev dktX1_times_1 : List UInt8 := dkwX1_times_1 ++ []
def dkwX1_times_0 : List UInt8 := [26, 154, 0, 9, 20, 0, 23, 167, 0, 5, 26, 133, 65, 27, 154, 0, 9, 20, 0, 23, 167, 0, 5, 27]
abbrev dktX1_times_0 : List UInt8 := dkwX1_times_0 ++ dktX1_times_1
theorem dksX1_times_0 : cX1_times.data.toList.drop 0 = dktX1_times_0 := by decide +kernel
theorem dksX1_times_1 : cX1_times.data.toList.drop 24 = dktX1_times_1 := dk_seg dksX1_times_0 24 rfl rfl
theorem dX1_times_0 : decode cX1_times 0 = .ok (.iload_n 0, 1) := dk_26 (dk_at dksX1_times_0 0 rfl rfl)
theorem dX1_times_1 : decode cX1_times 1 = .ok (.ifCond .ne 9, 3) := dk_154 0 9 (dk_at dksX1_times_0 1 rfl rfl)
theorem dX1_times_4 : decode cX1_times 4 = .ok (.ldc2_w 23, 3) := dk_20 0 23 (dk_at dksX1_times_0 4 rfl rfl)
theorem dX1_times_7 : decode cX1_times 7 = .ok (.goto 5, 3) := dk_167 0 5 (dk_at dksX1_times_0 7 rfl rfl)
theorem dX1_times_10 : decode cX1_times 10 = .ok (.iload_n 0, 1) := dk_26 (dk_at dksX1_times_0 10 rfl rfl)
theorem dX1_times_11 : decode cX1_times 11 = .ok (.i2l, 1) := dk_133 (dk_at dksX1_times_0 11 rfl rfl)
theorem dX1_times_12 : decode cX1_times 12 = .ok (.lstore_n 2, 1) := dk_65 (dk_at dksX1_times_0 12 rfl rfl)
theorem dX1_times_13 : decode cX1_times 13 = .ok (.iload_n 1, 1) := dk_27 (dk_at dksX1_times_0 13 rfl rfl)
theorem dX1_times_14 : decode cX1_times 14 = .ok (.ifCond .ne 9, 3) := dk_154 0 9 (dk_at dksX1_times_0 14 rfl rfl)
theorem dX1_times_17 : decode cX1_times 17 = .ok (.ldc2_w 23, 3) := dk_20 0 23 (dk_at dksX1_times_0 17 rfl rfl)
theorem dX1_times_20 : decode cX1_times 20 = .ok (.goto 5, 3) := dk_167 0 5 (dk_at dksX1_times_0 20 rfl rfl)
theorem dX1_times_23 : decode cX1_times 23 = .ok (.iload_n 1, 1) := dk_27 (dk_at dksX1_times_0 23 rfl rfl)
theorem dX1_times_24 : decode cX1_times 24 = .ok (.i2l, 1) := dk_133 (dk_at dksX1_times_1 0 rfl rfl)
theorem dX1_times_25 : decode cX1_times 25 = .ok (.lstore 4, 2) := dk_55 4 (dk_at dksX1_times_1 1 rfl rfl)
theorem dX1_times_27 : decode cX1_times 27 = .ok (.lload_n 2, 1) := dk_32 (dk_at dksX1_times_1 3 rfl rfl)
theorem dX1_times_28 : decode cX1_times 28 = .ok (.lload 4, 2) := dk_22 4 (dk_at dksX1_times_1 4 rfl rfl)
theorem dX1_times_30 : decode cX1_times 30 = .ok (.lmul, 1) := dk_105 (dk_at dksX1_times_1 6 rfl rfl)
theorem dX1_times_31 : decode cX1_times 31 = .ok (.ldc2_w 25, 3) := dk_20 0 25 (dk_at dksX1_times_1 7 rfl rfl)
theorem dX1_times_34 : decode cX1_times 34 = .ok (.lrem, 1) := dk_113 (dk_at dksX1_times_1 10 rfl rfl)
theorem dX1_times_35 : decode cX1_times 35 = .ok (.l2i, 1) := dk_136 (dk_at dksX1_times_1 11 rfl rfl)
theorem dX1_times_36 : decode cX1_times 36 = .ok (.ldc 27, 2) := dk_18 27 (dk_at dksX1_times_1 12 rfl rfl)
theorem dX1_times_38 : decode cX1_times 38 = .ok (.iand, 1) := dk_126 (dk_at dksX1_times_1 14 rfl rfl)
theorem dX1_times_39 : decode cX1_times 39 = .ok (.ireturn, 1) := dk_172 (dk_at dksX1_times_1 15 rfl rfl)
abbrev cX1_open : ByteArray := prog_7_method_13_code
def yX1_open : MethodName := ⟨RX1, "open", "(I)V"⟩
def dkwX1_open_0 : List UInt8 := [42, 42, 182, 0, 43, 184, 0, 51, 182, 0, 47, 177]
abbrev dktX1_open_0 : List UInt8 := dkwX1_open_0 ++ []
theorem dksX1_open_0 : cX1_open.data.toList.drop 0 = dktX1_open_0 := by decide +kernel
theorem dX1_open_0 : decode cX1_open 0 = .ok (.aload_n 0, 1) := dk_42 (dk_at dksX1_open_0 0 rfl rfl)
theorem dX1_open_1 : decode cX1_open 1 = .ok (.aload_n 0, 1) := dk_42 (dk_at dksX1_open_0 1 rfl rfl)
theorem dX1_open_2 : decode cX1_open 2 = .ok (.invokevirtual 43, 3) := dk_182 0 43 (dk_at dksX1_open_0 2 rfl rfl)
theorem dX1_open_5 : decode cX1_open 5 = .ok (.invokestatic 51, 3) := dk_184 0 51 (dk_at dksX1_open_0 5 rfl rfl)
theorem dX1_open_8 : decode cX1_open 8 = .ok (.invokevirtual 47, 3) := dk_182 0 47 (dk_at dksX1_open_0 8 rfl rfl)
theorem dX1_open_11 : decode cX1_open 11 = .ok (.return_, 1) := dk_177 (dk_at dksX1_open_0 11 rfl rfl)
abbrev cX1_undoing : ByteArray := prog_7_method_10_code
def yX1_undoing : MethodName := ⟨RX1, "undoing", "([I)[I"⟩
def dkwX1_undoing_6 : List UInt8 := [96, 42, 29, 4, 100, 46, 79, 132, 2, 1, 167, 255, 112, 43, 176]
abbrev dktX1_undoing_6 : List UInt8 := dkwX1_undoing_6 ++ []
def dkwX1_undoing_5 : List UInt8 := [16, 8, 162, 0, 29, 43, 16, 6, 28, 104, 7, 96, 42, 29, 5, 100, 46, 79, 43, 16, 6, 28, 104, 8]
abbrev dktX1_undoing_5 : List UInt8 := dkwX1_undoing_5 ++ dktX1_undoing_6
def dkwX1_undoing_4 : List UInt8 := [96, 46, 184, 0, 36, 79, 43, 16, 6, 28, 104, 6, 96, 42, 29, 6, 96, 46, 184, 0, 32, 79, 28]
abbrev dktX1_undoing_4 : List UInt8 := dkwX1_undoing_4 ++ dktX1_undoing_5
def dkwX1_undoing_3 : List UInt8 := [46, 184, 0, 36, 79, 43, 16, 6, 28, 104, 5, 96, 42, 29, 21, 4, 153, 0, 7, 5, 167, 0, 4, 4]
abbrev dktX1_undoing_3 : List UInt8 := dkwX1_undoing_3 ++ dktX1_undoing_4
def dkwX1_undoing_2 : List UInt8 := [184, 0, 32, 79, 43, 16, 6, 28, 104, 4, 96, 42, 29, 21, 4, 153, 0, 7, 4, 167, 0, 4, 5, 96]
abbrev dktX1_undoing_2 : List UInt8 := dkwX1_undoing_2 ++ dktX1_undoing_3
def dkwX1_undoing_1 : List UInt8 := [153, 0, 9, 28, 16, 8, 160, 0, 7, 4, 167, 0, 4, 3, 54, 4, 43, 16, 6, 28, 104, 42, 29, 46]
abbrev dktX1_undoing_1 : List UInt8 := dkwX1_undoing_1 ++ dktX1_undoing_2
def dkwX1_undoing_0 : List UInt8 := [16, 52, 188, 10, 76, 3, 61, 28, 16, 8, 163, 0, 144, 16, 48, 16, 6, 28, 104, 100, 62, 28]
abbrev dktX1_undoing_0 : List UInt8 := dkwX1_undoing_0 ++ dktX1_undoing_1
theorem dksX1_undoing_0 : cX1_undoing.data.toList.drop 0 = dktX1_undoing_0 := by decide +kernel
theorem dksX1_undoing_1 : cX1_undoing.data.toList.drop 22 = dktX1_undoing_1 := dk_seg dksX1_undoing_0 22 rfl rfl
theorem dksX1_undoing_2 : cX1_undoing.data.toList.drop 46 = dktX1_undoing_2 := dk_seg dksX1_undoing_1 24 rfl rfl
theorem dksX1_undoing_3 : cX1_undoing.data.toList.drop 70 = dktX1_undoing_3 := dk_seg dksX1_undoing_2 24 rfl rfl
theorem dksX1_undoing_4 : cX1_undoing.data.toList.drop 94 = dktX1_undoing_4 := dk_seg dksX1_undoing_3 24 rfl rfl
theorem dksX1_undoing_5 : cX1_undoing.data.toList.drop 117 = dktX1_undoing_5 := dk_seg dksX1_undoing_4 23 rfl rfl
theorem dksX1_undoing_6 : cX1_undoing.data.toList.drop 141 = dktX1_undoing_6 := dk_seg dksX1_undoing_5 24 rfl rfl
theorem dX1_undoing_0 : decode cX1_undoing 0 = .ok (.bipush 52, 2) := dk_16 52 (dk_at dksX1_undoing_0 0 rfl rfl)
theorem dX1_undoing_2 : decode cX1_undoing 2 = .ok (.newarray .int, 2) := dk_188_10 (dk_at dksX1_undoing_0 2 rfl rfl)
theorem dX1_undoing_4 : decode cX1_undoing 4 = .ok (.astore_n 1, 1) := dk_76 (dk_at dksX1_undoing_0 4 rfl rfl)
theorem dX1_undoing_5 : decode cX1_undoing 5 = .ok (.iconst 0, 1) := dk_3 (dk_at dksX1_undoing_0 5 rfl rfl)
theorem dX1_undoing_6 : decode cX1_undoing 6 = .ok (.istore_n 2, 1) := dk_61 (dk_at dksX1_undoing_0 6 rfl rfl)
theorem dX1_undoing_7 : decode cX1_undoing 7 = .ok (.iload_n 2, 1) := dk_28 (dk_at dksX1_undoing_0 7 rfl rfl)
theorem dX1_undoing_8 : decode cX1_undoing 8 = .ok (.bipush 8, 2) := dk_16 8 (dk_at dksX1_undoing_0 8 rfl rfl)
theorem dX1_undoing_10 : decode cX1_undoing 10 = .ok (.if_icmp .gt 144, 3) := dk_163 0 144 (dk_at dksX1_undoing_0 10 rfl rfl)
theorem dX1_undoing_13 : decode cX1_undoing 13 = .ok (.bipush 48, 2) := dk_16 48 (dk_at dksX1_undoing_0 13 rfl rfl)
theorem dX1_undoing_15 : decode cX1_undoing 15 = .ok (.bipush 6, 2) := dk_16 6 (dk_at dksX1_undoing_0 15 rfl rfl)
theorem dX1_undoing_17 : decode cX1_undoing 17 = .ok (.iload_n 2, 1) := dk_28 (dk_at dksX1_undoing_0 17 rfl rfl)
theorem dX1_undoing_18 : decode cX1_undoing 18 = .ok (.imul, 1) := dk_104 (dk_at dksX1_undoing_0 18 rfl rfl)
theorem dX1_undoing_19 : decode cX1_undoing 19 = .ok (.isub, 1) := dk_100 (dk_at dksX1_undoing_0 19 rfl rfl)
theorem dX1_undoing_20 : decode cX1_undoing 20 = .ok (.istore_n 3, 1) := dk_62 (dk_at dksX1_undoing_0 20 rfl rfl)
theorem dX1_undoing_21 : decode cX1_undoing 21 = .ok (.iload_n 2, 1) := dk_28 (dk_at dksX1_undoing_0 21 rfl rfl)
theorem dX1_undoing_22 : decode cX1_undoing 22 = .ok (.ifCond .eq 9, 3) := dk_153 0 9 (dk_at dksX1_undoing_1 0 rfl rfl)
theorem dX1_undoing_25 : decode cX1_undoing 25 = .ok (.iload_n 2, 1) := dk_28 (dk_at dksX1_undoing_1 3 rfl rfl)
theorem dX1_undoing_26 : decode cX1_undoing 26 = .ok (.bipush 8, 2) := dk_16 8 (dk_at dksX1_undoing_1 4 rfl rfl)
theorem dX1_undoing_28 : decode cX1_undoing 28 = .ok (.if_icmp .ne 7, 3) := dk_160 0 7 (dk_at dksX1_undoing_1 6 rfl rfl)
theorem dX1_undoing_31 : decode cX1_undoing 31 = .ok (.iconst 1, 1) := dk_4 (dk_at dksX1_undoing_1 9 rfl rfl)
theorem dX1_undoing_32 : decode cX1_undoing 32 = .ok (.goto 4, 3) := dk_167 0 4 (dk_at dksX1_undoing_1 10 rfl rfl)
theorem dX1_undoing_35 : decode cX1_undoing 35 = .ok (.iconst 0, 1) := dk_3 (dk_at dksX1_undoing_1 13 rfl rfl)
theorem dX1_undoing_36 : decode cX1_undoing 36 = .ok (.istore 4, 2) := dk_54 4 (dk_at dksX1_undoing_1 14 rfl rfl)
theorem dX1_undoing_38 : decode cX1_undoing 38 = .ok (.aload_n 1, 1) := dk_43 (dk_at dksX1_undoing_1 16 rfl rfl)
theorem dX1_undoing_39 : decode cX1_undoing 39 = .ok (.bipush 6, 2) := dk_16 6 (dk_at dksX1_undoing_1 17 rfl rfl)
theorem dX1_undoing_41 : decode cX1_undoing 41 = .ok (.iload_n 2, 1) := dk_28 (dk_at dksX1_undoing_1 19 rfl rfl)
theorem dX1_undoing_42 : decode cX1_undoing 42 = .ok (.imul, 1) := dk_104 (dk_at dksX1_undoing_1 20 rfl rfl)
theorem dX1_undoing_43 : decode cX1_undoing 43 = .ok (.aload_n 0, 1) := dk_42 (dk_at dksX1_undoing_1 21 rfl rfl)
theorem dX1_undoing_44 : decode cX1_undoing 44 = .ok (.iload_n 3, 1) := dk_29 (dk_at dksX1_undoing_1 22 rfl rfl)
theorem dX1_undoing_45 : decode cX1_undoing 45 = .ok (.iaload, 1) := dk_46 (dk_at dksX1_undoing_1 23 rfl rfl)
theorem dX1_undoing_46 : decode cX1_undoing 46 = .ok (.invokestatic 32, 3) := dk_184 0 32 (dk_at dksX1_undoing_2 0 rfl rfl)
theorem dX1_undoing_49 : decode cX1_undoing 49 = .ok (.iastore, 1) := dk_79 (dk_at dksX1_undoing_2 3 rfl rfl)
theorem dX1_undoing_50 : decode cX1_undoing 50 = .ok (.aload_n 1, 1) := dk_43 (dk_at dksX1_undoing_2 4 rfl rfl)
theorem dX1_undoing_51 : decode cX1_undoing 51 = .ok (.bipush 6, 2) := dk_16 6 (dk_at dksX1_undoing_2 5 rfl rfl)
theorem dX1_undoing_53 : decode cX1_undoing 53 = .ok (.iload_n 2, 1) := dk_28 (dk_at dksX1_undoing_2 7 rfl rfl)
theorem dX1_undoing_54 : decode cX1_undoing 54 = .ok (.imul, 1) := dk_104 (dk_at dksX1_undoing_2 8 rfl rfl)
theorem dX1_undoing_55 : decode cX1_undoing 55 = .ok (.iconst 1, 1) := dk_4 (dk_at dksX1_undoing_2 9 rfl rfl)
theorem dX1_undoing_56 : decode cX1_undoing 56 = .ok (.iadd, 1) := dk_96 (dk_at dksX1_undoing_2 10 rfl rfl)
theorem dX1_undoing_57 : decode cX1_undoing 57 = .ok (.aload_n 0, 1) := dk_42 (dk_at dksX1_undoing_2 11 rfl rfl)
theorem dX1_undoing_58 : decode cX1_undoing 58 = .ok (.iload_n 3, 1) := dk_29 (dk_at dksX1_undoing_2 12 rfl rfl)
theorem dX1_undoing_59 : decode cX1_undoing 59 = .ok (.iload 4, 2) := dk_21 4 (dk_at dksX1_undoing_2 13 rfl rfl)
theorem dX1_undoing_61 : decode cX1_undoing 61 = .ok (.ifCond .eq 7, 3) := dk_153 0 7 (dk_at dksX1_undoing_2 15 rfl rfl)
theorem dX1_undoing_64 : decode cX1_undoing 64 = .ok (.iconst 1, 1) := dk_4 (dk_at dksX1_undoing_2 18 rfl rfl)
theorem dX1_undoing_65 : decode cX1_undoing 65 = .ok (.goto 4, 3) := dk_167 0 4 (dk_at dksX1_undoing_2 19 rfl rfl)
theorem dX1_undoing_68 : decode cX1_undoing 68 = .ok (.iconst 2, 1) := dk_5 (dk_at dksX1_undoing_2 22 rfl rfl)
theorem dX1_undoing_69 : decode cX1_undoing 69 = .ok (.iadd, 1) := dk_96 (dk_at dksX1_undoing_2 23 rfl rfl)
theorem dX1_undoing_70 : decode cX1_undoing 70 = .ok (.iaload, 1) := dk_46 (dk_at dksX1_undoing_3 0 rfl rfl)
theorem dX1_undoing_71 : decode cX1_undoing 71 = .ok (.invokestatic 36, 3) := dk_184 0 36 (dk_at dksX1_undoing_3 1 rfl rfl)
theorem dX1_undoing_74 : decode cX1_undoing 74 = .ok (.iastore, 1) := dk_79 (dk_at dksX1_undoing_3 4 rfl rfl)
theorem dX1_undoing_75 : decode cX1_undoing 75 = .ok (.aload_n 1, 1) := dk_43 (dk_at dksX1_undoing_3 5 rfl rfl)
theorem dX1_undoing_76 : decode cX1_undoing 76 = .ok (.bipush 6, 2) := dk_16 6 (dk_at dksX1_undoing_3 6 rfl rfl)
theorem dX1_undoing_78 : decode cX1_undoing 78 = .ok (.iload_n 2, 1) := dk_28 (dk_at dksX1_undoing_3 8 rfl rfl)
theorem dX1_undoing_79 : decode cX1_undoing 79 = .ok (.imul, 1) := dk_104 (dk_at dksX1_undoing_3 9 rfl rfl)
theorem dX1_undoing_80 : decode cX1_undoing 80 = .ok (.iconst 2, 1) := dk_5 (dk_at dksX1_undoing_3 10 rfl rfl)
theorem dX1_undoing_81 : decode cX1_undoing 81 = .ok (.iadd, 1) := dk_96 (dk_at dksX1_undoing_3 11 rfl rfl)
theorem dX1_undoing_82 : decode cX1_undoing 82 = .ok (.aload_n 0, 1) := dk_42 (dk_at dksX1_undoing_3 12 rfl rfl)
theorem dX1_undoing_83 : decode cX1_undoing 83 = .ok (.iload_n 3, 1) := dk_29 (dk_at dksX1_undoing_3 13 rfl rfl)
theorem dX1_undoing_84 : decode cX1_undoing 84 = .ok (.iload 4, 2) := dk_21 4 (dk_at dksX1_undoing_3 14 rfl rfl)
theorem dX1_undoing_86 : decode cX1_undoing 86 = .ok (.ifCond .eq 7, 3) := dk_153 0 7 (dk_at dksX1_undoing_3 16 rfl rfl)
theorem dX1_undoing_89 : decode cX1_undoing 89 = .ok (.iconst 2, 1) := dk_5 (dk_at dksX1_undoing_3 19 rfl rfl)
theorem dX1_undoing_90 : decode cX1_undoing 90 = .ok (.goto 4, 3) := dk_167 0 4 (dk_at dksX1_undoing_3 20 rfl rfl)
theorem dX1_undoing_93 : decode cX1_undoing 93 = .ok (.iconst 1, 1) := dk_4 (dk_at dksX1_undoing_3 23 rfl rfl)
theorem dX1_undoing_94 : decode cX1_undoing 94 = .ok (.iadd, 1) := dk_96 (dk_at dksX1_undoing_4 0 rfl rfl)
theorem dX1_undoing_95 : decode cX1_undoing 95 = .ok (.iaload, 1) := dk_46 (dk_at dksX1_undoing_4 1 rfl rfl)
theorem dX1_undoing_96 : decode cX1_undoing 96 = .ok (.invokestatic 36, 3) := dk_184 0 36 (dk_at dksX1_undoing_4 2 rfl rfl)
theorem dX1_undoing_99 : decode cX1_undoing 99 = .ok (.iastore, 1) := dk_79 (dk_at dksX1_undoing_4 5 rfl rfl)
theorem dX1_undoing_100 : decode cX1_undoing 100 = .ok (.aload_n 1, 1) := dk_43 (dk_at dksX1_undoing_4 6 rfl rfl)
theorem dX1_undoing_101 : decode cX1_undoing 101 = .ok (.bipush 6, 2) := dk_16 6 (dk_at dksX1_undoing_4 7 rfl rfl)
theorem dX1_undoing_103 : decode cX1_undoing 103 = .ok (.iload_n 2, 1) := dk_28 (dk_at dksX1_undoing_4 9 rfl rfl)
theorem dX1_undoing_104 : decode cX1_undoing 104 = .ok (.imul, 1) := dk_104 (dk_at dksX1_undoing_4 10 rfl rfl)
theorem dX1_undoing_105 : decode cX1_undoing 105 = .ok (.iconst 3, 1) := dk_6 (dk_at dksX1_undoing_4 11 rfl rfl)
theorem dX1_undoing_106 : decode cX1_undoing 106 = .ok (.iadd, 1) := dk_96 (dk_at dksX1_undoing_4 12 rfl rfl)
theorem dX1_undoing_107 : decode cX1_undoing 107 = .ok (.aload_n 0, 1) := dk_42 (dk_at dksX1_undoing_4 13 rfl rfl)
theorem dX1_undoing_108 : decode cX1_undoing 108 = .ok (.iload_n 3, 1) := dk_29 (dk_at dksX1_undoing_4 14 rfl rfl)
theorem dX1_undoing_109 : decode cX1_undoing 109 = .ok (.iconst 3, 1) := dk_6 (dk_at dksX1_undoing_4 15 rfl rfl)
theorem dX1_undoing_110 : decode cX1_undoing 110 = .ok (.iadd, 1) := dk_96 (dk_at dksX1_undoing_4 16 rfl rfl)
theorem dX1_undoing_111 : decode cX1_undoing 111 = .ok (.iaload, 1) := dk_46 (dk_at dksX1_undoing_4 17 rfl rfl)
theorem dX1_undoing_112 : decode cX1_undoing 112 = .ok (.invokestatic 32, 3) := dk_184 0 32 (dk_at dksX1_undoing_4 18 rfl rfl)
theorem dX1_undoing_115 : decode cX1_undoing 115 = .ok (.iastore, 1) := dk_79 (dk_at dksX1_undoing_4 21 rfl rfl)
theorem dX1_undoing_116 : decode cX1_undoing 116 = .ok (.iload_n 2, 1) := dk_28 (dk_at dksX1_undoing_4 22 rfl rfl)
theorem dX1_undoing_117 : decode cX1_undoing 117 = .ok (.bipush 8, 2) := dk_16 8 (dk_at dksX1_undoing_5 0 rfl rfl)
theorem dX1_undoing_119 : decode cX1_undoing 119 = .ok (.if_icmp .ge 29, 3) := dk_162 0 29 (dk_at dksX1_undoing_5 2 rfl rfl)
theorem dX1_undoing_122 : decode cX1_undoing 122 = .ok (.aload_n 1, 1) := dk_43 (dk_at dksX1_undoing_5 5 rfl rfl)
theorem dX1_undoing_123 : decode cX1_undoing 123 = .ok (.bipush 6, 2) := dk_16 6 (dk_at dksX1_undoing_5 6 rfl rfl)
theorem dX1_undoing_125 : decode cX1_undoing 125 = .ok (.iload_n 2, 1) := dk_28 (dk_at dksX1_undoing_5 8 rfl rfl)
theorem dX1_undoing_126 : decode cX1_undoing 126 = .ok (.imul, 1) := dk_104 (dk_at dksX1_undoing_5 9 rfl rfl)
theorem dX1_undoing_127 : decode cX1_undoing 127 = .ok (.iconst 4, 1) := dk_7 (dk_at dksX1_undoing_5 10 rfl rfl)
theorem dX1_undoing_128 : decode cX1_undoing 128 = .ok (.iadd, 1) := dk_96 (dk_at dksX1_undoing_5 11 rfl rfl)
theorem dX1_undoing_129 : decode cX1_undoing 129 = .ok (.aload_n 0, 1) := dk_42 (dk_at dksX1_undoing_5 12 rfl rfl)
theorem dX1_undoing_130 : decode cX1_undoing 130 = .ok (.iload_n 3, 1) := dk_29 (dk_at dksX1_undoing_5 13 rfl rfl)
theorem dX1_undoing_131 : decode cX1_undoing 131 = .ok (.iconst 2, 1) := dk_5 (dk_at dksX1_undoing_5 14 rfl rfl)
theorem dX1_undoing_132 : decode cX1_undoing 132 = .ok (.isub, 1) := dk_100 (dk_at dksX1_undoing_5 15 rfl rfl)
theorem dX1_undoing_133 : decode cX1_undoing 133 = .ok (.iaload, 1) := dk_46 (dk_at dksX1_undoing_5 16 rfl rfl)
theorem dX1_undoing_134 : decode cX1_undoing 134 = .ok (.iastore, 1) := dk_79 (dk_at dksX1_undoing_5 17 rfl rfl)
theorem dX1_undoing_135 : decode cX1_undoing 135 = .ok (.aload_n 1, 1) := dk_43 (dk_at dksX1_undoing_5 18 rfl rfl)
theorem dX1_undoing_136 : decode cX1_undoing 136 = .ok (.bipush 6, 2) := dk_16 6 (dk_at dksX1_undoing_5 19 rfl rfl)
theorem dX1_undoing_138 : decode cX1_undoing 138 = .ok (.iload_n 2, 1) := dk_28 (dk_at dksX1_undoing_5 21 rfl rfl)
theorem dX1_undoing_139 : decode cX1_undoing 139 = .ok (.imul, 1) := dk_104 (dk_at dksX1_undoing_5 22 rfl rfl)
theorem dX1_undoing_140 : decode cX1_undoing 140 = .ok (.iconst 5, 1) := dk_8 (dk_at dksX1_undoing_5 23 rfl rfl)
theorem dX1_undoing_141 : decode cX1_undoing 141 = .ok (.iadd, 1) := dk_96 (dk_at dksX1_undoing_6 0 rfl rfl)
theorem dX1_undoing_142 : decode cX1_undoing 142 = .ok (.aload_n 0, 1) := dk_42 (dk_at dksX1_undoing_6 1 rfl rfl)
theorem dX1_undoing_143 : decode cX1_undoing 143 = .ok (.iload_n 3, 1) := dk_29 (dk_at dksX1_undoing_6 2 rfl rfl)
theorem dX1_undoing_144 : decode cX1_undoing 144 = .ok (.iconst 1, 1) := dk_4 (dk_at dksX1_undoing_6 3 rfl rfl)
theorem dX1_undoing_145 : decode cX1_undoing 145 = .ok (.isub, 1) := dk_100 (dk_at dksX1_undoing_6 4 rfl rfl)
theorem dX1_undoing_146 : decode cX1_undoing 146 = .ok (.iaload, 1) := dk_46 (dk_at dksX1_undoing_6 5 rfl rfl)
theorem dX1_undoing_147 : decode cX1_undoing 147 = .ok (.iastore, 1) := dk_79 (dk_at dksX1_undoing_6 6 rfl rfl)
theorem dX1_undoing_148 : decode cX1_undoing 148 = .ok (.iinc 2 1, 3) := dk_132 2 1 (dk_at dksX1_undoing_6 7 rfl rfl)
theorem dX1_undoing_151 : decode cX1_undoing 151 = .ok (.goto (-144), 3) := dk_167 255 112 (dk_at dksX1_undoing_6 10 rfl rfl)
theorem dX1_undoing_154 : decode cX1_undoing 154 = .ok (.aload_n 1, 1) := dk_43 (dk_at dksX1_undoing_6 13 rfl rfl)
theorem dX1_undoing_155 : decode cX1_undoing 155 = .ok (.areturn, 1) := dk_176 (dk_at dksX1_undoing_6 14 rfl rfl)
abbrev cX1_inverse : ByteArray := prog_7_method_7_code
def yX1_inverse : MethodName := ⟨RX1, "inverse", "(I)I"⟩
def dkwX1_inverse_0 : List UInt8 := [4, 60, 3, 61, 28, 18, 27, 162, 0, 15, 27, 26, 184, 0, 28, 60, 132, 2, 1, 167, 255, 241, 27, 172]
abbrev dktX1_inverse_0 : List UInt8 := dkwX1_inverse_0 ++ []
theorem dksX1_inverse_0 : cX1_inverse.data.toList.drop 0 = dktX1_inverse_0 := by decide +kernel
theorem dX1_inverse_0 : decode cX1_inverse 0 = .ok (.iconst 1, 1) := dk_4 (dk_at dksX1_inverse_0 0 rfl rfl)
theorem dX1_inverse_1 : decode cX1_inverse 1 = .ok (.istore_n 1, 1) := dk_60 (dk_at dksX1_inverse_0 1 rfl rfl)
theorem dX1_inverse_2 : decode cX1_inverse 2 = .ok (.iconst 0, 1) := dk_3 (dk_at dksX1_inverse_0 2 rfl rfl)
theorem dX1_inverse_3 : decode cX1_inverse 3 = .ok (.istore_n 2, 1) := dk_61 (dk_at dksX1_inverse_0 3 rfl rfl)
theorem dX1_inverse_4 : decode cX1_inverse 4 = .ok (.iload_n 2, 1) := dk_28 (dk_at dksX1_inverse_0 4 rfl rfl)
theorem dX1_inverse_5 : decode cX1_inverse 5 = .ok (.ldc 27, 2) := dk_18 27 (dk_at dksX1_inverse_0 5 rfl rfl)
theorem dX1_inverse_7 : decode cX1_inverse 7 = .ok (.if_icmp .ge 15, 3) := dk_162 0 15 (dk_at dksX1_inverse_0 7 rfl rfl)
theorem dX1_inverse_10 : decode cX1_inverse 10 = .ok (.iload_n 1, 1) := dk_27 (dk_at dksX1_inverse_0 10 rfl rfl)
theorem dX1_inverse_11 : decode cX1_inverse 11 = .ok (.iload_n 0, 1) := dk_26 (dk_at dksX1_inverse_0 11 rfl rfl)
theorem dX1_inverse_12 : decode cX1_inverse 12 = .ok (.invokestatic 28, 3) := dk_184 0 28 (dk_at dksX1_inverse_0 12 rfl rfl)
theorem dX1_inverse_15 : decode cX1_inverse 15 = .ok (.istore_n 1, 1) := dk_60 (dk_at dksX1_inverse_0 15 rfl rfl)
theorem dX1_inverse_16 : decode cX1_inverse 16 = .ok (.iinc 2 1, 3) := dk_132 2 1 (dk_at dksX1_inverse_0 16 rfl rfl)
theorem dX1_inverse_19 : decode cX1_inverse 19 = .ok (.goto (-15), 3) := dk_167 255 241 (dk_at dksX1_inverse_0 19 rfl rfl)
theorem dX1_inverse_22 : decode cX1_inverse 22 = .ok (.iload_n 1, 1) := dk_27 (dk_at dksX1_inverse_0 22 rfl rfl)
theorem dX1_inverse_23 : decode cX1_inverse 23 = .ok (.ireturn, 1) := dk_172 (dk_at dksX1_inverse_0 23 rfl rfl)
abbrev cX1_less : ByteArray := prog_7_method_8_code
def yX1_less : MethodName := ⟨RX1, "less", "(I)I"⟩
def dkwX1_less_0 : List UInt8 := [26, 116, 18, 27, 126, 172]
abbrev dktX1_less_0 : List UInt8 := dkwX1_less_0 ++ []
theorem dksX1_less_0 : cX1_less.data.toList.drop 0 = dktX1_less_0 := by decide +kernel
theorem dX1_less_0 : decode cX1_less 0 = .ok (.iload_n 0, 1) := dk_26 (dk_at dksX1_less_0 0 rfl rfl)
theorem dX1_less_1 : decode cX1_less 1 = .ok (.ineg, 1) := dk_116 (dk_at dksX1_less_0 1 rfl rfl)
theorem dX1_less_2 : decode cX1_less 2 = .ok (.ldc 27, 2) := dk_18 27 (dk_at dksX1_less_0 2 rfl rfl)
theorem dX1_less_4 : decode cX1_less 4 = .ok (.iand, 1) := dk_126 (dk_at dksX1_less_0 4 rfl rfl)
theorem dX1_less_5 : decode cX1_less 5 = .ok (.ireturn, 1) := dk_172 (dk_at dksX1_less_0 5 rfl rfl)
abbrev cX1_again : ByteArray := prog_7_method_14_code
def yX1_again : MethodName := ⟨RX1, "again", "()V"⟩
def dkwX1_again_1 : List UInt8 := [167, 255, 235, 177]
abbrev dktX1_again_1 : List UInt8 := dkwX1_again_1 ++ []
def dkwX1_again_0 : List UInt8 := [3, 60, 27, 16, 8, 162, 0, 21, 42, 180, 0, 13, 27, 42, 180, 0, 16, 27, 51, 84, 132, 1, 1]
abbrev dktX1_again_0 : List UInt8 := dkwX1_again_0 ++ dktX1_again_1
theorem dksX1_again_0 : cX1_again.data.toList.drop 0 = dktX1_again_0 := by decide +kernel
theorem dksX1_again_1 : cX1_again.data.toList.drop 23 = dktX1_again_1 := dk_seg dksX1_again_0 23 rfl rfl
theorem dX1_again_0 : decode cX1_again 0 = .ok (.iconst 0, 1) := dk_3 (dk_at dksX1_again_0 0 rfl rfl)
theorem dX1_again_1 : decode cX1_again 1 = .ok (.istore_n 1, 1) := dk_60 (dk_at dksX1_again_0 1 rfl rfl)
theorem dX1_again_2 : decode cX1_again 2 = .ok (.iload_n 1, 1) := dk_27 (dk_at dksX1_again_0 2 rfl rfl)
theorem dX1_again_3 : decode cX1_again 3 = .ok (.bipush 8, 2) := dk_16 8 (dk_at dksX1_again_0 3 rfl rfl)
theorem dX1_again_5 : decode cX1_again 5 = .ok (.if_icmp .ge 21, 3) := dk_162 0 21 (dk_at dksX1_again_0 5 rfl rfl)
theorem dX1_again_8 : decode cX1_again 8 = .ok (.aload_n 0, 1) := dk_42 (dk_at dksX1_again_0 8 rfl rfl)
theorem dX1_again_9 : decode cX1_again 9 = .ok (.getfield 13, 3) := dk_180 0 13 (dk_at dksX1_again_0 9 rfl rfl)
theorem dX1_again_12 : decode cX1_again 12 = .ok (.iload_n 1, 1) := dk_27 (dk_at dksX1_again_0 12 rfl rfl)
theorem dX1_again_13 : decode cX1_again 13 = .ok (.aload_n 0, 1) := dk_42 (dk_at dksX1_again_0 13 rfl rfl)
theorem dX1_again_14 : decode cX1_again 14 = .ok (.getfield 16, 3) := dk_180 0 16 (dk_at dksX1_again_0 14 rfl rfl)
theorem dX1_again_17 : decode cX1_again 17 = .ok (.iload_n 1, 1) := dk_27 (dk_at dksX1_again_0 17 rfl rfl)
theorem dX1_again_18 : decode cX1_again 18 = .ok (.baload, 1) := dk_51 (dk_at dksX1_again_0 18 rfl rfl)
theorem dX1_again_19 : decode cX1_again 19 = .ok (.bastore, 1) := dk_84 (dk_at dksX1_again_0 19 rfl rfl)
theorem dX1_again_20 : decode cX1_again 20 = .ok (.iinc 1 1, 3) := dk_132 1 1 (dk_at dksX1_again_0 20 rfl rfl)
theorem dX1_again_23 : decode cX1_again 23 = .ok (.goto (-21), 3) := dk_167 255 235 (dk_at dksX1_again_1 0 rfl rfl)
theorem dX1_again_26 : decode cX1_again 26 = .ok (.return_, 1) := dk_177 (dk_at dksX1_again_1 3 rfl rfl)
abbrev cX1_out : ByteArray := prog_7_method_15_code
def yX1_out : MethodName := ⟨RX1, "out", "(I)I"⟩
def dkwX1_out_0 : List UInt8 := [42, 180, 0, 16, 27, 16, 7, 126, 51, 17, 0, 255, 126, 172]
abbrev dktX1_out_0 : List UInt8 := dkwX1_out_0 ++ []
theorem dksX1_out_0 : cX1_out.data.toList.drop 0 = dktX1_out_0 := by decide +kernel
theorem dX1_out_0 : decode cX1_out 0 = .ok (.aload_n 0, 1) := dk_42 (dk_at dksX1_out_0 0 rfl rfl)
theorem dX1_out_1 : decode cX1_out 1 = .ok (.getfield 16, 3) := dk_180 0 16 (dk_at dksX1_out_0 1 rfl rfl)
theorem dX1_out_4 : decode cX1_out 4 = .ok (.iload_n 1, 1) := dk_27 (dk_at dksX1_out_0 4 rfl rfl)
theorem dX1_out_5 : decode cX1_out 5 = .ok (.bipush 7, 2) := dk_16 7 (dk_at dksX1_out_0 5 rfl rfl)
theorem dX1_out_7 : decode cX1_out 7 = .ok (.iand, 1) := dk_126 (dk_at dksX1_out_0 7 rfl rfl)
theorem dX1_out_8 : decode cX1_out 8 = .ok (.baload, 1) := dk_51 (dk_at dksX1_out_0 8 rfl rfl)
theorem dX1_out_9 : decode cX1_out 9 = .ok (.sipush 255, 3) := dk_17 0 255 (dk_at dksX1_out_0 9 rfl rfl)
theorem dX1_out_12 : decode cX1_out 12 = .ok (.iand, 1) := dk_126 (dk_at dksX1_out_0 12 rfl rfl)
theorem dX1_out_13 : decode cX1_out 13 = .ok (.ireturn, 1) := dk_172 (dk_at dksX1_out_0 13 rfl rfl)
theorem q14 : (Jvm.Cond.initialized "IdeaDeskModel") ∈ lw_all := lw_g (lw_at lw_m1 2 rfl) rfl
theorem q298 : (Jvm.Cond.instantiable "IdeaDeskModel" (3 : Nat)) ∈ lw_all := lw_g (lw_at lw_m2 46 rfl) rfl
theorem q300 : (Jvm.Cond.instanceMethod ({ cls := "IdeaDeskModel", name := "<init>", desc := "()V" } : Jvm.MethodName)) ∈ lw_all := lw_g (lw_at lw_m2 48 rfl) rfl
theorem q301 : (Jvm.Cond.code ({ cls := "IdeaDeskModel", name := "<init>", desc := "()V" } : Jvm.MethodName) prog_7_method_1_code (1 : Nat) (Option.none : Option Jvm.ClassFile.FieldType)) ∈ lw_all := lw_g (lw_at lw_m2 49 rfl) rfl
theorem q302 : (Jvm.Cond.methodLink "IdeaDeskModel" (1 : Nat) ({ cls := "java/lang/Object", name := "<init>", desc := "()V" } : Jvm.MethodName)) ∈ lw_all := lw_g (lw_at lw_m2 50 rfl) rfl
theorem q303 : (Jvm.Cond.fieldLink "IdeaDeskModel" (7 : Nat) "IdeaDeskModel" "key" "[B") ∈ lw_all := lw_g (lw_at lw_m2 51 rfl) rfl
theorem q304 : (Jvm.Cond.fieldLink "IdeaDeskModel" (13 : Nat) "IdeaDeskModel" "block" "[B") ∈ lw_all := lw_g (lw_at lw_m2 52 rfl) rfl
theorem q305 : (Jvm.Cond.fieldLink "IdeaDeskModel" (16 : Nat) "IdeaDeskModel" "out" "[B") ∈ lw_all := lw_g (lw_at lw_m2 53 rfl) rfl
theorem q306 : (Jvm.Cond.laysFinal "IdeaDeskModel" "IdeaDeskModel" "key" "[B") ∈ lw_all := lw_g (lw_at lw_m2 54 rfl) rfl
theorem q307 : (Jvm.Cond.soleField "IdeaDeskModel" "key") ∈ lw_all := lw_g (lw_at lw_m2 55 rfl) rfl
theorem q308 : (Jvm.Cond.laysFinal "IdeaDeskModel" "IdeaDeskModel" "block" "[B") ∈ lw_all := lw_g (lw_at lw_m2 56 rfl) rfl
theorem q309 : (Jvm.Cond.soleField "IdeaDeskModel" "block") ∈ lw_all := lw_g (lw_at lw_m2 57 rfl) rfl
theorem q310 : (Jvm.Cond.laysFinal "IdeaDeskModel" "IdeaDeskModel" "out" "[B") ∈ lw_all := lw_g (lw_at lw_m2 58 rfl) rfl
theorem q311 : (Jvm.Cond.soleField "IdeaDeskModel" "out") ∈ lw_all := lw_g (lw_at lw_m2 59 rfl) rfl
theorem q312 : (Jvm.Cond.superclass "IdeaDeskModel" "java/lang/Object") ∈ lw_all := lw_g (lw_at lw_m2 60 rfl) rfl
theorem q314 : (Jvm.Cond.instanceMethod ({ cls := "IdeaDeskModel", name := "key", desc := "(IIIII)V" } : Jvm.MethodName)) ∈ lw_all := lw_g (lw_at lw_m2 62 rfl) rfl
theorem q315 : (Jvm.Cond.selects "IdeaDeskModel" ({ cls := "IdeaDeskModel", name := "key", desc := "(IIIII)V" } : Jvm.MethodName) ({ cls := "IdeaDeskModel", name := "key", desc := "(IIIII)V" } : Jvm.MethodName)) ∈ lw_all := lw_g (lw_at lw_m2 63 rfl) rfl
theorem q316 : (Jvm.Cond.code ({ cls := "IdeaDeskModel", name := "key", desc := "(IIIII)V" } : Jvm.MethodName) prog_7_method_3_code (7 : Nat) (Option.none : Option Jvm.ClassFile.FieldType)) ∈ lw_all := lw_g (lw_at lw_m2 64 rfl) rfl
theorem q317 : (Jvm.Cond.methodLink "IdeaDeskModel" (19 : Nat) ({ cls := "IdeaDeskModel", name := "put", desc := "([BII)V" } : Jvm.MethodName)) ∈ lw_all := lw_g (lw_at lw_m2 65 rfl) rfl
theorem q318 : (Jvm.Cond.static ({ cls := "IdeaDeskModel", name := "put", desc := "([BII)V" } : Jvm.MethodName)) ∈ lw_all := lw_g (lw_at lw_m2 66 rfl) rfl
theorem q319 : (Jvm.Cond.code ({ cls := "IdeaDeskModel", name := "put", desc := "([BII)V" } : Jvm.MethodName) prog_7_method_2_code (4 : Nat) (Option.none : Option Jvm.ClassFile.FieldType)) ∈ lw_all := lw_g (lw_at lw_m2 67 rfl) rfl
theorem q321 : (Jvm.Cond.instanceMethod ({ cls := "IdeaDeskModel", name := "block", desc := "(II)V" } : Jvm.MethodName)) ∈ lw_all := lw_g (lw_at lw_m2 69 rfl) rfl
theorem q322 : (Jvm.Cond.selects "IdeaDeskModel" ({ cls := "IdeaDeskModel", name := "block", desc := "(II)V" } : Jvm.MethodName) ({ cls := "IdeaDeskModel", name := "block", desc := "(II)V" } : Jvm.MethodName)) ∈ lw_all := lw_g (lw_at lw_m2 70 rfl) rfl
theorem q323 : (Jvm.Cond.code ({ cls := "IdeaDeskModel", name := "block", desc := "(II)V" } : Jvm.MethodName) prog_7_method_4_code (3 : Nat) (Option.none : Option Jvm.ClassFile.FieldType)) ∈ lw_all := lw_g (lw_at lw_m2 71 rfl) rfl
theorem q325 : (Jvm.Cond.instanceMethod ({ cls := "IdeaDeskModel", name := "lock", desc := "(I)V" } : Jvm.MethodName)) ∈ lw_all := lw_g (lw_at lw_m2 73 rfl) rfl
theorem q326 : (Jvm.Cond.selects "IdeaDeskModel" ({ cls := "IdeaDeskModel", name := "lock", desc := "(I)V" } : Jvm.MethodName) ({ cls := "IdeaDeskModel", name := "lock", desc := "(I)V" } : Jvm.MethodName)) ∈ lw_all := lw_g (lw_at lw_m2 74 rfl) rfl
theorem q327 : (Jvm.Cond.code ({ cls := "IdeaDeskModel", name := "lock", desc := "(I)V" } : Jvm.MethodName) prog_7_method_12_code (2 : Nat) (Option.none : Option Jvm.ClassFile.FieldType)) ∈ lw_all := lw_g (lw_at lw_m2 75 rfl) rfl
theorem q328 : (Jvm.Cond.methodLink "IdeaDeskModel" (43 : Nat) ({ cls := "IdeaDeskModel", name := "keys", desc := "()[I" } : Jvm.MethodName)) ∈ lw_all := lw_g (lw_at lw_m2 76 rfl) rfl
theorem q329 : (Jvm.Cond.privateMethod ({ cls := "IdeaDeskModel", name := "keys", desc := "()[I" } : Jvm.MethodName)) ∈ lw_tbl := lw_at lw_m2 77 rfl
theorem q330 : (Jvm.Cond.instanceMethod ({ cls := "IdeaDeskModel", name := "keys", desc := "()[I" } : Jvm.MethodName)) ∈ lw_all := lw_g (lw_at lw_m2 78 rfl) rfl
theorem q331 : (Jvm.Cond.code ({ cls := "IdeaDeskModel", name := "keys", desc := "()[I" } : Jvm.MethodName) prog_7_method_9_code (6 : Nat) (Option.some (Jvm.ClassFile.FieldType.array Jvm.ClassFile.FieldType.int))) ∈ lw_all := lw_g (lw_at lw_m2 79 rfl) rfl
theorem q332 : (Jvm.Cond.methodLink "IdeaDeskModel" (47 : Nat) ({ cls := "IdeaDeskModel", name := "runs", desc := "([I)V" } : Jvm.MethodName)) ∈ lw_all := lw_g (lw_at lw_m2 80 rfl) rfl
theorem q333 : (Jvm.Cond.privateMethod ({ cls := "IdeaDeskModel", name := "runs", desc := "([I)V" } : Jvm.MethodName)) ∈ lw_tbl := lw_at lw_m2 81 rfl
theorem q334 : (Jvm.Cond.instanceMethod ({ cls := "IdeaDeskModel", name := "runs", desc := "([I)V" } : Jvm.MethodName)) ∈ lw_all := lw_g (lw_at lw_m2 82 rfl) rfl
theorem q335 : (Jvm.Cond.code ({ cls := "IdeaDeskModel", name := "runs", desc := "([I)V" } : Jvm.MethodName) prog_7_method_11_code (10 : Nat) (Option.none : Option Jvm.ClassFile.FieldType)) ∈ lw_all := lw_g (lw_at lw_m2 83 rfl) rfl
theorem q336 : (Jvm.Cond.methodLink "IdeaDeskModel" (39 : Nat) ({ cls := "IdeaDeskModel", name := "half", desc := "([BI)I" } : Jvm.MethodName)) ∈ lw_all := lw_g (lw_at lw_m2 84 rfl) rfl
theorem q337 : (Jvm.Cond.static ({ cls := "IdeaDeskModel", name := "half", desc := "([BI)I" } : Jvm.MethodName)) ∈ lw_all := lw_g (lw_at lw_m2 85 rfl) rfl
theorem q338 : (Jvm.Cond.code ({ cls := "IdeaDeskModel", name := "half", desc := "([BI)I" } : Jvm.MethodName) prog_7_method_5_code (2 : Nat) (Option.some Jvm.ClassFile.FieldType.int)) ∈ lw_all := lw_g (lw_at lw_m2 86 rfl) rfl
theorem q339 : (Jvm.Cond.methodLink "IdeaDeskModel" (28 : Nat) ({ cls := "IdeaDeskModel", name := "times", desc := "(II)I" } : Jvm.MethodName)) ∈ lw_all := lw_g (lw_at lw_m2 87 rfl) rfl
theorem q340 : (Jvm.Cond.static ({ cls := "IdeaDeskModel", name := "times", desc := "(II)I" } : Jvm.MethodName)) ∈ lw_all := lw_g (lw_at lw_m2 88 rfl) rfl
theorem q341 : (Jvm.Cond.code ({ cls := "IdeaDeskModel", name := "times", desc := "(II)I" } : Jvm.MethodName) prog_7_method_6_code (6 : Nat) (Option.some Jvm.ClassFile.FieldType.int)) ∈ lw_all := lw_g (lw_at lw_m2 89 rfl) rfl
theorem q342 : (Jvm.Cond.constantLong "IdeaDeskModel" (23 : Nat) (65536 : Int64)) ∈ lw_all := lw_g (lw_at lw_m2 90 rfl) rfl
theorem q343 : (Jvm.Cond.constantLong "IdeaDeskModel" (25 : Nat) (65537 : Int64)) ∈ lw_all := lw_g (lw_at lw_m2 91 rfl) rfl
theorem q344 : (Jvm.Cond.constant "IdeaDeskModel" (27 : Nat) (65535 : Int32)) ∈ lw_all := lw_g (lw_at lw_m2 92 rfl) rfl
theorem q347 : (Jvm.Cond.instanceMethod ({ cls := "IdeaDeskModel", name := "open", desc := "(I)V" } : Jvm.MethodName)) ∈ lw_all := lw_g (lw_at lw_m2 95 rfl) rfl
theorem q348 : (Jvm.Cond.selects "IdeaDeskModel" ({ cls := "IdeaDeskModel", name := "open", desc := "(I)V" } : Jvm.MethodName) ({ cls := "IdeaDeskModel", name := "open", desc := "(I)V" } : Jvm.MethodName)) ∈ lw_all := lw_g (lw_at lw_m2 96 rfl) rfl
theorem q349 : (Jvm.Cond.code ({ cls := "IdeaDeskModel", name := "open", desc := "(I)V" } : Jvm.MethodName) prog_7_method_13_code (2 : Nat) (Option.none : Option Jvm.ClassFile.FieldType)) ∈ lw_all := lw_g (lw_at lw_m2 97 rfl) rfl
theorem q350 : (Jvm.Cond.methodLink "IdeaDeskModel" (51 : Nat) ({ cls := "IdeaDeskModel", name := "undoing", desc := "([I)[I" } : Jvm.MethodName)) ∈ lw_all := lw_g (lw_at lw_m2 98 rfl) rfl
theorem q351 : (Jvm.Cond.static ({ cls := "IdeaDeskModel", name := "undoing", desc := "([I)[I" } : Jvm.MethodName)) ∈ lw_all := lw_g (lw_at lw_m2 99 rfl) rfl
theorem q352 : (Jvm.Cond.code ({ cls := "IdeaDeskModel", name := "undoing", desc := "([I)[I" } : Jvm.MethodName) prog_7_method_10_code (5 : Nat) (Option.some (Jvm.ClassFile.FieldType.array Jvm.ClassFile.FieldType.int))) ∈ lw_all := lw_g (lw_at lw_m2 100 rfl) rfl
theorem q353 : (Jvm.Cond.methodLink "IdeaDeskModel" (32 : Nat) ({ cls := "IdeaDeskModel", name := "inverse", desc := "(I)I" } : Jvm.MethodName)) ∈ lw_all := lw_g (lw_at lw_m2 101 rfl) rfl
theorem q354 : (Jvm.Cond.static ({ cls := "IdeaDeskModel", name := "inverse", desc := "(I)I" } : Jvm.MethodName)) ∈ lw_all := lw_g (lw_at lw_m2 102 rfl) rfl
theorem q355 : (Jvm.Cond.code ({ cls := "IdeaDeskModel", name := "inverse", desc := "(I)I" } : Jvm.MethodName) prog_7_method_7_code (3 : Nat) (Option.some Jvm.ClassFile.FieldType.int)) ∈ lw_all := lw_g (lw_at lw_m2 103 rfl) rfl
theorem q356 : (Jvm.Cond.methodLink "IdeaDeskModel" (36 : Nat) ({ cls := "IdeaDeskModel", name := "less", desc := "(I)I" } : Jvm.MethodName)) ∈ lw_all := lw_g (lw_at lw_m2 104 rfl) rfl
theorem q357 : (Jvm.Cond.static ({ cls := "IdeaDeskModel", name := "less", desc := "(I)I" } : Jvm.MethodName)) ∈ lw_all := lw_g (lw_at lw_m2 105 rfl) rfl
theorem q358 : (Jvm.Cond.code ({ cls := "IdeaDeskModel", name := "less", desc := "(I)I" } : Jvm.MethodName) prog_7_method_8_code (1 : Nat) (Option.some Jvm.ClassFile.FieldType.int)) ∈ lw_all := lw_g (lw_at lw_m2 106 rfl) rfl
theorem q360 : (Jvm.Cond.instanceMethod ({ cls := "IdeaDeskModel", name := "again", desc := "()V" } : Jvm.MethodName)) ∈ lw_all := lw_g (lw_at lw_m2 108 rfl) rfl
theorem q361 : (Jvm.Cond.selects "IdeaDeskModel" ({ cls := "IdeaDeskModel", name := "again", desc := "()V" } : Jvm.MethodName) ({ cls := "IdeaDeskModel", name := "again", desc := "()V" } : Jvm.MethodName)) ∈ lw_all := lw_g (lw_at lw_m2 109 rfl) rfl
theorem q362 : (Jvm.Cond.code ({ cls := "IdeaDeskModel", name := "again", desc := "()V" } : Jvm.MethodName) prog_7_method_14_code (2 : Nat) (Option.none : Option Jvm.ClassFile.FieldType)) ∈ lw_all := lw_g (lw_at lw_m2 110 rfl) rfl
theorem q364 : (Jvm.Cond.instanceMethod ({ cls := "IdeaDeskModel", name := "out", desc := "(I)I" } : Jvm.MethodName)) ∈ lw_all := lw_g (lw_at lw_m2 112 rfl) rfl
theorem q365 : (Jvm.Cond.selects "IdeaDeskModel" ({ cls := "IdeaDeskModel", name := "out", desc := "(I)I" } : Jvm.MethodName) ({ cls := "IdeaDeskModel", name := "out", desc := "(I)I" } : Jvm.MethodName)) ∈ lw_all := lw_g (lw_at lw_m2 113 rfl) rfl
theorem q366 : (Jvm.Cond.code ({ cls := "IdeaDeskModel", name := "out", desc := "(I)I" } : Jvm.MethodName) prog_7_method_15_code (2 : Nat) (Option.some Jvm.ClassFile.FieldType.int)) ∈ lw_all := lw_g (lw_at lw_m2 114 rfl) rfl
theorem in_X1 : ∀ w ∈ wsX10, w ∈ lw_all := lw_in wsX10 [306, 308, 310] (by decide +kernel) (by decide +kernel)
end
section
/-! IDEAEngine -/
set_option maxRecDepth 100000
def RX2 : String := "IDEAEngine"
def TX2 : u_T := fun k => match k with
  | 0 => ("IDEAEngine", "workingKey", "[I", false)
  | _ => ("IDEAEngine", "forEncryption", "Z", false)
def tyX2 : Nat → FieldType := fun k => match k with
  | 0 => .array .int
  | _ => .boolean
abbrev wsX20 : List Cond := u_ws RX2 TX2 2
theorem nmX2 : ∀ a, a < 2 → ∀ b, b < 2 → a ≠ b → (TX2 a).2.1 ≠ (TX2 b).2.1 := by decide +kernel
theorem tyX2_ok : ∀ k, k < 2 → parseFieldDescriptor (TX2 k).2.2.1 = some (tyX2 k) := by decide +kernel
abbrev cX2_init : ByteArray := prog_4_method_1_code
def yX2_init : MethodName := ⟨RX2, "<init>", "()V"⟩
def dkwX2_init_0 : List UInt8 := [42, 183, 0, 1, 42, 1, 181, 0, 7, 177]
abbrev dktX2_init_0 : List UInt8 := dkwX2_init_0 ++ []
theorem dksX2_init_0 : cX2_init.data.toList.drop 0 = dktX2_init_0 := by decide +kernel
theorem dX2_init_0 : decode cX2_init 0 = .ok (.aload_n 0, 1) := dk_42 (dk_at dksX2_init_0 0 rfl rfl)
theorem dX2_init_1 : decode cX2_init 1 = .ok (.invokespecial 1, 3) := dk_183 0 1 (dk_at dksX2_init_0 1 rfl rfl)
theorem dX2_init_4 : decode cX2_init 4 = .ok (.aload_n 0, 1) := dk_42 (dk_at dksX2_init_0 4 rfl rfl)
theorem dX2_init_5 : decode cX2_init 5 = .ok (.aconst_null, 1) := dk_1 (dk_at dksX2_init_0 5 rfl rfl)
theorem dX2_init_6 : decode cX2_init 6 = .ok (.putfield 7, 3) := dk_181 0 7 (dk_at dksX2_init_0 6 rfl rfl)
theorem dX2_init_9 : decode cX2_init 9 = .ok (.return_, 1) := dk_177 (dk_at dksX2_init_0 9 rfl rfl)
abbrev cX2_init_2 : ByteArray := prog_4_method_2_code
def yX2_init_2 : MethodName := ⟨RX2, "init", "(ZLCipherParameters;)V"⟩
def dkwX2_init_2_1 : List UInt8 := [181, 0, 7, 42, 27, 181, 0, 23, 177, 187, 0, 27, 89, 18, 29, 183, 0, 31, 191]
abbrev dktX2_init_2_1 : List UInt8 := dkwX2_init_2_1 ++ []
def dkwX2_init_2_0 : List UInt8 := [44, 193, 0, 13, 153, 0, 27, 44, 192, 0, 13, 182, 0, 15, 78, 42, 42, 27, 45, 182, 0, 19]
abbrev dktX2_init_2_0 : List UInt8 := dkwX2_init_2_0 ++ dktX2_init_2_1
theorem dksX2_init_2_0 : cX2_init_2.data.toList.drop 0 = dktX2_init_2_0 := by decide +kernel
theorem dksX2_init_2_1 : cX2_init_2.data.toList.drop 22 = dktX2_init_2_1 := dk_seg dksX2_init_2_0 22 rfl rfl
theorem dX2_init_2_0 : decode cX2_init_2 0 = .ok (.aload_n 2, 1) := dk_44 (dk_at dksX2_init_2_0 0 rfl rfl)
theorem dX2_init_2_1 : decode cX2_init_2 1 = .ok (.instanceof 13, 3) := dk_193 0 13 (dk_at dksX2_init_2_0 1 rfl rfl)
theorem dX2_init_2_4 : decode cX2_init_2 4 = .ok (.ifCond .eq 27, 3) := dk_153 0 27 (dk_at dksX2_init_2_0 4 rfl rfl)
theorem dX2_init_2_7 : decode cX2_init_2 7 = .ok (.aload_n 2, 1) := dk_44 (dk_at dksX2_init_2_0 7 rfl rfl)
theorem dX2_init_2_8 : decode cX2_init_2 8 = .ok (.checkcast 13, 3) := dk_192 0 13 (dk_at dksX2_init_2_0 8 rfl rfl)
theorem dX2_init_2_11 : decode cX2_init_2 11 = .ok (.invokevirtual 15, 3) := dk_182 0 15 (dk_at dksX2_init_2_0 11 rfl rfl)
theorem dX2_init_2_14 : decode cX2_init_2 14 = .ok (.astore_n 3, 1) := dk_78 (dk_at dksX2_init_2_0 14 rfl rfl)
theorem dX2_init_2_15 : decode cX2_init_2 15 = .ok (.aload_n 0, 1) := dk_42 (dk_at dksX2_init_2_0 15 rfl rfl)
theorem dX2_init_2_16 : decode cX2_init_2 16 = .ok (.aload_n 0, 1) := dk_42 (dk_at dksX2_init_2_0 16 rfl rfl)
theorem dX2_init_2_17 : decode cX2_init_2 17 = .ok (.iload_n 1, 1) := dk_27 (dk_at dksX2_init_2_0 17 rfl rfl)
theorem dX2_init_2_18 : decode cX2_init_2 18 = .ok (.aload_n 3, 1) := dk_45 (dk_at dksX2_init_2_0 18 rfl rfl)
theorem dX2_init_2_19 : decode cX2_init_2 19 = .ok (.invokevirtual 19, 3) := dk_182 0 19 (dk_at dksX2_init_2_0 19 rfl rfl)
theorem dX2_init_2_22 : decode cX2_init_2 22 = .ok (.putfield 7, 3) := dk_181 0 7 (dk_at dksX2_init_2_1 0 rfl rfl)
theorem dX2_init_2_25 : decode cX2_init_2 25 = .ok (.aload_n 0, 1) := dk_42 (dk_at dksX2_init_2_1 3 rfl rfl)
theorem dX2_init_2_26 : decode cX2_init_2 26 = .ok (.iload_n 1, 1) := dk_27 (dk_at dksX2_init_2_1 4 rfl rfl)
theorem dX2_init_2_27 : decode cX2_init_2 27 = .ok (.putfield 23, 3) := dk_181 0 23 (dk_at dksX2_init_2_1 5 rfl rfl)
theorem dX2_init_2_30 : decode cX2_init_2 30 = .ok (.return_, 1) := dk_177 (dk_at dksX2_init_2_1 8 rfl rfl)
theorem dX2_init_2_31 : decode cX2_init_2 31 = .ok (.new 27, 3) := dk_187 0 27 (dk_at dksX2_init_2_1 9 rfl rfl)
theorem dX2_init_2_34 : decode cX2_init_2 34 = .ok (.dup, 1) := dk_89 (dk_at dksX2_init_2_1 12 rfl rfl)
theorem dX2_init_2_35 : decode cX2_init_2 35 = .ok (.ldc 29, 2) := dk_18 29 (dk_at dksX2_init_2_1 13 rfl rfl)
theorem dX2_init_2_37 : decode cX2_init_2 37 = .ok (.invokespecial 31, 3) := dk_183 0 31 (dk_at dksX2_init_2_1 15 rfl rfl)
theorem dX2_init_2_40 : decode cX2_init_2 40 = .ok (.athrow, 1) := dk_191 (dk_at dksX2_init_2_1 18 rfl rfl)
abbrev cX2_generateWorkingKey : ByteArray := prog_4_method_12_code
def yX2_generateWorkingKey : MethodName := ⟨RX2, "generateWorkingKey", "(Z[B)[I"⟩
def dkwX2_generateWorkingKey_0 : List UInt8 := [27, 153, 0, 9, 42, 44, 182, 0, 81, 176, 42, 42, 44, 182, 0, 81, 182, 0, 85, 176]
abbrev dktX2_generateWorkingKey_0 : List UInt8 := dkwX2_generateWorkingKey_0 ++ []
theorem dksX2_generateWorkingKey_0 : cX2_generateWorkingKey.data.toList.drop 0 = dktX2_generateWorkingKey_0 := by decide +kernel
theorem dX2_generateWorkingKey_0 : decode cX2_generateWorkingKey 0 = .ok (.iload_n 1, 1) := dk_27 (dk_at dksX2_generateWorkingKey_0 0 rfl rfl)
theorem dX2_generateWorkingKey_1 : decode cX2_generateWorkingKey 1 = .ok (.ifCond .eq 9, 3) := dk_153 0 9 (dk_at dksX2_generateWorkingKey_0 1 rfl rfl)
theorem dX2_generateWorkingKey_4 : decode cX2_generateWorkingKey 4 = .ok (.aload_n 0, 1) := dk_42 (dk_at dksX2_generateWorkingKey_0 4 rfl rfl)
theorem dX2_generateWorkingKey_5 : decode cX2_generateWorkingKey 5 = .ok (.aload_n 2, 1) := dk_44 (dk_at dksX2_generateWorkingKey_0 5 rfl rfl)
theorem dX2_generateWorkingKey_6 : decode cX2_generateWorkingKey 6 = .ok (.invokevirtual 81, 3) := dk_182 0 81 (dk_at dksX2_generateWorkingKey_0 6 rfl rfl)
theorem dX2_generateWorkingKey_9 : decode cX2_generateWorkingKey 9 = .ok (.areturn, 1) := dk_176 (dk_at dksX2_generateWorkingKey_0 9 rfl rfl)
theorem dX2_generateWorkingKey_10 : decode cX2_generateWorkingKey 10 = .ok (.aload_n 0, 1) := dk_42 (dk_at dksX2_generateWorkingKey_0 10 rfl rfl)
theorem dX2_generateWorkingKey_11 : decode cX2_generateWorkingKey 11 = .ok (.aload_n 0, 1) := dk_42 (dk_at dksX2_generateWorkingKey_0 11 rfl rfl)
theorem dX2_generateWorkingKey_12 : decode cX2_generateWorkingKey 12 = .ok (.aload_n 2, 1) := dk_44 (dk_at dksX2_generateWorkingKey_0 12 rfl rfl)
theorem dX2_generateWorkingKey_13 : decode cX2_generateWorkingKey 13 = .ok (.invokevirtual 81, 3) := dk_182 0 81 (dk_at dksX2_generateWorkingKey_0 13 rfl rfl)
theorem dX2_generateWorkingKey_16 : decode cX2_generateWorkingKey 16 = .ok (.invokevirtual 85, 3) := dk_182 0 85 (dk_at dksX2_generateWorkingKey_0 16 rfl rfl)
theorem dX2_generateWorkingKey_19 : decode cX2_generateWorkingKey 19 = .ok (.areturn, 1) := dk_176 (dk_at dksX2_generateWorkingKey_0 19 rfl rfl)
abbrev cX2_expandKey : ByteArray := prog_4_method_8_code
def yX2_expandKey : MethodName := ⟨RX2, "expandKey", "([B)[I"⟩
def dkwX2_expandKey_7 : List UInt8 := [16, 7, 122, 128, 18, 55, 126, 79, 132, 3, 1, 167, 255, 139, 44, 176]
abbrev dktX2_expandKey_7 : List UInt8 := dkwX2_expandKey_7 ++ []
def dkwX2_expandKey_6 : List UInt8 := [79, 167, 0, 31, 44, 29, 44, 29, 16, 15, 100, 46, 16, 127, 126, 16, 9, 120, 44, 29, 16, 14, 100, 46]
abbrev dktX2_expandKey_6 : List UInt8 := dkwX2_expandKey_6 ++ dktX2_expandKey_7
def dkwX2_expandKey_5 : List UInt8 := [29, 16, 7, 100, 46, 16, 127, 126, 16, 9, 120, 44, 29, 16, 14, 100, 46, 16, 7, 122, 128, 18, 55, 126]
abbrev dktX2_expandKey_5 : List UInt8 := dkwX2_expandKey_5 ++ dktX2_expandKey_6
def dkwX2_expandKey_4 : List UInt8 := [46, 16, 7, 122, 128, 18, 55, 126, 79, 167, 0, 71, 29, 16, 7, 126, 16, 6, 160, 0, 34, 44, 29, 44]
abbrev dktX2_expandKey_4 : List UInt8 := dkwX2_expandKey_4 ++ dktX2_expandKey_5
def dkwX2_expandKey_3 : List UInt8 := [16, 6, 162, 0, 34, 44, 29, 44, 29, 16, 7, 100, 46, 16, 127, 126, 16, 9, 120, 44, 29, 16, 6, 100]
abbrev dktX2_expandKey_3 : List UInt8 := dkwX2_expandKey_3 ++ dktX2_expandKey_4
def dkwX2_expandKey_2 : List UInt8 := [182, 0, 56, 79, 132, 3, 1, 167, 255, 236, 16, 8, 62, 29, 16, 52, 162, 0, 117, 29, 16, 7, 126]
abbrev dktX2_expandKey_2 : List UInt8 := dkwX2_expandKey_2 ++ dktX2_expandKey_3
def dkwX2_expandKey_1 : List UInt8 := [100, 43, 190, 184, 0, 68, 45, 76, 3, 62, 29, 16, 8, 162, 0, 20, 44, 29, 42, 43, 29, 5, 104]
abbrev dktX2_expandKey_1 : List UInt8 := dkwX2_expandKey_1 ++ dktX2_expandKey_2
def dkwX2_expandKey_0 : List UInt8 := [16, 52, 188, 10, 77, 43, 190, 16, 16, 162, 0, 23, 16, 16, 188, 8, 78, 43, 3, 45, 45, 190, 43, 190]
abbrev dktX2_expandKey_0 : List UInt8 := dkwX2_expandKey_0 ++ dktX2_expandKey_1
theorem dksX2_expandKey_0 : cX2_expandKey.data.toList.drop 0 = dktX2_expandKey_0 := by decide +kernel
theorem dksX2_expandKey_1 : cX2_expandKey.data.toList.drop 24 = dktX2_expandKey_1 := dk_seg dksX2_expandKey_0 24 rfl rfl
theorem dksX2_expandKey_2 : cX2_expandKey.data.toList.drop 47 = dktX2_expandKey_2 := dk_seg dksX2_expandKey_1 23 rfl rfl
theorem dksX2_expandKey_3 : cX2_expandKey.data.toList.drop 70 = dktX2_expandKey_3 := dk_seg dksX2_expandKey_2 23 rfl rfl
theorem dksX2_expandKey_4 : cX2_expandKey.data.toList.drop 94 = dktX2_expandKey_4 := dk_seg dksX2_expandKey_3 24 rfl rfl
theorem dksX2_expandKey_5 : cX2_expandKey.data.toList.drop 118 = dktX2_expandKey_5 := dk_seg dksX2_expandKey_4 24 rfl rfl
theorem dksX2_expandKey_6 : cX2_expandKey.data.toList.drop 142 = dktX2_expandKey_6 := dk_seg dksX2_expandKey_5 24 rfl rfl
theorem dksX2_expandKey_7 : cX2_expandKey.data.toList.drop 166 = dktX2_expandKey_7 := dk_seg dksX2_expandKey_6 24 rfl rfl
theorem dX2_expandKey_0 : decode cX2_expandKey 0 = .ok (.bipush 52, 2) := dk_16 52 (dk_at dksX2_expandKey_0 0 rfl rfl)
theorem dX2_expandKey_2 : decode cX2_expandKey 2 = .ok (.newarray .int, 2) := dk_188_10 (dk_at dksX2_expandKey_0 2 rfl rfl)
theorem dX2_expandKey_4 : decode cX2_expandKey 4 = .ok (.astore_n 2, 1) := dk_77 (dk_at dksX2_expandKey_0 4 rfl rfl)
theorem dX2_expandKey_5 : decode cX2_expandKey 5 = .ok (.aload_n 1, 1) := dk_43 (dk_at dksX2_expandKey_0 5 rfl rfl)
theorem dX2_expandKey_6 : decode cX2_expandKey 6 = .ok (.arraylength, 1) := dk_190 (dk_at dksX2_expandKey_0 6 rfl rfl)
theorem dX2_expandKey_7 : decode cX2_expandKey 7 = .ok (.bipush 16, 2) := dk_16 16 (dk_at dksX2_expandKey_0 7 rfl rfl)
theorem dX2_expandKey_9 : decode cX2_expandKey 9 = .ok (.if_icmp .ge 23, 3) := dk_162 0 23 (dk_at dksX2_expandKey_0 9 rfl rfl)
theorem dX2_expandKey_12 : decode cX2_expandKey 12 = .ok (.bipush 16, 2) := dk_16 16 (dk_at dksX2_expandKey_0 12 rfl rfl)
theorem dX2_expandKey_14 : decode cX2_expandKey 14 = .ok (.newarray .byte, 2) := dk_188_8 (dk_at dksX2_expandKey_0 14 rfl rfl)
theorem dX2_expandKey_16 : decode cX2_expandKey 16 = .ok (.astore_n 3, 1) := dk_78 (dk_at dksX2_expandKey_0 16 rfl rfl)
theorem dX2_expandKey_17 : decode cX2_expandKey 17 = .ok (.aload_n 1, 1) := dk_43 (dk_at dksX2_expandKey_0 17 rfl rfl)
theorem dX2_expandKey_18 : decode cX2_expandKey 18 = .ok (.iconst 0, 1) := dk_3 (dk_at dksX2_expandKey_0 18 rfl rfl)
theorem dX2_expandKey_19 : decode cX2_expandKey 19 = .ok (.aload_n 3, 1) := dk_45 (dk_at dksX2_expandKey_0 19 rfl rfl)
theorem dX2_expandKey_20 : decode cX2_expandKey 20 = .ok (.aload_n 3, 1) := dk_45 (dk_at dksX2_expandKey_0 20 rfl rfl)
theorem dX2_expandKey_21 : decode cX2_expandKey 21 = .ok (.arraylength, 1) := dk_190 (dk_at dksX2_expandKey_0 21 rfl rfl)
theorem dX2_expandKey_22 : decode cX2_expandKey 22 = .ok (.aload_n 1, 1) := dk_43 (dk_at dksX2_expandKey_0 22 rfl rfl)
theorem dX2_expandKey_23 : decode cX2_expandKey 23 = .ok (.arraylength, 1) := dk_190 (dk_at dksX2_expandKey_0 23 rfl rfl)
theorem dX2_expandKey_24 : decode cX2_expandKey 24 = .ok (.isub, 1) := dk_100 (dk_at dksX2_expandKey_1 0 rfl rfl)
theorem dX2_expandKey_25 : decode cX2_expandKey 25 = .ok (.aload_n 1, 1) := dk_43 (dk_at dksX2_expandKey_1 1 rfl rfl)
theorem dX2_expandKey_26 : decode cX2_expandKey 26 = .ok (.arraylength, 1) := dk_190 (dk_at dksX2_expandKey_1 2 rfl rfl)
theorem dX2_expandKey_27 : decode cX2_expandKey 27 = .ok (.invokestatic 68, 3) := dk_184 0 68 (dk_at dksX2_expandKey_1 3 rfl rfl)
theorem dX2_expandKey_30 : decode cX2_expandKey 30 = .ok (.aload_n 3, 1) := dk_45 (dk_at dksX2_expandKey_1 6 rfl rfl)
theorem dX2_expandKey_31 : decode cX2_expandKey 31 = .ok (.astore_n 1, 1) := dk_76 (dk_at dksX2_expandKey_1 7 rfl rfl)
theorem dX2_expandKey_32 : decode cX2_expandKey 32 = .ok (.iconst 0, 1) := dk_3 (dk_at dksX2_expandKey_1 8 rfl rfl)
theorem dX2_expandKey_33 : decode cX2_expandKey 33 = .ok (.istore_n 3, 1) := dk_62 (dk_at dksX2_expandKey_1 9 rfl rfl)
theorem dX2_expandKey_34 : decode cX2_expandKey 34 = .ok (.iload_n 3, 1) := dk_29 (dk_at dksX2_expandKey_1 10 rfl rfl)
theorem dX2_expandKey_35 : decode cX2_expandKey 35 = .ok (.bipush 8, 2) := dk_16 8 (dk_at dksX2_expandKey_1 11 rfl rfl)
theorem dX2_expandKey_37 : decode cX2_expandKey 37 = .ok (.if_icmp .ge 20, 3) := dk_162 0 20 (dk_at dksX2_expandKey_1 13 rfl rfl)
theorem dX2_expandKey_40 : decode cX2_expandKey 40 = .ok (.aload_n 2, 1) := dk_44 (dk_at dksX2_expandKey_1 16 rfl rfl)
theorem dX2_expandKey_41 : decode cX2_expandKey 41 = .ok (.iload_n 3, 1) := dk_29 (dk_at dksX2_expandKey_1 17 rfl rfl)
theorem dX2_expandKey_42 : decode cX2_expandKey 42 = .ok (.aload_n 0, 1) := dk_42 (dk_at dksX2_expandKey_1 18 rfl rfl)
theorem dX2_expandKey_43 : decode cX2_expandKey 43 = .ok (.aload_n 1, 1) := dk_43 (dk_at dksX2_expandKey_1 19 rfl rfl)
theorem dX2_expandKey_44 : decode cX2_expandKey 44 = .ok (.iload_n 3, 1) := dk_29 (dk_at dksX2_expandKey_1 20 rfl rfl)
theorem dX2_expandKey_45 : decode cX2_expandKey 45 = .ok (.iconst 2, 1) := dk_5 (dk_at dksX2_expandKey_1 21 rfl rfl)
theorem dX2_expandKey_46 : decode cX2_expandKey 46 = .ok (.imul, 1) := dk_104 (dk_at dksX2_expandKey_1 22 rfl rfl)
theorem dX2_expandKey_47 : decode cX2_expandKey 47 = .ok (.invokevirtual 56, 3) := dk_182 0 56 (dk_at dksX2_expandKey_2 0 rfl rfl)
theorem dX2_expandKey_50 : decode cX2_expandKey 50 = .ok (.iastore, 1) := dk_79 (dk_at dksX2_expandKey_2 3 rfl rfl)
theorem dX2_expandKey_51 : decode cX2_expandKey 51 = .ok (.iinc 3 1, 3) := dk_132 3 1 (dk_at dksX2_expandKey_2 4 rfl rfl)
theorem dX2_expandKey_54 : decode cX2_expandKey 54 = .ok (.goto (-20), 3) := dk_167 255 236 (dk_at dksX2_expandKey_2 7 rfl rfl)
theorem dX2_expandKey_57 : decode cX2_expandKey 57 = .ok (.bipush 8, 2) := dk_16 8 (dk_at dksX2_expandKey_2 10 rfl rfl)
theorem dX2_expandKey_59 : decode cX2_expandKey 59 = .ok (.istore_n 3, 1) := dk_62 (dk_at dksX2_expandKey_2 12 rfl rfl)
theorem dX2_expandKey_60 : decode cX2_expandKey 60 = .ok (.iload_n 3, 1) := dk_29 (dk_at dksX2_expandKey_2 13 rfl rfl)
theorem dX2_expandKey_61 : decode cX2_expandKey 61 = .ok (.bipush 52, 2) := dk_16 52 (dk_at dksX2_expandKey_2 14 rfl rfl)
theorem dX2_expandKey_63 : decode cX2_expandKey 63 = .ok (.if_icmp .ge 117, 3) := dk_162 0 117 (dk_at dksX2_expandKey_2 16 rfl rfl)
theorem dX2_expandKey_66 : decode cX2_expandKey 66 = .ok (.iload_n 3, 1) := dk_29 (dk_at dksX2_expandKey_2 19 rfl rfl)
theorem dX2_expandKey_67 : decode cX2_expandKey 67 = .ok (.bipush 7, 2) := dk_16 7 (dk_at dksX2_expandKey_2 20 rfl rfl)
theorem dX2_expandKey_69 : decode cX2_expandKey 69 = .ok (.iand, 1) := dk_126 (dk_at dksX2_expandKey_2 22 rfl rfl)
theorem dX2_expandKey_70 : decode cX2_expandKey 70 = .ok (.bipush 6, 2) := dk_16 6 (dk_at dksX2_expandKey_3 0 rfl rfl)
theorem dX2_expandKey_72 : decode cX2_expandKey 72 = .ok (.if_icmp .ge 34, 3) := dk_162 0 34 (dk_at dksX2_expandKey_3 2 rfl rfl)
theorem dX2_expandKey_75 : decode cX2_expandKey 75 = .ok (.aload_n 2, 1) := dk_44 (dk_at dksX2_expandKey_3 5 rfl rfl)
theorem dX2_expandKey_76 : decode cX2_expandKey 76 = .ok (.iload_n 3, 1) := dk_29 (dk_at dksX2_expandKey_3 6 rfl rfl)
theorem dX2_expandKey_77 : decode cX2_expandKey 77 = .ok (.aload_n 2, 1) := dk_44 (dk_at dksX2_expandKey_3 7 rfl rfl)
theorem dX2_expandKey_78 : decode cX2_expandKey 78 = .ok (.iload_n 3, 1) := dk_29 (dk_at dksX2_expandKey_3 8 rfl rfl)
theorem dX2_expandKey_79 : decode cX2_expandKey 79 = .ok (.bipush 7, 2) := dk_16 7 (dk_at dksX2_expandKey_3 9 rfl rfl)
theorem dX2_expandKey_81 : decode cX2_expandKey 81 = .ok (.isub, 1) := dk_100 (dk_at dksX2_expandKey_3 11 rfl rfl)
theorem dX2_expandKey_82 : decode cX2_expandKey 82 = .ok (.iaload, 1) := dk_46 (dk_at dksX2_expandKey_3 12 rfl rfl)
theorem dX2_expandKey_83 : decode cX2_expandKey 83 = .ok (.bipush 127, 2) := dk_16 127 (dk_at dksX2_expandKey_3 13 rfl rfl)
theorem dX2_expandKey_85 : decode cX2_expandKey 85 = .ok (.iand, 1) := dk_126 (dk_at dksX2_expandKey_3 15 rfl rfl)
theorem dX2_expandKey_86 : decode cX2_expandKey 86 = .ok (.bipush 9, 2) := dk_16 9 (dk_at dksX2_expandKey_3 16 rfl rfl)
theorem dX2_expandKey_88 : decode cX2_expandKey 88 = .ok (.ishl, 1) := dk_120 (dk_at dksX2_expandKey_3 18 rfl rfl)
theorem dX2_expandKey_89 : decode cX2_expandKey 89 = .ok (.aload_n 2, 1) := dk_44 (dk_at dksX2_expandKey_3 19 rfl rfl)
theorem dX2_expandKey_90 : decode cX2_expandKey 90 = .ok (.iload_n 3, 1) := dk_29 (dk_at dksX2_expandKey_3 20 rfl rfl)
theorem dX2_expandKey_91 : decode cX2_expandKey 91 = .ok (.bipush 6, 2) := dk_16 6 (dk_at dksX2_expandKey_3 21 rfl rfl)
theorem dX2_expandKey_93 : decode cX2_expandKey 93 = .ok (.isub, 1) := dk_100 (dk_at dksX2_expandKey_3 23 rfl rfl)
theorem dX2_expandKey_94 : decode cX2_expandKey 94 = .ok (.iaload, 1) := dk_46 (dk_at dksX2_expandKey_4 0 rfl rfl)
theorem dX2_expandKey_95 : decode cX2_expandKey 95 = .ok (.bipush 7, 2) := dk_16 7 (dk_at dksX2_expandKey_4 1 rfl rfl)
theorem dX2_expandKey_97 : decode cX2_expandKey 97 = .ok (.ishr, 1) := dk_122 (dk_at dksX2_expandKey_4 3 rfl rfl)
theorem dX2_expandKey_98 : decode cX2_expandKey 98 = .ok (.ior, 1) := dk_128 (dk_at dksX2_expandKey_4 4 rfl rfl)
theorem dX2_expandKey_99 : decode cX2_expandKey 99 = .ok (.ldc 55, 2) := dk_18 55 (dk_at dksX2_expandKey_4 5 rfl rfl)
theorem dX2_expandKey_101 : decode cX2_expandKey 101 = .ok (.iand, 1) := dk_126 (dk_at dksX2_expandKey_4 7 rfl rfl)
theorem dX2_expandKey_102 : decode cX2_expandKey 102 = .ok (.iastore, 1) := dk_79 (dk_at dksX2_expandKey_4 8 rfl rfl)
theorem dX2_expandKey_103 : decode cX2_expandKey 103 = .ok (.goto 71, 3) := dk_167 0 71 (dk_at dksX2_expandKey_4 9 rfl rfl)
theorem dX2_expandKey_106 : decode cX2_expandKey 106 = .ok (.iload_n 3, 1) := dk_29 (dk_at dksX2_expandKey_4 12 rfl rfl)
theorem dX2_expandKey_107 : decode cX2_expandKey 107 = .ok (.bipush 7, 2) := dk_16 7 (dk_at dksX2_expandKey_4 13 rfl rfl)
theorem dX2_expandKey_109 : decode cX2_expandKey 109 = .ok (.iand, 1) := dk_126 (dk_at dksX2_expandKey_4 15 rfl rfl)
theorem dX2_expandKey_110 : decode cX2_expandKey 110 = .ok (.bipush 6, 2) := dk_16 6 (dk_at dksX2_expandKey_4 16 rfl rfl)
theorem dX2_expandKey_112 : decode cX2_expandKey 112 = .ok (.if_icmp .ne 34, 3) := dk_160 0 34 (dk_at dksX2_expandKey_4 18 rfl rfl)
theorem dX2_expandKey_115 : decode cX2_expandKey 115 = .ok (.aload_n 2, 1) := dk_44 (dk_at dksX2_expandKey_4 21 rfl rfl)
theorem dX2_expandKey_116 : decode cX2_expandKey 116 = .ok (.iload_n 3, 1) := dk_29 (dk_at dksX2_expandKey_4 22 rfl rfl)
theorem dX2_expandKey_117 : decode cX2_expandKey 117 = .ok (.aload_n 2, 1) := dk_44 (dk_at dksX2_expandKey_4 23 rfl rfl)
theorem dX2_expandKey_118 : decode cX2_expandKey 118 = .ok (.iload_n 3, 1) := dk_29 (dk_at dksX2_expandKey_5 0 rfl rfl)
theorem dX2_expandKey_119 : decode cX2_expandKey 119 = .ok (.bipush 7, 2) := dk_16 7 (dk_at dksX2_expandKey_5 1 rfl rfl)
theorem dX2_expandKey_121 : decode cX2_expandKey 121 = .ok (.isub, 1) := dk_100 (dk_at dksX2_expandKey_5 3 rfl rfl)
theorem dX2_expandKey_122 : decode cX2_expandKey 122 = .ok (.iaload, 1) := dk_46 (dk_at dksX2_expandKey_5 4 rfl rfl)
theorem dX2_expandKey_123 : decode cX2_expandKey 123 = .ok (.bipush 127, 2) := dk_16 127 (dk_at dksX2_expandKey_5 5 rfl rfl)
theorem dX2_expandKey_125 : decode cX2_expandKey 125 = .ok (.iand, 1) := dk_126 (dk_at dksX2_expandKey_5 7 rfl rfl)
theorem dX2_expandKey_126 : decode cX2_expandKey 126 = .ok (.bipush 9, 2) := dk_16 9 (dk_at dksX2_expandKey_5 8 rfl rfl)
theorem dX2_expandKey_128 : decode cX2_expandKey 128 = .ok (.ishl, 1) := dk_120 (dk_at dksX2_expandKey_5 10 rfl rfl)
theorem dX2_expandKey_129 : decode cX2_expandKey 129 = .ok (.aload_n 2, 1) := dk_44 (dk_at dksX2_expandKey_5 11 rfl rfl)
theorem dX2_expandKey_130 : decode cX2_expandKey 130 = .ok (.iload_n 3, 1) := dk_29 (dk_at dksX2_expandKey_5 12 rfl rfl)
theorem dX2_expandKey_131 : decode cX2_expandKey 131 = .ok (.bipush 14, 2) := dk_16 14 (dk_at dksX2_expandKey_5 13 rfl rfl)
theorem dX2_expandKey_133 : decode cX2_expandKey 133 = .ok (.isub, 1) := dk_100 (dk_at dksX2_expandKey_5 15 rfl rfl)
theorem dX2_expandKey_134 : decode cX2_expandKey 134 = .ok (.iaload, 1) := dk_46 (dk_at dksX2_expandKey_5 16 rfl rfl)
theorem dX2_expandKey_135 : decode cX2_expandKey 135 = .ok (.bipush 7, 2) := dk_16 7 (dk_at dksX2_expandKey_5 17 rfl rfl)
theorem dX2_expandKey_137 : decode cX2_expandKey 137 = .ok (.ishr, 1) := dk_122 (dk_at dksX2_expandKey_5 19 rfl rfl)
theorem dX2_expandKey_138 : decode cX2_expandKey 138 = .ok (.ior, 1) := dk_128 (dk_at dksX2_expandKey_5 20 rfl rfl)
theorem dX2_expandKey_139 : decode cX2_expandKey 139 = .ok (.ldc 55, 2) := dk_18 55 (dk_at dksX2_expandKey_5 21 rfl rfl)
theorem dX2_expandKey_141 : decode cX2_expandKey 141 = .ok (.iand, 1) := dk_126 (dk_at dksX2_expandKey_5 23 rfl rfl)
theorem dX2_expandKey_142 : decode cX2_expandKey 142 = .ok (.iastore, 1) := dk_79 (dk_at dksX2_expandKey_6 0 rfl rfl)
theorem dX2_expandKey_143 : decode cX2_expandKey 143 = .ok (.goto 31, 3) := dk_167 0 31 (dk_at dksX2_expandKey_6 1 rfl rfl)
theorem dX2_expandKey_146 : decode cX2_expandKey 146 = .ok (.aload_n 2, 1) := dk_44 (dk_at dksX2_expandKey_6 4 rfl rfl)
theorem dX2_expandKey_147 : decode cX2_expandKey 147 = .ok (.iload_n 3, 1) := dk_29 (dk_at dksX2_expandKey_6 5 rfl rfl)
theorem dX2_expandKey_148 : decode cX2_expandKey 148 = .ok (.aload_n 2, 1) := dk_44 (dk_at dksX2_expandKey_6 6 rfl rfl)
theorem dX2_expandKey_149 : decode cX2_expandKey 149 = .ok (.iload_n 3, 1) := dk_29 (dk_at dksX2_expandKey_6 7 rfl rfl)
theorem dX2_expandKey_150 : decode cX2_expandKey 150 = .ok (.bipush 15, 2) := dk_16 15 (dk_at dksX2_expandKey_6 8 rfl rfl)
theorem dX2_expandKey_152 : decode cX2_expandKey 152 = .ok (.isub, 1) := dk_100 (dk_at dksX2_expandKey_6 10 rfl rfl)
theorem dX2_expandKey_153 : decode cX2_expandKey 153 = .ok (.iaload, 1) := dk_46 (dk_at dksX2_expandKey_6 11 rfl rfl)
theorem dX2_expandKey_154 : decode cX2_expandKey 154 = .ok (.bipush 127, 2) := dk_16 127 (dk_at dksX2_expandKey_6 12 rfl rfl)
theorem dX2_expandKey_156 : decode cX2_expandKey 156 = .ok (.iand, 1) := dk_126 (dk_at dksX2_expandKey_6 14 rfl rfl)
theorem dX2_expandKey_157 : decode cX2_expandKey 157 = .ok (.bipush 9, 2) := dk_16 9 (dk_at dksX2_expandKey_6 15 rfl rfl)
theorem dX2_expandKey_159 : decode cX2_expandKey 159 = .ok (.ishl, 1) := dk_120 (dk_at dksX2_expandKey_6 17 rfl rfl)
theorem dX2_expandKey_160 : decode cX2_expandKey 160 = .ok (.aload_n 2, 1) := dk_44 (dk_at dksX2_expandKey_6 18 rfl rfl)
theorem dX2_expandKey_161 : decode cX2_expandKey 161 = .ok (.iload_n 3, 1) := dk_29 (dk_at dksX2_expandKey_6 19 rfl rfl)
theorem dX2_expandKey_162 : decode cX2_expandKey 162 = .ok (.bipush 14, 2) := dk_16 14 (dk_at dksX2_expandKey_6 20 rfl rfl)
theorem dX2_expandKey_164 : decode cX2_expandKey 164 = .ok (.isub, 1) := dk_100 (dk_at dksX2_expandKey_6 22 rfl rfl)
theorem dX2_expandKey_165 : decode cX2_expandKey 165 = .ok (.iaload, 1) := dk_46 (dk_at dksX2_expandKey_6 23 rfl rfl)
theorem dX2_expandKey_166 : decode cX2_expandKey 166 = .ok (.bipush 7, 2) := dk_16 7 (dk_at dksX2_expandKey_7 0 rfl rfl)
theorem dX2_expandKey_168 : decode cX2_expandKey 168 = .ok (.ishr, 1) := dk_122 (dk_at dksX2_expandKey_7 2 rfl rfl)
theorem dX2_expandKey_169 : decode cX2_expandKey 169 = .ok (.ior, 1) := dk_128 (dk_at dksX2_expandKey_7 3 rfl rfl)
theorem dX2_expandKey_170 : decode cX2_expandKey 170 = .ok (.ldc 55, 2) := dk_18 55 (dk_at dksX2_expandKey_7 4 rfl rfl)
theorem dX2_expandKey_172 : decode cX2_expandKey 172 = .ok (.iand, 1) := dk_126 (dk_at dksX2_expandKey_7 6 rfl rfl)
theorem dX2_expandKey_173 : decode cX2_expandKey 173 = .ok (.iastore, 1) := dk_79 (dk_at dksX2_expandKey_7 7 rfl rfl)
theorem dX2_expandKey_174 : decode cX2_expandKey 174 = .ok (.iinc 3 1, 3) := dk_132 3 1 (dk_at dksX2_expandKey_7 8 rfl rfl)
theorem dX2_expandKey_177 : decode cX2_expandKey 177 = .ok (.goto (-117), 3) := dk_167 255 139 (dk_at dksX2_expandKey_7 11 rfl rfl)
theorem dX2_expandKey_180 : decode cX2_expandKey 180 = .ok (.aload_n 2, 1) := dk_44 (dk_at dksX2_expandKey_7 14 rfl rfl)
theorem dX2_expandKey_181 : decode cX2_expandKey 181 = .ok (.areturn, 1) := dk_176 (dk_at dksX2_expandKey_7 15 rfl rfl)
abbrev cX2_bytesToWord : ByteArray := prog_4_method_4_code
def yX2_bytesToWord : MethodName := ⟨RX2, "bytesToWord", "([BI)I"⟩
def dkwX2_bytesToWord_0 : List UInt8 := [43, 28, 51, 16, 8, 120, 18, 53, 126, 43, 28, 4, 96, 51, 17, 0, 255, 126, 96, 172]
abbrev dktX2_bytesToWord_0 : List UInt8 := dkwX2_bytesToWord_0 ++ []
theorem dksX2_bytesToWord_0 : cX2_bytesToWord.data.toList.drop 0 = dktX2_bytesToWord_0 := by decide +kernel
theorem dX2_bytesToWord_0 : decode cX2_bytesToWord 0 = .ok (.aload_n 1, 1) := dk_43 (dk_at dksX2_bytesToWord_0 0 rfl rfl)
theorem dX2_bytesToWord_1 : decode cX2_bytesToWord 1 = .ok (.iload_n 2, 1) := dk_28 (dk_at dksX2_bytesToWord_0 1 rfl rfl)
theorem dX2_bytesToWord_2 : decode cX2_bytesToWord 2 = .ok (.baload, 1) := dk_51 (dk_at dksX2_bytesToWord_0 2 rfl rfl)
theorem dX2_bytesToWord_3 : decode cX2_bytesToWord 3 = .ok (.bipush 8, 2) := dk_16 8 (dk_at dksX2_bytesToWord_0 3 rfl rfl)
theorem dX2_bytesToWord_5 : decode cX2_bytesToWord 5 = .ok (.ishl, 1) := dk_120 (dk_at dksX2_bytesToWord_0 5 rfl rfl)
theorem dX2_bytesToWord_6 : decode cX2_bytesToWord 6 = .ok (.ldc 53, 2) := dk_18 53 (dk_at dksX2_bytesToWord_0 6 rfl rfl)
theorem dX2_bytesToWord_8 : decode cX2_bytesToWord 8 = .ok (.iand, 1) := dk_126 (dk_at dksX2_bytesToWord_0 8 rfl rfl)
theorem dX2_bytesToWord_9 : decode cX2_bytesToWord 9 = .ok (.aload_n 1, 1) := dk_43 (dk_at dksX2_bytesToWord_0 9 rfl rfl)
theorem dX2_bytesToWord_10 : decode cX2_bytesToWord 10 = .ok (.iload_n 2, 1) := dk_28 (dk_at dksX2_bytesToWord_0 10 rfl rfl)
theorem dX2_bytesToWord_11 : decode cX2_bytesToWord 11 = .ok (.iconst 1, 1) := dk_4 (dk_at dksX2_bytesToWord_0 11 rfl rfl)
theorem dX2_bytesToWord_12 : decode cX2_bytesToWord 12 = .ok (.iadd, 1) := dk_96 (dk_at dksX2_bytesToWord_0 12 rfl rfl)
theorem dX2_bytesToWord_13 : decode cX2_bytesToWord 13 = .ok (.baload, 1) := dk_51 (dk_at dksX2_bytesToWord_0 13 rfl rfl)
theorem dX2_bytesToWord_14 : decode cX2_bytesToWord 14 = .ok (.sipush 255, 3) := dk_17 0 255 (dk_at dksX2_bytesToWord_0 14 rfl rfl)
theorem dX2_bytesToWord_17 : decode cX2_bytesToWord 17 = .ok (.iand, 1) := dk_126 (dk_at dksX2_bytesToWord_0 17 rfl rfl)
theorem dX2_bytesToWord_18 : decode cX2_bytesToWord 18 = .ok (.iadd, 1) := dk_96 (dk_at dksX2_bytesToWord_0 18 rfl rfl)
theorem dX2_bytesToWord_19 : decode cX2_bytesToWord 19 = .ok (.ireturn, 1) := dk_172 (dk_at dksX2_bytesToWord_0 19 rfl rfl)
abbrev cX2_invertKey : ByteArray := prog_4_method_11_code
def yX2_invertKey : MethodName := ⟨RX2, "invertKey", "([I)[I"⟩
def dkwX2_invertKey_15 : List UInt8 := [28, 79, 25, 7, 176]
abbrev dktX2_invertKey_15 : List UInt8 := dkwX2_invertKey_15 ++ []
def dkwX2_invertKey_14 : List UInt8 := [132, 6, 255, 21, 6, 21, 4, 79, 25, 7, 132, 6, 255, 21, 6, 29, 79, 25, 7, 132, 6, 255, 21, 6]
abbrev dktX2_invertKey_14 : List UInt8 := dkwX2_invertKey_14 ++ dktX2_invertKey_15
def dkwX2_invertKey_13 : List UInt8 := [54, 4, 42, 43, 21, 8, 46, 182, 0, 74, 54, 5, 25, 7, 132, 6, 255, 21, 6, 21, 5, 79, 25, 7]
abbrev dktX2_invertKey_13 : List UInt8 := dkwX2_invertKey_13 ++ dktX2_invertKey_14
def dkwX2_invertKey_12 : List UInt8 := [61, 42, 43, 21, 8, 132, 8, 1, 46, 182, 0, 78, 62, 42, 43, 21, 8, 132, 8, 1, 46, 182, 0, 78]
abbrev dktX2_invertKey_12 : List UInt8 := dkwX2_invertKey_12 ++ dktX2_invertKey_13
def dkwX2_invertKey_11 : List UInt8 := [21, 6, 29, 79, 25, 7, 132, 6, 255, 21, 6, 28, 79, 42, 43, 21, 8, 132, 8, 1, 46, 182, 0, 74]
abbrev dktX2_invertKey_11 : List UInt8 := dkwX2_invertKey_11 ++ dktX2_invertKey_12
def dkwX2_invertKey_10 : List UInt8 := [167, 255, 124, 43, 21, 8, 132, 8, 1, 46, 61, 43, 21, 8, 132, 8, 1, 46, 62, 25, 7, 132, 6, 255]
abbrev dktX2_invertKey_10 : List UInt8 := dkwX2_invertKey_10 ++ dktX2_invertKey_11
def dkwX2_invertKey_9 : List UInt8 := [79, 25, 7, 132, 6, 255, 21, 6, 21, 4, 79, 25, 7, 132, 6, 255, 21, 6, 28, 79, 132, 9, 1]
abbrev dktX2_invertKey_9 : List UInt8 := dkwX2_invertKey_9 ++ dktX2_invertKey_10
def dkwX2_invertKey_8 : List UInt8 := [46, 182, 0, 74, 54, 5, 25, 7, 132, 6, 255, 21, 6, 21, 5, 79, 25, 7, 132, 6, 255, 21, 6, 29]
abbrev dktX2_invertKey_8 : List UInt8 := dkwX2_invertKey_8 ++ dktX2_invertKey_9
def dkwX2_invertKey_7 : List UInt8 := [182, 0, 78, 62, 42, 43, 21, 8, 132, 8, 1, 46, 182, 0, 78, 54, 4, 42, 43, 21, 8, 132, 8, 1]
abbrev dktX2_invertKey_7 : List UInt8 := dkwX2_invertKey_7 ++ dktX2_invertKey_8
def dkwX2_invertKey_6 : List UInt8 := [21, 6, 28, 79, 42, 43, 21, 8, 132, 8, 1, 46, 182, 0, 74, 61, 42, 43, 21, 8, 132, 8, 1, 46]
abbrev dktX2_invertKey_6 : List UInt8 := dkwX2_invertKey_6 ++ dktX2_invertKey_7
def dkwX2_invertKey_5 : List UInt8 := [61, 43, 21, 8, 132, 8, 1, 46, 62, 25, 7, 132, 6, 255, 21, 6, 29, 79, 25, 7, 132, 6, 255]
abbrev dktX2_invertKey_5 : List UInt8 := dkwX2_invertKey_5 ++ dktX2_invertKey_6
def dkwX2_invertKey_4 : List UInt8 := [132, 6, 255, 21, 6, 28, 79, 4, 54, 9, 21, 9, 16, 8, 162, 0, 131, 43, 21, 8, 132, 8, 1, 46]
abbrev dktX2_invertKey_4 : List UInt8 := dkwX2_invertKey_4 ++ dktX2_invertKey_5
def dkwX2_invertKey_3 : List UInt8 := [79, 25, 7, 132, 6, 255, 21, 6, 21, 4, 79, 25, 7, 132, 6, 255, 21, 6, 29, 79, 25, 7]
abbrev dktX2_invertKey_3 : List UInt8 := dkwX2_invertKey_3 ++ dktX2_invertKey_4
def dkwX2_invertKey_2 : List UInt8 := [54, 4, 42, 43, 21, 8, 132, 8, 1, 46, 182, 0, 74, 54, 5, 25, 7, 132, 6, 255, 21, 6, 21, 5]
abbrev dktX2_invertKey_2 : List UInt8 := dkwX2_invertKey_2 ++ dktX2_invertKey_3
def dkwX2_invertKey_1 : List UInt8 := [61, 42, 43, 21, 8, 132, 8, 1, 46, 182, 0, 78, 62, 42, 43, 21, 8, 132, 8, 1, 46, 182, 0, 78]
abbrev dktX2_invertKey_1 : List UInt8 := dkwX2_invertKey_1 ++ dktX2_invertKey_2
def dkwX2_invertKey_0 : List UInt8 := [16, 52, 54, 6, 16, 52, 188, 10, 58, 7, 3, 54, 8, 42, 43, 21, 8, 132, 8, 1, 46, 182, 0, 74]
abbrev dktX2_invertKey_0 : List UInt8 := dkwX2_invertKey_0 ++ dktX2_invertKey_1
theorem dksX2_invertKey_0 : cX2_invertKey.data.toList.drop 0 = dktX2_invertKey_0 := by decide +kernel
theorem dksX2_invertKey_1 : cX2_invertKey.data.toList.drop 24 = dktX2_invertKey_1 := dk_seg dksX2_invertKey_0 24 rfl rfl
theorem dksX2_invertKey_2 : cX2_invertKey.data.toList.drop 48 = dktX2_invertKey_2 := dk_seg dksX2_invertKey_1 24 rfl rfl
theorem dksX2_invertKey_3 : cX2_invertKey.data.toList.drop 72 = dktX2_invertKey_3 := dk_seg dksX2_invertKey_2 24 rfl rfl
theorem dksX2_invertKey_4 : cX2_invertKey.data.toList.drop 94 = dktX2_invertKey_4 := dk_seg dksX2_invertKey_3 22 rfl rfl
theorem dksX2_invertKey_5 : cX2_invertKey.data.toList.drop 118 = dktX2_invertKey_5 := dk_seg dksX2_invertKey_4 24 rfl rfl
theorem dksX2_invertKey_6 : cX2_invertKey.data.toList.drop 141 = dktX2_invertKey_6 := dk_seg dksX2_invertKey_5 23 rfl rfl
theorem dksX2_invertKey_7 : cX2_invertKey.data.toList.drop 165 = dktX2_invertKey_7 := dk_seg dksX2_invertKey_6 24 rfl rfl
theorem dksX2_invertKey_8 : cX2_invertKey.data.toList.drop 189 = dktX2_invertKey_8 := dk_seg dksX2_invertKey_7 24 rfl rfl
theorem dksX2_invertKey_9 : cX2_invertKey.data.toList.drop 213 = dktX2_invertKey_9 := dk_seg dksX2_invertKey_8 24 rfl rfl
theorem dksX2_invertKey_10 : cX2_invertKey.data.toList.drop 236 = dktX2_invertKey_10 := dk_seg dksX2_invertKey_9 23 rfl rfl
theorem dksX2_invertKey_11 : cX2_invertKey.data.toList.drop 260 = dktX2_invertKey_11 := dk_seg dksX2_invertKey_10 24 rfl rfl
theorem dksX2_invertKey_12 : cX2_invertKey.data.toList.drop 284 = dktX2_invertKey_12 := dk_seg dksX2_invertKey_11 24 rfl rfl
theorem dksX2_invertKey_13 : cX2_invertKey.data.toList.drop 308 = dktX2_invertKey_13 := dk_seg dksX2_invertKey_12 24 rfl rfl
theorem dksX2_invertKey_14 : cX2_invertKey.data.toList.drop 332 = dktX2_invertKey_14 := dk_seg dksX2_invertKey_13 24 rfl rfl
theorem dksX2_invertKey_15 : cX2_invertKey.data.toList.drop 356 = dktX2_invertKey_15 := dk_seg dksX2_invertKey_14 24 rfl rfl
theorem dX2_invertKey_0 : decode cX2_invertKey 0 = .ok (.bipush 52, 2) := dk_16 52 (dk_at dksX2_invertKey_0 0 rfl rfl)
theorem dX2_invertKey_2 : decode cX2_invertKey 2 = .ok (.istore 6, 2) := dk_54 6 (dk_at dksX2_invertKey_0 2 rfl rfl)
theorem dX2_invertKey_4 : decode cX2_invertKey 4 = .ok (.bipush 52, 2) := dk_16 52 (dk_at dksX2_invertKey_0 4 rfl rfl)
theorem dX2_invertKey_6 : decode cX2_invertKey 6 = .ok (.newarray .int, 2) := dk_188_10 (dk_at dksX2_invertKey_0 6 rfl rfl)
theorem dX2_invertKey_8 : decode cX2_invertKey 8 = .ok (.astore 7, 2) := dk_58 7 (dk_at dksX2_invertKey_0 8 rfl rfl)
theorem dX2_invertKey_10 : decode cX2_invertKey 10 = .ok (.iconst 0, 1) := dk_3 (dk_at dksX2_invertKey_0 10 rfl rfl)
theorem dX2_invertKey_11 : decode cX2_invertKey 11 = .ok (.istore 8, 2) := dk_54 8 (dk_at dksX2_invertKey_0 11 rfl rfl)
theorem dX2_invertKey_13 : decode cX2_invertKey 13 = .ok (.aload_n 0, 1) := dk_42 (dk_at dksX2_invertKey_0 13 rfl rfl)
theorem dX2_invertKey_14 : decode cX2_invertKey 14 = .ok (.aload_n 1, 1) := dk_43 (dk_at dksX2_invertKey_0 14 rfl rfl)
theorem dX2_invertKey_15 : decode cX2_invertKey 15 = .ok (.iload 8, 2) := dk_21 8 (dk_at dksX2_invertKey_0 15 rfl rfl)
theorem dX2_invertKey_17 : decode cX2_invertKey 17 = .ok (.iinc 8 1, 3) := dk_132 8 1 (dk_at dksX2_invertKey_0 17 rfl rfl)
theorem dX2_invertKey_20 : decode cX2_invertKey 20 = .ok (.iaload, 1) := dk_46 (dk_at dksX2_invertKey_0 20 rfl rfl)
theorem dX2_invertKey_21 : decode cX2_invertKey 21 = .ok (.invokevirtual 74, 3) := dk_182 0 74 (dk_at dksX2_invertKey_0 21 rfl rfl)
theorem dX2_invertKey_24 : decode cX2_invertKey 24 = .ok (.istore_n 2, 1) := dk_61 (dk_at dksX2_invertKey_1 0 rfl rfl)
theorem dX2_invertKey_25 : decode cX2_invertKey 25 = .ok (.aload_n 0, 1) := dk_42 (dk_at dksX2_invertKey_1 1 rfl rfl)
theorem dX2_invertKey_26 : decode cX2_invertKey 26 = .ok (.aload_n 1, 1) := dk_43 (dk_at dksX2_invertKey_1 2 rfl rfl)
theorem dX2_invertKey_27 : decode cX2_invertKey 27 = .ok (.iload 8, 2) := dk_21 8 (dk_at dksX2_invertKey_1 3 rfl rfl)
theorem dX2_invertKey_29 : decode cX2_invertKey 29 = .ok (.iinc 8 1, 3) := dk_132 8 1 (dk_at dksX2_invertKey_1 5 rfl rfl)
theorem dX2_invertKey_32 : decode cX2_invertKey 32 = .ok (.iaload, 1) := dk_46 (dk_at dksX2_invertKey_1 8 rfl rfl)
theorem dX2_invertKey_33 : decode cX2_invertKey 33 = .ok (.invokevirtual 78, 3) := dk_182 0 78 (dk_at dksX2_invertKey_1 9 rfl rfl)
theorem dX2_invertKey_36 : decode cX2_invertKey 36 = .ok (.istore_n 3, 1) := dk_62 (dk_at dksX2_invertKey_1 12 rfl rfl)
theorem dX2_invertKey_37 : decode cX2_invertKey 37 = .ok (.aload_n 0, 1) := dk_42 (dk_at dksX2_invertKey_1 13 rfl rfl)
theorem dX2_invertKey_38 : decode cX2_invertKey 38 = .ok (.aload_n 1, 1) := dk_43 (dk_at dksX2_invertKey_1 14 rfl rfl)
theorem dX2_invertKey_39 : decode cX2_invertKey 39 = .ok (.iload 8, 2) := dk_21 8 (dk_at dksX2_invertKey_1 15 rfl rfl)
theorem dX2_invertKey_41 : decode cX2_invertKey 41 = .ok (.iinc 8 1, 3) := dk_132 8 1 (dk_at dksX2_invertKey_1 17 rfl rfl)
theorem dX2_invertKey_44 : decode cX2_invertKey 44 = .ok (.iaload, 1) := dk_46 (dk_at dksX2_invertKey_1 20 rfl rfl)
theorem dX2_invertKey_45 : decode cX2_invertKey 45 = .ok (.invokevirtual 78, 3) := dk_182 0 78 (dk_at dksX2_invertKey_1 21 rfl rfl)
theorem dX2_invertKey_48 : decode cX2_invertKey 48 = .ok (.istore 4, 2) := dk_54 4 (dk_at dksX2_invertKey_2 0 rfl rfl)
theorem dX2_invertKey_50 : decode cX2_invertKey 50 = .ok (.aload_n 0, 1) := dk_42 (dk_at dksX2_invertKey_2 2 rfl rfl)
theorem dX2_invertKey_51 : decode cX2_invertKey 51 = .ok (.aload_n 1, 1) := dk_43 (dk_at dksX2_invertKey_2 3 rfl rfl)
theorem dX2_invertKey_52 : decode cX2_invertKey 52 = .ok (.iload 8, 2) := dk_21 8 (dk_at dksX2_invertKey_2 4 rfl rfl)
theorem dX2_invertKey_54 : decode cX2_invertKey 54 = .ok (.iinc 8 1, 3) := dk_132 8 1 (dk_at dksX2_invertKey_2 6 rfl rfl)
theorem dX2_invertKey_57 : decode cX2_invertKey 57 = .ok (.iaload, 1) := dk_46 (dk_at dksX2_invertKey_2 9 rfl rfl)
theorem dX2_invertKey_58 : decode cX2_invertKey 58 = .ok (.invokevirtual 74, 3) := dk_182 0 74 (dk_at dksX2_invertKey_2 10 rfl rfl)
theorem dX2_invertKey_61 : decode cX2_invertKey 61 = .ok (.istore 5, 2) := dk_54 5 (dk_at dksX2_invertKey_2 13 rfl rfl)
theorem dX2_invertKey_63 : decode cX2_invertKey 63 = .ok (.aload 7, 2) := dk_25 7 (dk_at dksX2_invertKey_2 15 rfl rfl)
theorem dX2_invertKey_65 : decode cX2_invertKey 65 = .ok (.iinc 6 (-1), 3) := dk_132 6 255 (dk_at dksX2_invertKey_2 17 rfl rfl)
theorem dX2_invertKey_68 : decode cX2_invertKey 68 = .ok (.iload 6, 2) := dk_21 6 (dk_at dksX2_invertKey_2 20 rfl rfl)
theorem dX2_invertKey_70 : decode cX2_invertKey 70 = .ok (.iload 5, 2) := dk_21 5 (dk_at dksX2_invertKey_2 22 rfl rfl)
theorem dX2_invertKey_72 : decode cX2_invertKey 72 = .ok (.iastore, 1) := dk_79 (dk_at dksX2_invertKey_3 0 rfl rfl)
theorem dX2_invertKey_73 : decode cX2_invertKey 73 = .ok (.aload 7, 2) := dk_25 7 (dk_at dksX2_invertKey_3 1 rfl rfl)
theorem dX2_invertKey_75 : decode cX2_invertKey 75 = .ok (.iinc 6 (-1), 3) := dk_132 6 255 (dk_at dksX2_invertKey_3 3 rfl rfl)
theorem dX2_invertKey_78 : decode cX2_invertKey 78 = .ok (.iload 6, 2) := dk_21 6 (dk_at dksX2_invertKey_3 6 rfl rfl)
theorem dX2_invertKey_80 : decode cX2_invertKey 80 = .ok (.iload 4, 2) := dk_21 4 (dk_at dksX2_invertKey_3 8 rfl rfl)
theorem dX2_invertKey_82 : decode cX2_invertKey 82 = .ok (.iastore, 1) := dk_79 (dk_at dksX2_invertKey_3 10 rfl rfl)
theorem dX2_invertKey_83 : decode cX2_invertKey 83 = .ok (.aload 7, 2) := dk_25 7 (dk_at dksX2_invertKey_3 11 rfl rfl)
theorem dX2_invertKey_85 : decode cX2_invertKey 85 = .ok (.iinc 6 (-1), 3) := dk_132 6 255 (dk_at dksX2_invertKey_3 13 rfl rfl)
theorem dX2_invertKey_88 : decode cX2_invertKey 88 = .ok (.iload 6, 2) := dk_21 6 (dk_at dksX2_invertKey_3 16 rfl rfl)
theorem dX2_invertKey_90 : decode cX2_invertKey 90 = .ok (.iload_n 3, 1) := dk_29 (dk_at dksX2_invertKey_3 18 rfl rfl)
theorem dX2_invertKey_91 : decode cX2_invertKey 91 = .ok (.iastore, 1) := dk_79 (dk_at dksX2_invertKey_3 19 rfl rfl)
theorem dX2_invertKey_92 : decode cX2_invertKey 92 = .ok (.aload 7, 2) := dk_25 7 (dk_at dksX2_invertKey_3 20 rfl rfl)
theorem dX2_invertKey_94 : decode cX2_invertKey 94 = .ok (.iinc 6 (-1), 3) := dk_132 6 255 (dk_at dksX2_invertKey_4 0 rfl rfl)
theorem dX2_invertKey_97 : decode cX2_invertKey 97 = .ok (.iload 6, 2) := dk_21 6 (dk_at dksX2_invertKey_4 3 rfl rfl)
theorem dX2_invertKey_99 : decode cX2_invertKey 99 = .ok (.iload_n 2, 1) := dk_28 (dk_at dksX2_invertKey_4 5 rfl rfl)
theorem dX2_invertKey_100 : decode cX2_invertKey 100 = .ok (.iastore, 1) := dk_79 (dk_at dksX2_invertKey_4 6 rfl rfl)
theorem dX2_invertKey_101 : decode cX2_invertKey 101 = .ok (.iconst 1, 1) := dk_4 (dk_at dksX2_invertKey_4 7 rfl rfl)
theorem dX2_invertKey_102 : decode cX2_invertKey 102 = .ok (.istore 9, 2) := dk_54 9 (dk_at dksX2_invertKey_4 8 rfl rfl)
theorem dX2_invertKey_104 : decode cX2_invertKey 104 = .ok (.iload 9, 2) := dk_21 9 (dk_at dksX2_invertKey_4 10 rfl rfl)
theorem dX2_invertKey_106 : decode cX2_invertKey 106 = .ok (.bipush 8, 2) := dk_16 8 (dk_at dksX2_invertKey_4 12 rfl rfl)
theorem dX2_invertKey_108 : decode cX2_invertKey 108 = .ok (.if_icmp .ge 131, 3) := dk_162 0 131 (dk_at dksX2_invertKey_4 14 rfl rfl)
theorem dX2_invertKey_111 : decode cX2_invertKey 111 = .ok (.aload_n 1, 1) := dk_43 (dk_at dksX2_invertKey_4 17 rfl rfl)
theorem dX2_invertKey_112 : decode cX2_invertKey 112 = .ok (.iload 8, 2) := dk_21 8 (dk_at dksX2_invertKey_4 18 rfl rfl)
theorem dX2_invertKey_114 : decode cX2_invertKey 114 = .ok (.iinc 8 1, 3) := dk_132 8 1 (dk_at dksX2_invertKey_4 20 rfl rfl)
theorem dX2_invertKey_117 : decode cX2_invertKey 117 = .ok (.iaload, 1) := dk_46 (dk_at dksX2_invertKey_4 23 rfl rfl)
theorem dX2_invertKey_118 : decode cX2_invertKey 118 = .ok (.istore_n 2, 1) := dk_61 (dk_at dksX2_invertKey_5 0 rfl rfl)
theorem dX2_invertKey_119 : decode cX2_invertKey 119 = .ok (.aload_n 1, 1) := dk_43 (dk_at dksX2_invertKey_5 1 rfl rfl)
theorem dX2_invertKey_120 : decode cX2_invertKey 120 = .ok (.iload 8, 2) := dk_21 8 (dk_at dksX2_invertKey_5 2 rfl rfl)
theorem dX2_invertKey_122 : decode cX2_invertKey 122 = .ok (.iinc 8 1, 3) := dk_132 8 1 (dk_at dksX2_invertKey_5 4 rfl rfl)
theorem dX2_invertKey_125 : decode cX2_invertKey 125 = .ok (.iaload, 1) := dk_46 (dk_at dksX2_invertKey_5 7 rfl rfl)
theorem dX2_invertKey_126 : decode cX2_invertKey 126 = .ok (.istore_n 3, 1) := dk_62 (dk_at dksX2_invertKey_5 8 rfl rfl)
theorem dX2_invertKey_127 : decode cX2_invertKey 127 = .ok (.aload 7, 2) := dk_25 7 (dk_at dksX2_invertKey_5 9 rfl rfl)
theorem dX2_invertKey_129 : decode cX2_invertKey 129 = .ok (.iinc 6 (-1), 3) := dk_132 6 255 (dk_at dksX2_invertKey_5 11 rfl rfl)
theorem dX2_invertKey_132 : decode cX2_invertKey 132 = .ok (.iload 6, 2) := dk_21 6 (dk_at dksX2_invertKey_5 14 rfl rfl)
theorem dX2_invertKey_134 : decode cX2_invertKey 134 = .ok (.iload_n 3, 1) := dk_29 (dk_at dksX2_invertKey_5 16 rfl rfl)
theorem dX2_invertKey_135 : decode cX2_invertKey 135 = .ok (.iastore, 1) := dk_79 (dk_at dksX2_invertKey_5 17 rfl rfl)
theorem dX2_invertKey_136 : decode cX2_invertKey 136 = .ok (.aload 7, 2) := dk_25 7 (dk_at dksX2_invertKey_5 18 rfl rfl)
theorem dX2_invertKey_138 : decode cX2_invertKey 138 = .ok (.iinc 6 (-1), 3) := dk_132 6 255 (dk_at dksX2_invertKey_5 20 rfl rfl)
theorem dX2_invertKey_141 : decode cX2_invertKey 141 = .ok (.iload 6, 2) := dk_21 6 (dk_at dksX2_invertKey_6 0 rfl rfl)
theorem dX2_invertKey_143 : decode cX2_invertKey 143 = .ok (.iload_n 2, 1) := dk_28 (dk_at dksX2_invertKey_6 2 rfl rfl)
theorem dX2_invertKey_144 : decode cX2_invertKey 144 = .ok (.iastore, 1) := dk_79 (dk_at dksX2_invertKey_6 3 rfl rfl)
theorem dX2_invertKey_145 : decode cX2_invertKey 145 = .ok (.aload_n 0, 1) := dk_42 (dk_at dksX2_invertKey_6 4 rfl rfl)
theorem dX2_invertKey_146 : decode cX2_invertKey 146 = .ok (.aload_n 1, 1) := dk_43 (dk_at dksX2_invertKey_6 5 rfl rfl)
theorem dX2_invertKey_147 : decode cX2_invertKey 147 = .ok (.iload 8, 2) := dk_21 8 (dk_at dksX2_invertKey_6 6 rfl rfl)
theorem dX2_invertKey_149 : decode cX2_invertKey 149 = .ok (.iinc 8 1, 3) := dk_132 8 1 (dk_at dksX2_invertKey_6 8 rfl rfl)
theorem dX2_invertKey_152 : decode cX2_invertKey 152 = .ok (.iaload, 1) := dk_46 (dk_at dksX2_invertKey_6 11 rfl rfl)
theorem dX2_invertKey_153 : decode cX2_invertKey 153 = .ok (.invokevirtual 74, 3) := dk_182 0 74 (dk_at dksX2_invertKey_6 12 rfl rfl)
theorem dX2_invertKey_156 : decode cX2_invertKey 156 = .ok (.istore_n 2, 1) := dk_61 (dk_at dksX2_invertKey_6 15 rfl rfl)
theorem dX2_invertKey_157 : decode cX2_invertKey 157 = .ok (.aload_n 0, 1) := dk_42 (dk_at dksX2_invertKey_6 16 rfl rfl)
theorem dX2_invertKey_158 : decode cX2_invertKey 158 = .ok (.aload_n 1, 1) := dk_43 (dk_at dksX2_invertKey_6 17 rfl rfl)
theorem dX2_invertKey_159 : decode cX2_invertKey 159 = .ok (.iload 8, 2) := dk_21 8 (dk_at dksX2_invertKey_6 18 rfl rfl)
theorem dX2_invertKey_161 : decode cX2_invertKey 161 = .ok (.iinc 8 1, 3) := dk_132 8 1 (dk_at dksX2_invertKey_6 20 rfl rfl)
theorem dX2_invertKey_164 : decode cX2_invertKey 164 = .ok (.iaload, 1) := dk_46 (dk_at dksX2_invertKey_6 23 rfl rfl)
theorem dX2_invertKey_165 : decode cX2_invertKey 165 = .ok (.invokevirtual 78, 3) := dk_182 0 78 (dk_at dksX2_invertKey_7 0 rfl rfl)
theorem dX2_invertKey_168 : decode cX2_invertKey 168 = .ok (.istore_n 3, 1) := dk_62 (dk_at dksX2_invertKey_7 3 rfl rfl)
theorem dX2_invertKey_169 : decode cX2_invertKey 169 = .ok (.aload_n 0, 1) := dk_42 (dk_at dksX2_invertKey_7 4 rfl rfl)
theorem dX2_invertKey_170 : decode cX2_invertKey 170 = .ok (.aload_n 1, 1) := dk_43 (dk_at dksX2_invertKey_7 5 rfl rfl)
theorem dX2_invertKey_171 : decode cX2_invertKey 171 = .ok (.iload 8, 2) := dk_21 8 (dk_at dksX2_invertKey_7 6 rfl rfl)
theorem dX2_invertKey_173 : decode cX2_invertKey 173 = .ok (.iinc 8 1, 3) := dk_132 8 1 (dk_at dksX2_invertKey_7 8 rfl rfl)
theorem dX2_invertKey_176 : decode cX2_invertKey 176 = .ok (.iaload, 1) := dk_46 (dk_at dksX2_invertKey_7 11 rfl rfl)
theorem dX2_invertKey_177 : decode cX2_invertKey 177 = .ok (.invokevirtual 78, 3) := dk_182 0 78 (dk_at dksX2_invertKey_7 12 rfl rfl)
theorem dX2_invertKey_180 : decode cX2_invertKey 180 = .ok (.istore 4, 2) := dk_54 4 (dk_at dksX2_invertKey_7 15 rfl rfl)
theorem dX2_invertKey_182 : decode cX2_invertKey 182 = .ok (.aload_n 0, 1) := dk_42 (dk_at dksX2_invertKey_7 17 rfl rfl)
theorem dX2_invertKey_183 : decode cX2_invertKey 183 = .ok (.aload_n 1, 1) := dk_43 (dk_at dksX2_invertKey_7 18 rfl rfl)
theorem dX2_invertKey_184 : decode cX2_invertKey 184 = .ok (.iload 8, 2) := dk_21 8 (dk_at dksX2_invertKey_7 19 rfl rfl)
theorem dX2_invertKey_186 : decode cX2_invertKey 186 = .ok (.iinc 8 1, 3) := dk_132 8 1 (dk_at dksX2_invertKey_7 21 rfl rfl)
theorem dX2_invertKey_189 : decode cX2_invertKey 189 = .ok (.iaload, 1) := dk_46 (dk_at dksX2_invertKey_8 0 rfl rfl)
theorem dX2_invertKey_190 : decode cX2_invertKey 190 = .ok (.invokevirtual 74, 3) := dk_182 0 74 (dk_at dksX2_invertKey_8 1 rfl rfl)
theorem dX2_invertKey_193 : decode cX2_invertKey 193 = .ok (.istore 5, 2) := dk_54 5 (dk_at dksX2_invertKey_8 4 rfl rfl)
theorem dX2_invertKey_195 : decode cX2_invertKey 195 = .ok (.aload 7, 2) := dk_25 7 (dk_at dksX2_invertKey_8 6 rfl rfl)
theorem dX2_invertKey_197 : decode cX2_invertKey 197 = .ok (.iinc 6 (-1), 3) := dk_132 6 255 (dk_at dksX2_invertKey_8 8 rfl rfl)
theorem dX2_invertKey_200 : decode cX2_invertKey 200 = .ok (.iload 6, 2) := dk_21 6 (dk_at dksX2_invertKey_8 11 rfl rfl)
theorem dX2_invertKey_202 : decode cX2_invertKey 202 = .ok (.iload 5, 2) := dk_21 5 (dk_at dksX2_invertKey_8 13 rfl rfl)
theorem dX2_invertKey_204 : decode cX2_invertKey 204 = .ok (.iastore, 1) := dk_79 (dk_at dksX2_invertKey_8 15 rfl rfl)
theorem dX2_invertKey_205 : decode cX2_invertKey 205 = .ok (.aload 7, 2) := dk_25 7 (dk_at dksX2_invertKey_8 16 rfl rfl)
theorem dX2_invertKey_207 : decode cX2_invertKey 207 = .ok (.iinc 6 (-1), 3) := dk_132 6 255 (dk_at dksX2_invertKey_8 18 rfl rfl)
theorem dX2_invertKey_210 : decode cX2_invertKey 210 = .ok (.iload 6, 2) := dk_21 6 (dk_at dksX2_invertKey_8 21 rfl rfl)
theorem dX2_invertKey_212 : decode cX2_invertKey 212 = .ok (.iload_n 3, 1) := dk_29 (dk_at dksX2_invertKey_8 23 rfl rfl)
theorem dX2_invertKey_213 : decode cX2_invertKey 213 = .ok (.iastore, 1) := dk_79 (dk_at dksX2_invertKey_9 0 rfl rfl)
theorem dX2_invertKey_214 : decode cX2_invertKey 214 = .ok (.aload 7, 2) := dk_25 7 (dk_at dksX2_invertKey_9 1 rfl rfl)
theorem dX2_invertKey_216 : decode cX2_invertKey 216 = .ok (.iinc 6 (-1), 3) := dk_132 6 255 (dk_at dksX2_invertKey_9 3 rfl rfl)
theorem dX2_invertKey_219 : decode cX2_invertKey 219 = .ok (.iload 6, 2) := dk_21 6 (dk_at dksX2_invertKey_9 6 rfl rfl)
theorem dX2_invertKey_221 : decode cX2_invertKey 221 = .ok (.iload 4, 2) := dk_21 4 (dk_at dksX2_invertKey_9 8 rfl rfl)
theorem dX2_invertKey_223 : decode cX2_invertKey 223 = .ok (.iastore, 1) := dk_79 (dk_at dksX2_invertKey_9 10 rfl rfl)
theorem dX2_invertKey_224 : decode cX2_invertKey 224 = .ok (.aload 7, 2) := dk_25 7 (dk_at dksX2_invertKey_9 11 rfl rfl)
theorem dX2_invertKey_226 : decode cX2_invertKey 226 = .ok (.iinc 6 (-1), 3) := dk_132 6 255 (dk_at dksX2_invertKey_9 13 rfl rfl)
theorem dX2_invertKey_229 : decode cX2_invertKey 229 = .ok (.iload 6, 2) := dk_21 6 (dk_at dksX2_invertKey_9 16 rfl rfl)
theorem dX2_invertKey_231 : decode cX2_invertKey 231 = .ok (.iload_n 2, 1) := dk_28 (dk_at dksX2_invertKey_9 18 rfl rfl)
theorem dX2_invertKey_232 : decode cX2_invertKey 232 = .ok (.iastore, 1) := dk_79 (dk_at dksX2_invertKey_9 19 rfl rfl)
theorem dX2_invertKey_233 : decode cX2_invertKey 233 = .ok (.iinc 9 1, 3) := dk_132 9 1 (dk_at dksX2_invertKey_9 20 rfl rfl)
theorem dX2_invertKey_236 : decode cX2_invertKey 236 = .ok (.goto (-132), 3) := dk_167 255 124 (dk_at dksX2_invertKey_10 0 rfl rfl)
theorem dX2_invertKey_239 : decode cX2_invertKey 239 = .ok (.aload_n 1, 1) := dk_43 (dk_at dksX2_invertKey_10 3 rfl rfl)
theorem dX2_invertKey_240 : decode cX2_invertKey 240 = .ok (.iload 8, 2) := dk_21 8 (dk_at dksX2_invertKey_10 4 rfl rfl)
theorem dX2_invertKey_242 : decode cX2_invertKey 242 = .ok (.iinc 8 1, 3) := dk_132 8 1 (dk_at dksX2_invertKey_10 6 rfl rfl)
theorem dX2_invertKey_245 : decode cX2_invertKey 245 = .ok (.iaload, 1) := dk_46 (dk_at dksX2_invertKey_10 9 rfl rfl)
theorem dX2_invertKey_246 : decode cX2_invertKey 246 = .ok (.istore_n 2, 1) := dk_61 (dk_at dksX2_invertKey_10 10 rfl rfl)
theorem dX2_invertKey_247 : decode cX2_invertKey 247 = .ok (.aload_n 1, 1) := dk_43 (dk_at dksX2_invertKey_10 11 rfl rfl)
theorem dX2_invertKey_248 : decode cX2_invertKey 248 = .ok (.iload 8, 2) := dk_21 8 (dk_at dksX2_invertKey_10 12 rfl rfl)
theorem dX2_invertKey_250 : decode cX2_invertKey 250 = .ok (.iinc 8 1, 3) := dk_132 8 1 (dk_at dksX2_invertKey_10 14 rfl rfl)
theorem dX2_invertKey_253 : decode cX2_invertKey 253 = .ok (.iaload, 1) := dk_46 (dk_at dksX2_invertKey_10 17 rfl rfl)
theorem dX2_invertKey_254 : decode cX2_invertKey 254 = .ok (.istore_n 3, 1) := dk_62 (dk_at dksX2_invertKey_10 18 rfl rfl)
theorem dX2_invertKey_255 : decode cX2_invertKey 255 = .ok (.aload 7, 2) := dk_25 7 (dk_at dksX2_invertKey_10 19 rfl rfl)
theorem dX2_invertKey_257 : decode cX2_invertKey 257 = .ok (.iinc 6 (-1), 3) := dk_132 6 255 (dk_at dksX2_invertKey_10 21 rfl rfl)
theorem dX2_invertKey_260 : decode cX2_invertKey 260 = .ok (.iload 6, 2) := dk_21 6 (dk_at dksX2_invertKey_11 0 rfl rfl)
theorem dX2_invertKey_262 : decode cX2_invertKey 262 = .ok (.iload_n 3, 1) := dk_29 (dk_at dksX2_invertKey_11 2 rfl rfl)
theorem dX2_invertKey_263 : decode cX2_invertKey 263 = .ok (.iastore, 1) := dk_79 (dk_at dksX2_invertKey_11 3 rfl rfl)
theorem dX2_invertKey_264 : decode cX2_invertKey 264 = .ok (.aload 7, 2) := dk_25 7 (dk_at dksX2_invertKey_11 4 rfl rfl)
theorem dX2_invertKey_266 : decode cX2_invertKey 266 = .ok (.iinc 6 (-1), 3) := dk_132 6 255 (dk_at dksX2_invertKey_11 6 rfl rfl)
theorem dX2_invertKey_269 : decode cX2_invertKey 269 = .ok (.iload 6, 2) := dk_21 6 (dk_at dksX2_invertKey_11 9 rfl rfl)
theorem dX2_invertKey_271 : decode cX2_invertKey 271 = .ok (.iload_n 2, 1) := dk_28 (dk_at dksX2_invertKey_11 11 rfl rfl)
theorem dX2_invertKey_272 : decode cX2_invertKey 272 = .ok (.iastore, 1) := dk_79 (dk_at dksX2_invertKey_11 12 rfl rfl)
theorem dX2_invertKey_273 : decode cX2_invertKey 273 = .ok (.aload_n 0, 1) := dk_42 (dk_at dksX2_invertKey_11 13 rfl rfl)
theorem dX2_invertKey_274 : decode cX2_invertKey 274 = .ok (.aload_n 1, 1) := dk_43 (dk_at dksX2_invertKey_11 14 rfl rfl)
theorem dX2_invertKey_275 : decode cX2_invertKey 275 = .ok (.iload 8, 2) := dk_21 8 (dk_at dksX2_invertKey_11 15 rfl rfl)
theorem dX2_invertKey_277 : decode cX2_invertKey 277 = .ok (.iinc 8 1, 3) := dk_132 8 1 (dk_at dksX2_invertKey_11 17 rfl rfl)
theorem dX2_invertKey_280 : decode cX2_invertKey 280 = .ok (.iaload, 1) := dk_46 (dk_at dksX2_invertKey_11 20 rfl rfl)
theorem dX2_invertKey_281 : decode cX2_invertKey 281 = .ok (.invokevirtual 74, 3) := dk_182 0 74 (dk_at dksX2_invertKey_11 21 rfl rfl)
theorem dX2_invertKey_284 : decode cX2_invertKey 284 = .ok (.istore_n 2, 1) := dk_61 (dk_at dksX2_invertKey_12 0 rfl rfl)
theorem dX2_invertKey_285 : decode cX2_invertKey 285 = .ok (.aload_n 0, 1) := dk_42 (dk_at dksX2_invertKey_12 1 rfl rfl)
theorem dX2_invertKey_286 : decode cX2_invertKey 286 = .ok (.aload_n 1, 1) := dk_43 (dk_at dksX2_invertKey_12 2 rfl rfl)
theorem dX2_invertKey_287 : decode cX2_invertKey 287 = .ok (.iload 8, 2) := dk_21 8 (dk_at dksX2_invertKey_12 3 rfl rfl)
theorem dX2_invertKey_289 : decode cX2_invertKey 289 = .ok (.iinc 8 1, 3) := dk_132 8 1 (dk_at dksX2_invertKey_12 5 rfl rfl)
theorem dX2_invertKey_292 : decode cX2_invertKey 292 = .ok (.iaload, 1) := dk_46 (dk_at dksX2_invertKey_12 8 rfl rfl)
theorem dX2_invertKey_293 : decode cX2_invertKey 293 = .ok (.invokevirtual 78, 3) := dk_182 0 78 (dk_at dksX2_invertKey_12 9 rfl rfl)
theorem dX2_invertKey_296 : decode cX2_invertKey 296 = .ok (.istore_n 3, 1) := dk_62 (dk_at dksX2_invertKey_12 12 rfl rfl)
theorem dX2_invertKey_297 : decode cX2_invertKey 297 = .ok (.aload_n 0, 1) := dk_42 (dk_at dksX2_invertKey_12 13 rfl rfl)
theorem dX2_invertKey_298 : decode cX2_invertKey 298 = .ok (.aload_n 1, 1) := dk_43 (dk_at dksX2_invertKey_12 14 rfl rfl)
theorem dX2_invertKey_299 : decode cX2_invertKey 299 = .ok (.iload 8, 2) := dk_21 8 (dk_at dksX2_invertKey_12 15 rfl rfl)
theorem dX2_invertKey_301 : decode cX2_invertKey 301 = .ok (.iinc 8 1, 3) := dk_132 8 1 (dk_at dksX2_invertKey_12 17 rfl rfl)
theorem dX2_invertKey_304 : decode cX2_invertKey 304 = .ok (.iaload, 1) := dk_46 (dk_at dksX2_invertKey_12 20 rfl rfl)
theorem dX2_invertKey_305 : decode cX2_invertKey 305 = .ok (.invokevirtual 78, 3) := dk_182 0 78 (dk_at dksX2_invertKey_12 21 rfl rfl)
theorem dX2_invertKey_308 : decode cX2_invertKey 308 = .ok (.istore 4, 2) := dk_54 4 (dk_at dksX2_invertKey_13 0 rfl rfl)
theorem dX2_invertKey_310 : decode cX2_invertKey 310 = .ok (.aload_n 0, 1) := dk_42 (dk_at dksX2_invertKey_13 2 rfl rfl)
theorem dX2_invertKey_311 : decode cX2_invertKey 311 = .ok (.aload_n 1, 1) := dk_43 (dk_at dksX2_invertKey_13 3 rfl rfl)
theorem dX2_invertKey_312 : decode cX2_invertKey 312 = .ok (.iload 8, 2) := dk_21 8 (dk_at dksX2_invertKey_13 4 rfl rfl)
theorem dX2_invertKey_314 : decode cX2_invertKey 314 = .ok (.iaload, 1) := dk_46 (dk_at dksX2_invertKey_13 6 rfl rfl)
theorem dX2_invertKey_315 : decode cX2_invertKey 315 = .ok (.invokevirtual 74, 3) := dk_182 0 74 (dk_at dksX2_invertKey_13 7 rfl rfl)
theorem dX2_invertKey_318 : decode cX2_invertKey 318 = .ok (.istore 5, 2) := dk_54 5 (dk_at dksX2_invertKey_13 10 rfl rfl)
theorem dX2_invertKey_320 : decode cX2_invertKey 320 = .ok (.aload 7, 2) := dk_25 7 (dk_at dksX2_invertKey_13 12 rfl rfl)
theorem dX2_invertKey_322 : decode cX2_invertKey 322 = .ok (.iinc 6 (-1), 3) := dk_132 6 255 (dk_at dksX2_invertKey_13 14 rfl rfl)
theorem dX2_invertKey_325 : decode cX2_invertKey 325 = .ok (.iload 6, 2) := dk_21 6 (dk_at dksX2_invertKey_13 17 rfl rfl)
theorem dX2_invertKey_327 : decode cX2_invertKey 327 = .ok (.iload 5, 2) := dk_21 5 (dk_at dksX2_invertKey_13 19 rfl rfl)
theorem dX2_invertKey_329 : decode cX2_invertKey 329 = .ok (.iastore, 1) := dk_79 (dk_at dksX2_invertKey_13 21 rfl rfl)
theorem dX2_invertKey_330 : decode cX2_invertKey 330 = .ok (.aload 7, 2) := dk_25 7 (dk_at dksX2_invertKey_13 22 rfl rfl)
theorem dX2_invertKey_332 : decode cX2_invertKey 332 = .ok (.iinc 6 (-1), 3) := dk_132 6 255 (dk_at dksX2_invertKey_14 0 rfl rfl)
theorem dX2_invertKey_335 : decode cX2_invertKey 335 = .ok (.iload 6, 2) := dk_21 6 (dk_at dksX2_invertKey_14 3 rfl rfl)
theorem dX2_invertKey_337 : decode cX2_invertKey 337 = .ok (.iload 4, 2) := dk_21 4 (dk_at dksX2_invertKey_14 5 rfl rfl)
theorem dX2_invertKey_339 : decode cX2_invertKey 339 = .ok (.iastore, 1) := dk_79 (dk_at dksX2_invertKey_14 7 rfl rfl)
theorem dX2_invertKey_340 : decode cX2_invertKey 340 = .ok (.aload 7, 2) := dk_25 7 (dk_at dksX2_invertKey_14 8 rfl rfl)
theorem dX2_invertKey_342 : decode cX2_invertKey 342 = .ok (.iinc 6 (-1), 3) := dk_132 6 255 (dk_at dksX2_invertKey_14 10 rfl rfl)
theorem dX2_invertKey_345 : decode cX2_invertKey 345 = .ok (.iload 6, 2) := dk_21 6 (dk_at dksX2_invertKey_14 13 rfl rfl)
theorem dX2_invertKey_347 : decode cX2_invertKey 347 = .ok (.iload_n 3, 1) := dk_29 (dk_at dksX2_invertKey_14 15 rfl rfl)
theorem dX2_invertKey_348 : decode cX2_invertKey 348 = .ok (.iastore, 1) := dk_79 (dk_at dksX2_invertKey_14 16 rfl rfl)
theorem dX2_invertKey_349 : decode cX2_invertKey 349 = .ok (.aload 7, 2) := dk_25 7 (dk_at dksX2_invertKey_14 17 rfl rfl)
theorem dX2_invertKey_351 : decode cX2_invertKey 351 = .ok (.iinc 6 (-1), 3) := dk_132 6 255 (dk_at dksX2_invertKey_14 19 rfl rfl)
theorem dX2_invertKey_354 : decode cX2_invertKey 354 = .ok (.iload 6, 2) := dk_21 6 (dk_at dksX2_invertKey_14 22 rfl rfl)
theorem dX2_invertKey_356 : decode cX2_invertKey 356 = .ok (.iload_n 2, 1) := dk_28 (dk_at dksX2_invertKey_15 0 rfl rfl)
theorem dX2_invertKey_357 : decode cX2_invertKey 357 = .ok (.iastore, 1) := dk_79 (dk_at dksX2_invertKey_15 1 rfl rfl)
theorem dX2_invertKey_358 : decode cX2_invertKey 358 = .ok (.aload 7, 2) := dk_25 7 (dk_at dksX2_invertKey_15 2 rfl rfl)
theorem dX2_invertKey_360 : decode cX2_invertKey 360 = .ok (.areturn, 1) := dk_176 (dk_at dksX2_invertKey_15 4 rfl rfl)
abbrev cX2_mulInv : ByteArray := prog_4_method_9_code
def yX2_mulInv : MethodName := ⟨RX2, "mulInv", "(I)I"⟩
def dkwX2_mulInv_3 : List UInt8 := [96, 18, 55, 126, 62, 167, 255, 200, 4, 29, 100, 18, 55, 126, 172]
abbrev dktX2_mulInv_3 : List UInt8 := dkwX2_mulInv_3 ++ []
def dkwX2_mulInv_2 : List UInt8 := [27, 4, 160, 0, 5, 28, 172, 21, 5, 27, 108, 54, 4, 21, 5, 27, 112, 54, 5, 29, 28, 21, 4, 104]
abbrev dktX2_mulInv_2 : List UInt8 := dkwX2_mulInv_2 ++ dktX2_mulInv_3
def dkwX2_mulInv_1 : List UInt8 := [159, 0, 56, 27, 21, 5, 108, 54, 4, 27, 21, 5, 112, 60, 28, 29, 21, 4, 104, 96, 18, 55, 126, 61]
abbrev dktX2_mulInv_1 : List UInt8 := dkwX2_mulInv_1 ++ dktX2_mulInv_2
def dkwX2_mulInv_0 : List UInt8 := [27, 5, 162, 0, 5, 27, 172, 4, 61, 18, 54, 27, 108, 62, 18, 54, 27, 112, 54, 5, 21, 5, 4]
abbrev dktX2_mulInv_0 : List UInt8 := dkwX2_mulInv_0 ++ dktX2_mulInv_1
theorem dksX2_mulInv_0 : cX2_mulInv.data.toList.drop 0 = dktX2_mulInv_0 := by decide +kernel
theorem dksX2_mulInv_1 : cX2_mulInv.data.toList.drop 23 = dktX2_mulInv_1 := dk_seg dksX2_mulInv_0 23 rfl rfl
theorem dksX2_mulInv_2 : cX2_mulInv.data.toList.drop 47 = dktX2_mulInv_2 := dk_seg dksX2_mulInv_1 24 rfl rfl
theorem dksX2_mulInv_3 : cX2_mulInv.data.toList.drop 71 = dktX2_mulInv_3 := dk_seg dksX2_mulInv_2 24 rfl rfl
theorem dX2_mulInv_0 : decode cX2_mulInv 0 = .ok (.iload_n 1, 1) := dk_27 (dk_at dksX2_mulInv_0 0 rfl rfl)
theorem dX2_mulInv_1 : decode cX2_mulInv 1 = .ok (.iconst 2, 1) := dk_5 (dk_at dksX2_mulInv_0 1 rfl rfl)
theorem dX2_mulInv_2 : decode cX2_mulInv 2 = .ok (.if_icmp .ge 5, 3) := dk_162 0 5 (dk_at dksX2_mulInv_0 2 rfl rfl)
theorem dX2_mulInv_5 : decode cX2_mulInv 5 = .ok (.iload_n 1, 1) := dk_27 (dk_at dksX2_mulInv_0 5 rfl rfl)
theorem dX2_mulInv_6 : decode cX2_mulInv 6 = .ok (.ireturn, 1) := dk_172 (dk_at dksX2_mulInv_0 6 rfl rfl)
theorem dX2_mulInv_7 : decode cX2_mulInv 7 = .ok (.iconst 1, 1) := dk_4 (dk_at dksX2_mulInv_0 7 rfl rfl)
theorem dX2_mulInv_8 : decode cX2_mulInv 8 = .ok (.istore_n 2, 1) := dk_61 (dk_at dksX2_mulInv_0 8 rfl rfl)
theorem dX2_mulInv_9 : decode cX2_mulInv 9 = .ok (.ldc 54, 2) := dk_18 54 (dk_at dksX2_mulInv_0 9 rfl rfl)
theorem dX2_mulInv_11 : decode cX2_mulInv 11 = .ok (.iload_n 1, 1) := dk_27 (dk_at dksX2_mulInv_0 11 rfl rfl)
theorem dX2_mulInv_12 : decode cX2_mulInv 12 = .ok (.idiv, 1) := dk_108 (dk_at dksX2_mulInv_0 12 rfl rfl)
theorem dX2_mulInv_13 : decode cX2_mulInv 13 = .ok (.istore_n 3, 1) := dk_62 (dk_at dksX2_mulInv_0 13 rfl rfl)
theorem dX2_mulInv_14 : decode cX2_mulInv 14 = .ok (.ldc 54, 2) := dk_18 54 (dk_at dksX2_mulInv_0 14 rfl rfl)
theorem dX2_mulInv_16 : decode cX2_mulInv 16 = .ok (.iload_n 1, 1) := dk_27 (dk_at dksX2_mulInv_0 16 rfl rfl)
theorem dX2_mulInv_17 : decode cX2_mulInv 17 = .ok (.irem, 1) := dk_112 (dk_at dksX2_mulInv_0 17 rfl rfl)
theorem dX2_mulInv_18 : decode cX2_mulInv 18 = .ok (.istore 5, 2) := dk_54 5 (dk_at dksX2_mulInv_0 18 rfl rfl)
theorem dX2_mulInv_20 : decode cX2_mulInv 20 = .ok (.iload 5, 2) := dk_21 5 (dk_at dksX2_mulInv_0 20 rfl rfl)
theorem dX2_mulInv_22 : decode cX2_mulInv 22 = .ok (.iconst 1, 1) := dk_4 (dk_at dksX2_mulInv_0 22 rfl rfl)
theorem dX2_mulInv_23 : decode cX2_mulInv 23 = .ok (.if_icmp .eq 56, 3) := dk_159 0 56 (dk_at dksX2_mulInv_1 0 rfl rfl)
theorem dX2_mulInv_26 : decode cX2_mulInv 26 = .ok (.iload_n 1, 1) := dk_27 (dk_at dksX2_mulInv_1 3 rfl rfl)
theorem dX2_mulInv_27 : decode cX2_mulInv 27 = .ok (.iload 5, 2) := dk_21 5 (dk_at dksX2_mulInv_1 4 rfl rfl)
theorem dX2_mulInv_29 : decode cX2_mulInv 29 = .ok (.idiv, 1) := dk_108 (dk_at dksX2_mulInv_1 6 rfl rfl)
theorem dX2_mulInv_30 : decode cX2_mulInv 30 = .ok (.istore 4, 2) := dk_54 4 (dk_at dksX2_mulInv_1 7 rfl rfl)
theorem dX2_mulInv_32 : decode cX2_mulInv 32 = .ok (.iload_n 1, 1) := dk_27 (dk_at dksX2_mulInv_1 9 rfl rfl)
theorem dX2_mulInv_33 : decode cX2_mulInv 33 = .ok (.iload 5, 2) := dk_21 5 (dk_at dksX2_mulInv_1 10 rfl rfl)
theorem dX2_mulInv_35 : decode cX2_mulInv 35 = .ok (.irem, 1) := dk_112 (dk_at dksX2_mulInv_1 12 rfl rfl)
theorem dX2_mulInv_36 : decode cX2_mulInv 36 = .ok (.istore_n 1, 1) := dk_60 (dk_at dksX2_mulInv_1 13 rfl rfl)
theorem dX2_mulInv_37 : decode cX2_mulInv 37 = .ok (.iload_n 2, 1) := dk_28 (dk_at dksX2_mulInv_1 14 rfl rfl)
theorem dX2_mulInv_38 : decode cX2_mulInv 38 = .ok (.iload_n 3, 1) := dk_29 (dk_at dksX2_mulInv_1 15 rfl rfl)
theorem dX2_mulInv_39 : decode cX2_mulInv 39 = .ok (.iload 4, 2) := dk_21 4 (dk_at dksX2_mulInv_1 16 rfl rfl)
theorem dX2_mulInv_41 : decode cX2_mulInv 41 = .ok (.imul, 1) := dk_104 (dk_at dksX2_mulInv_1 18 rfl rfl)
theorem dX2_mulInv_42 : decode cX2_mulInv 42 = .ok (.iadd, 1) := dk_96 (dk_at dksX2_mulInv_1 19 rfl rfl)
theorem dX2_mulInv_43 : decode cX2_mulInv 43 = .ok (.ldc 55, 2) := dk_18 55 (dk_at dksX2_mulInv_1 20 rfl rfl)
theorem dX2_mulInv_45 : decode cX2_mulInv 45 = .ok (.iand, 1) := dk_126 (dk_at dksX2_mulInv_1 22 rfl rfl)
theorem dX2_mulInv_46 : decode cX2_mulInv 46 = .ok (.istore_n 2, 1) := dk_61 (dk_at dksX2_mulInv_1 23 rfl rfl)
theorem dX2_mulInv_47 : decode cX2_mulInv 47 = .ok (.iload_n 1, 1) := dk_27 (dk_at dksX2_mulInv_2 0 rfl rfl)
theorem dX2_mulInv_48 : decode cX2_mulInv 48 = .ok (.iconst 1, 1) := dk_4 (dk_at dksX2_mulInv_2 1 rfl rfl)
theorem dX2_mulInv_49 : decode cX2_mulInv 49 = .ok (.if_icmp .ne 5, 3) := dk_160 0 5 (dk_at dksX2_mulInv_2 2 rfl rfl)
theorem dX2_mulInv_52 : decode cX2_mulInv 52 = .ok (.iload_n 2, 1) := dk_28 (dk_at dksX2_mulInv_2 5 rfl rfl)
theorem dX2_mulInv_53 : decode cX2_mulInv 53 = .ok (.ireturn, 1) := dk_172 (dk_at dksX2_mulInv_2 6 rfl rfl)
theorem dX2_mulInv_54 : decode cX2_mulInv 54 = .ok (.iload 5, 2) := dk_21 5 (dk_at dksX2_mulInv_2 7 rfl rfl)
theorem dX2_mulInv_56 : decode cX2_mulInv 56 = .ok (.iload_n 1, 1) := dk_27 (dk_at dksX2_mulInv_2 9 rfl rfl)
theorem dX2_mulInv_57 : decode cX2_mulInv 57 = .ok (.idiv, 1) := dk_108 (dk_at dksX2_mulInv_2 10 rfl rfl)
theorem dX2_mulInv_58 : decode cX2_mulInv 58 = .ok (.istore 4, 2) := dk_54 4 (dk_at dksX2_mulInv_2 11 rfl rfl)
theorem dX2_mulInv_60 : decode cX2_mulInv 60 = .ok (.iload 5, 2) := dk_21 5 (dk_at dksX2_mulInv_2 13 rfl rfl)
theorem dX2_mulInv_62 : decode cX2_mulInv 62 = .ok (.iload_n 1, 1) := dk_27 (dk_at dksX2_mulInv_2 15 rfl rfl)
theorem dX2_mulInv_63 : decode cX2_mulInv 63 = .ok (.irem, 1) := dk_112 (dk_at dksX2_mulInv_2 16 rfl rfl)
theorem dX2_mulInv_64 : decode cX2_mulInv 64 = .ok (.istore 5, 2) := dk_54 5 (dk_at dksX2_mulInv_2 17 rfl rfl)
theorem dX2_mulInv_66 : decode cX2_mulInv 66 = .ok (.iload_n 3, 1) := dk_29 (dk_at dksX2_mulInv_2 19 rfl rfl)
theorem dX2_mulInv_67 : decode cX2_mulInv 67 = .ok (.iload_n 2, 1) := dk_28 (dk_at dksX2_mulInv_2 20 rfl rfl)
theorem dX2_mulInv_68 : decode cX2_mulInv 68 = .ok (.iload 4, 2) := dk_21 4 (dk_at dksX2_mulInv_2 21 rfl rfl)
theorem dX2_mulInv_70 : decode cX2_mulInv 70 = .ok (.imul, 1) := dk_104 (dk_at dksX2_mulInv_2 23 rfl rfl)
theorem dX2_mulInv_71 : decode cX2_mulInv 71 = .ok (.iadd, 1) := dk_96 (dk_at dksX2_mulInv_3 0 rfl rfl)
theorem dX2_mulInv_72 : decode cX2_mulInv 72 = .ok (.ldc 55, 2) := dk_18 55 (dk_at dksX2_mulInv_3 1 rfl rfl)
theorem dX2_mulInv_74 : decode cX2_mulInv 74 = .ok (.iand, 1) := dk_126 (dk_at dksX2_mulInv_3 3 rfl rfl)
theorem dX2_mulInv_75 : decode cX2_mulInv 75 = .ok (.istore_n 3, 1) := dk_62 (dk_at dksX2_mulInv_3 4 rfl rfl)
theorem dX2_mulInv_76 : decode cX2_mulInv 76 = .ok (.goto (-56), 3) := dk_167 255 200 (dk_at dksX2_mulInv_3 5 rfl rfl)
theorem dX2_mulInv_79 : decode cX2_mulInv 79 = .ok (.iconst 1, 1) := dk_4 (dk_at dksX2_mulInv_3 8 rfl rfl)
theorem dX2_mulInv_80 : decode cX2_mulInv 80 = .ok (.iload_n 3, 1) := dk_29 (dk_at dksX2_mulInv_3 9 rfl rfl)
theorem dX2_mulInv_81 : decode cX2_mulInv 81 = .ok (.isub, 1) := dk_100 (dk_at dksX2_mulInv_3 10 rfl rfl)
theorem dX2_mulInv_82 : decode cX2_mulInv 82 = .ok (.ldc 55, 2) := dk_18 55 (dk_at dksX2_mulInv_3 11 rfl rfl)
theorem dX2_mulInv_84 : decode cX2_mulInv 84 = .ok (.iand, 1) := dk_126 (dk_at dksX2_mulInv_3 13 rfl rfl)
theorem dX2_mulInv_85 : decode cX2_mulInv 85 = .ok (.ireturn, 1) := dk_172 (dk_at dksX2_mulInv_3 14 rfl rfl)
abbrev cX2_addInv : ByteArray := prog_4_method_10_code
def yX2_addInv : MethodName := ⟨RX2, "addInv", "(I)I"⟩
def dkwX2_addInv_0 : List UInt8 := [3, 27, 100, 18, 55, 126, 172]
abbrev dktX2_addInv_0 : List UInt8 := dkwX2_addInv_0 ++ []
theorem dksX2_addInv_0 : cX2_addInv.data.toList.drop 0 = dktX2_addInv_0 := by decide +kernel
theorem dX2_addInv_0 : decode cX2_addInv 0 = .ok (.iconst 0, 1) := dk_3 (dk_at dksX2_addInv_0 0 rfl rfl)
theorem dX2_addInv_1 : decode cX2_addInv 1 = .ok (.iload_n 1, 1) := dk_27 (dk_at dksX2_addInv_0 1 rfl rfl)
theorem dX2_addInv_2 : decode cX2_addInv 2 = .ok (.isub, 1) := dk_100 (dk_at dksX2_addInv_0 2 rfl rfl)
theorem dX2_addInv_3 : decode cX2_addInv 3 = .ok (.ldc 55, 2) := dk_18 55 (dk_at dksX2_addInv_0 3 rfl rfl)
theorem dX2_addInv_5 : decode cX2_addInv 5 = .ok (.iand, 1) := dk_126 (dk_at dksX2_addInv_0 5 rfl rfl)
theorem dX2_addInv_6 : decode cX2_addInv 6 = .ok (.ireturn, 1) := dk_172 (dk_at dksX2_addInv_0 6 rfl rfl)
abbrev cX2_processBlock : ByteArray := prog_4_method_3_code
def yX2_processBlock : MethodName := ⟨RX2, "processBlock", "([BI[BI)I"⟩
def dkwX2_processBlock_3 : List UInt8 := [16, 8, 172]
abbrev dktX2_processBlock_3 : List UInt8 := dkwX2_processBlock_3 ++ []
def dkwX2_processBlock_2 : List UInt8 := [187, 0, 44, 89, 18, 46, 183, 0, 48, 191, 42, 42, 180, 0, 7, 43, 28, 45, 21, 4, 182, 0, 49]
abbrev dktX2_processBlock_2 : List UInt8 := dkwX2_processBlock_2 ++ dktX2_processBlock_3
def dkwX2_processBlock_1 : List UInt8 := [164, 0, 13, 187, 0, 39, 89, 18, 41, 183, 0, 43, 191, 21, 4, 16, 8, 96, 45, 190, 164, 0, 13]
abbrev dktX2_processBlock_1 : List UInt8 := dkwX2_processBlock_1 ++ dktX2_processBlock_2
def dkwX2_processBlock_0 : List UInt8 := [42, 180, 0, 7, 199, 0, 13, 187, 0, 34, 89, 18, 36, 183, 0, 38, 191, 28, 16, 8, 96, 43, 190]
abbrev dktX2_processBlock_0 : List UInt8 := dkwX2_processBlock_0 ++ dktX2_processBlock_1
theorem dksX2_processBlock_0 : cX2_processBlock.data.toList.drop 0 = dktX2_processBlock_0 := by decide +kernel
theorem dksX2_processBlock_1 : cX2_processBlock.data.toList.drop 23 = dktX2_processBlock_1 := dk_seg dksX2_processBlock_0 23 rfl rfl
theorem dksX2_processBlock_2 : cX2_processBlock.data.toList.drop 46 = dktX2_processBlock_2 := dk_seg dksX2_processBlock_1 23 rfl rfl
theorem dksX2_processBlock_3 : cX2_processBlock.data.toList.drop 69 = dktX2_processBlock_3 := dk_seg dksX2_processBlock_2 23 rfl rfl
theorem dX2_processBlock_0 : decode cX2_processBlock 0 = .ok (.aload_n 0, 1) := dk_42 (dk_at dksX2_processBlock_0 0 rfl rfl)
theorem dX2_processBlock_1 : decode cX2_processBlock 1 = .ok (.getfield 7, 3) := dk_180 0 7 (dk_at dksX2_processBlock_0 1 rfl rfl)
theorem dX2_processBlock_4 : decode cX2_processBlock 4 = .ok (.ifnonnull 13, 3) := dk_199 0 13 (dk_at dksX2_processBlock_0 4 rfl rfl)
theorem dX2_processBlock_7 : decode cX2_processBlock 7 = .ok (.new 34, 3) := dk_187 0 34 (dk_at dksX2_processBlock_0 7 rfl rfl)
theorem dX2_processBlock_10 : decode cX2_processBlock 10 = .ok (.dup, 1) := dk_89 (dk_at dksX2_processBlock_0 10 rfl rfl)
theorem dX2_processBlock_11 : decode cX2_processBlock 11 = .ok (.ldc 36, 2) := dk_18 36 (dk_at dksX2_processBlock_0 11 rfl rfl)
theorem dX2_processBlock_13 : decode cX2_processBlock 13 = .ok (.invokespecial 38, 3) := dk_183 0 38 (dk_at dksX2_processBlock_0 13 rfl rfl)
theorem dX2_processBlock_16 : decode cX2_processBlock 16 = .ok (.athrow, 1) := dk_191 (dk_at dksX2_processBlock_0 16 rfl rfl)
theorem dX2_processBlock_17 : decode cX2_processBlock 17 = .ok (.iload_n 2, 1) := dk_28 (dk_at dksX2_processBlock_0 17 rfl rfl)
theorem dX2_processBlock_18 : decode cX2_processBlock 18 = .ok (.bipush 8, 2) := dk_16 8 (dk_at dksX2_processBlock_0 18 rfl rfl)
theorem dX2_processBlock_20 : decode cX2_processBlock 20 = .ok (.iadd, 1) := dk_96 (dk_at dksX2_processBlock_0 20 rfl rfl)
theorem dX2_processBlock_21 : decode cX2_processBlock 21 = .ok (.aload_n 1, 1) := dk_43 (dk_at dksX2_processBlock_0 21 rfl rfl)
theorem dX2_processBlock_22 : decode cX2_processBlock 22 = .ok (.arraylength, 1) := dk_190 (dk_at dksX2_processBlock_0 22 rfl rfl)
theorem dX2_processBlock_23 : decode cX2_processBlock 23 = .ok (.if_icmp .le 13, 3) := dk_164 0 13 (dk_at dksX2_processBlock_1 0 rfl rfl)
theorem dX2_processBlock_26 : decode cX2_processBlock 26 = .ok (.new 39, 3) := dk_187 0 39 (dk_at dksX2_processBlock_1 3 rfl rfl)
theorem dX2_processBlock_29 : decode cX2_processBlock 29 = .ok (.dup, 1) := dk_89 (dk_at dksX2_processBlock_1 6 rfl rfl)
theorem dX2_processBlock_30 : decode cX2_processBlock 30 = .ok (.ldc 41, 2) := dk_18 41 (dk_at dksX2_processBlock_1 7 rfl rfl)
theorem dX2_processBlock_32 : decode cX2_processBlock 32 = .ok (.invokespecial 43, 3) := dk_183 0 43 (dk_at dksX2_processBlock_1 9 rfl rfl)
theorem dX2_processBlock_35 : decode cX2_processBlock 35 = .ok (.athrow, 1) := dk_191 (dk_at dksX2_processBlock_1 12 rfl rfl)
theorem dX2_processBlock_36 : decode cX2_processBlock 36 = .ok (.iload 4, 2) := dk_21 4 (dk_at dksX2_processBlock_1 13 rfl rfl)
theorem dX2_processBlock_38 : decode cX2_processBlock 38 = .ok (.bipush 8, 2) := dk_16 8 (dk_at dksX2_processBlock_1 15 rfl rfl)
theorem dX2_processBlock_40 : decode cX2_processBlock 40 = .ok (.iadd, 1) := dk_96 (dk_at dksX2_processBlock_1 17 rfl rfl)
theorem dX2_processBlock_41 : decode cX2_processBlock 41 = .ok (.aload_n 3, 1) := dk_45 (dk_at dksX2_processBlock_1 18 rfl rfl)
theorem dX2_processBlock_42 : decode cX2_processBlock 42 = .ok (.arraylength, 1) := dk_190 (dk_at dksX2_processBlock_1 19 rfl rfl)
theorem dX2_processBlock_43 : decode cX2_processBlock 43 = .ok (.if_icmp .le 13, 3) := dk_164 0 13 (dk_at dksX2_processBlock_1 20 rfl rfl)
theorem dX2_processBlock_46 : decode cX2_processBlock 46 = .ok (.new 44, 3) := dk_187 0 44 (dk_at dksX2_processBlock_2 0 rfl rfl)
theorem dX2_processBlock_49 : decode cX2_processBlock 49 = .ok (.dup, 1) := dk_89 (dk_at dksX2_processBlock_2 3 rfl rfl)
theorem dX2_processBlock_50 : decode cX2_processBlock 50 = .ok (.ldc 46, 2) := dk_18 46 (dk_at dksX2_processBlock_2 4 rfl rfl)
theorem dX2_processBlock_52 : decode cX2_processBlock 52 = .ok (.invokespecial 48, 3) := dk_183 0 48 (dk_at dksX2_processBlock_2 6 rfl rfl)
theorem dX2_processBlock_55 : decode cX2_processBlock 55 = .ok (.athrow, 1) := dk_191 (dk_at dksX2_processBlock_2 9 rfl rfl)
theorem dX2_processBlock_56 : decode cX2_processBlock 56 = .ok (.aload_n 0, 1) := dk_42 (dk_at dksX2_processBlock_2 10 rfl rfl)
theorem dX2_processBlock_57 : decode cX2_processBlock 57 = .ok (.aload_n 0, 1) := dk_42 (dk_at dksX2_processBlock_2 11 rfl rfl)
theorem dX2_processBlock_58 : decode cX2_processBlock 58 = .ok (.getfield 7, 3) := dk_180 0 7 (dk_at dksX2_processBlock_2 12 rfl rfl)
theorem dX2_processBlock_61 : decode cX2_processBlock 61 = .ok (.aload_n 1, 1) := dk_43 (dk_at dksX2_processBlock_2 15 rfl rfl)
theorem dX2_processBlock_62 : decode cX2_processBlock 62 = .ok (.iload_n 2, 1) := dk_28 (dk_at dksX2_processBlock_2 16 rfl rfl)
theorem dX2_processBlock_63 : decode cX2_processBlock 63 = .ok (.aload_n 3, 1) := dk_45 (dk_at dksX2_processBlock_2 17 rfl rfl)
theorem dX2_processBlock_64 : decode cX2_processBlock 64 = .ok (.iload 4, 2) := dk_21 4 (dk_at dksX2_processBlock_2 18 rfl rfl)
theorem dX2_processBlock_66 : decode cX2_processBlock 66 = .ok (.invokevirtual 49, 3) := dk_182 0 49 (dk_at dksX2_processBlock_2 20 rfl rfl)
theorem dX2_processBlock_69 : decode cX2_processBlock 69 = .ok (.bipush 8, 2) := dk_16 8 (dk_at dksX2_processBlock_3 0 rfl rfl)
theorem dX2_processBlock_71 : decode cX2_processBlock 71 = .ok (.ireturn, 1) := dk_172 (dk_at dksX2_processBlock_3 2 rfl rfl)
abbrev cX2_ideaFunc : ByteArray := prog_4_method_7_code
def yX2_ideaFunc : MethodName := ⟨RX2, "ideaFunc", "([I[BI[BI)V"⟩
def dkwX2_ideaFunc_13 : List UInt8 := [21, 5, 16, 6, 96, 182, 0, 64, 177]
abbrev dktX2_ideaFunc_13 : List UInt8 := dkwX2_ideaFunc_13 ++ []
def dkwX2_ideaFunc_12 : List UInt8 := [96, 25, 4, 21, 5, 7, 96, 182, 0, 64, 42, 42, 21, 9, 43, 21, 12, 46, 182, 0, 60, 25, 4]
abbrev dktX2_ideaFunc_12 : List UInt8 := dkwX2_ideaFunc_12 ++ dktX2_ideaFunc_13
def dkwX2_ideaFunc_11 : List UInt8 := [132, 12, 1, 46, 96, 25, 4, 21, 5, 5, 96, 182, 0, 64, 42, 21, 7, 43, 21, 12, 132, 12, 1, 46]
abbrev dktX2_ideaFunc_11 : List UInt8 := dkwX2_ideaFunc_11 ++ dktX2_ideaFunc_12
def dkwX2_ideaFunc_10 : List UInt8 := [43, 21, 12, 132, 12, 1, 46, 182, 0, 60, 25, 4, 21, 5, 182, 0, 64, 42, 21, 8, 43, 21, 12]
abbrev dktX2_ideaFunc_10 : List UInt8 := dkwX2_ideaFunc_10 ++ dktX2_ideaFunc_11
def dkwX2_ideaFunc_9 : List UInt8 := [21, 7, 21, 11, 130, 54, 7, 21, 8, 21, 10, 130, 54, 8, 132, 13, 1, 167, 255, 70, 42, 42, 21, 6]
abbrev dktX2_ideaFunc_9 : List UInt8 := dkwX2_ideaFunc_9 ++ dktX2_ideaFunc_10
def dkwX2_ideaFunc_8 : List UInt8 := [96, 54, 8, 21, 8, 18, 55, 126, 54, 8, 21, 6, 21, 7, 130, 54, 6, 21, 9, 21, 8, 130, 54, 9]
abbrev dktX2_ideaFunc_8 : List UInt8 := dkwX2_ideaFunc_8 ++ dktX2_ideaFunc_9
def dkwX2_ideaFunc_7 : List UInt8 := [18, 55, 126, 54, 7, 42, 21, 7, 43, 21, 12, 132, 12, 1, 46, 182, 0, 60, 54, 7, 21, 8, 21, 7]
abbrev dktX2_ideaFunc_7 : List UInt8 := dkwX2_ideaFunc_7 ++ dktX2_ideaFunc_8
def dkwX2_ideaFunc_6 : List UInt8 := [42, 21, 8, 43, 21, 12, 132, 12, 1, 46, 182, 0, 60, 54, 8, 21, 7, 21, 8, 96, 54, 7, 21, 7]
abbrev dktX2_ideaFunc_6 : List UInt8 := dkwX2_ideaFunc_6 ++ dktX2_ideaFunc_7
def dkwX2_ideaFunc_5 : List UInt8 := [54, 9, 21, 7, 54, 10, 21, 8, 54, 11, 21, 8, 21, 6, 130, 54, 8, 21, 7, 21, 9, 130, 54, 7]
abbrev dktX2_ideaFunc_5 : List UInt8 := dkwX2_ideaFunc_5 ++ dktX2_ideaFunc_6
def dkwX2_ideaFunc_4 : List UInt8 := [46, 96, 54, 8, 21, 8, 18, 55, 126, 54, 8, 42, 21, 9, 43, 21, 12, 132, 12, 1, 46, 182, 0, 60]
abbrev dktX2_ideaFunc_4 : List UInt8 := dkwX2_ideaFunc_4 ++ dktX2_ideaFunc_5
def dkwX2_ideaFunc_3 : List UInt8 := [21, 12, 132, 12, 1, 46, 96, 54, 7, 21, 7, 18, 55, 126, 54, 7, 21, 8, 43, 21, 12, 132, 12, 1]
abbrev dktX2_ideaFunc_3 : List UInt8 := dkwX2_ideaFunc_3 ++ dktX2_ideaFunc_4
def dkwX2_ideaFunc_2 : List UInt8 := [16, 8, 162, 0, 185, 42, 21, 6, 43, 21, 12, 132, 12, 1, 46, 182, 0, 60, 54, 6, 21, 7, 43]
abbrev dktX2_ideaFunc_2 : List UInt8 := dkwX2_ideaFunc_2 ++ dktX2_ideaFunc_3
def dkwX2_ideaFunc_1 : List UInt8 := [7, 96, 182, 0, 56, 54, 8, 42, 44, 29, 16, 6, 96, 182, 0, 56, 54, 9, 3, 54, 13, 21, 13]
abbrev dktX2_ideaFunc_1 : List UInt8 := dkwX2_ideaFunc_1 ++ dktX2_ideaFunc_2
def dkwX2_ideaFunc_0 : List UInt8 := [3, 54, 12, 42, 44, 29, 182, 0, 56, 54, 6, 42, 44, 29, 5, 96, 182, 0, 56, 54, 7, 42, 44, 29]
abbrev dktX2_ideaFunc_0 : List UInt8 := dkwX2_ideaFunc_0 ++ dktX2_ideaFunc_1
theorem dksX2_ideaFunc_0 : cX2_ideaFunc.data.toList.drop 0 = dktX2_ideaFunc_0 := by decide +kernel
theorem dksX2_ideaFunc_1 : cX2_ideaFunc.data.toList.drop 24 = dktX2_ideaFunc_1 := dk_seg dksX2_ideaFunc_0 24 rfl rfl
theorem dksX2_ideaFunc_2 : cX2_ideaFunc.data.toList.drop 47 = dktX2_ideaFunc_2 := dk_seg dksX2_ideaFunc_1 23 rfl rfl
theorem dksX2_ideaFunc_3 : cX2_ideaFunc.data.toList.drop 70 = dktX2_ideaFunc_3 := dk_seg dksX2_ideaFunc_2 23 rfl rfl
theorem dksX2_ideaFunc_4 : cX2_ideaFunc.data.toList.drop 94 = dktX2_ideaFunc_4 := dk_seg dksX2_ideaFunc_3 24 rfl rfl
theorem dksX2_ideaFunc_5 : cX2_ideaFunc.data.toList.drop 118 = dktX2_ideaFunc_5 := dk_seg dksX2_ideaFunc_4 24 rfl rfl
theorem dksX2_ideaFunc_6 : cX2_ideaFunc.data.toList.drop 142 = dktX2_ideaFunc_6 := dk_seg dksX2_ideaFunc_5 24 rfl rfl
theorem dksX2_ideaFunc_7 : cX2_ideaFunc.data.toList.drop 166 = dktX2_ideaFunc_7 := dk_seg dksX2_ideaFunc_6 24 rfl rfl
theorem dksX2_ideaFunc_8 : cX2_ideaFunc.data.toList.drop 190 = dktX2_ideaFunc_8 := dk_seg dksX2_ideaFunc_7 24 rfl rfl
theorem dksX2_ideaFunc_9 : cX2_ideaFunc.data.toList.drop 214 = dktX2_ideaFunc_9 := dk_seg dksX2_ideaFunc_8 24 rfl rfl
theorem dksX2_ideaFunc_10 : cX2_ideaFunc.data.toList.drop 238 = dktX2_ideaFunc_10 := dk_seg dksX2_ideaFunc_9 24 rfl rfl
theorem dksX2_ideaFunc_11 : cX2_ideaFunc.data.toList.drop 261 = dktX2_ideaFunc_11 := dk_seg dksX2_ideaFunc_10 23 rfl rfl
theorem dksX2_ideaFunc_12 : cX2_ideaFunc.data.toList.drop 285 = dktX2_ideaFunc_12 := dk_seg dksX2_ideaFunc_11 24 rfl rfl
theorem dksX2_ideaFunc_13 : cX2_ideaFunc.data.toList.drop 308 = dktX2_ideaFunc_13 := dk_seg dksX2_ideaFunc_12 23 rfl rfl
theorem dX2_ideaFunc_0 : decode cX2_ideaFunc 0 = .ok (.iconst 0, 1) := dk_3 (dk_at dksX2_ideaFunc_0 0 rfl rfl)
theorem dX2_ideaFunc_1 : decode cX2_ideaFunc 1 = .ok (.istore 12, 2) := dk_54 12 (dk_at dksX2_ideaFunc_0 1 rfl rfl)
theorem dX2_ideaFunc_3 : decode cX2_ideaFunc 3 = .ok (.aload_n 0, 1) := dk_42 (dk_at dksX2_ideaFunc_0 3 rfl rfl)
theorem dX2_ideaFunc_4 : decode cX2_ideaFunc 4 = .ok (.aload_n 2, 1) := dk_44 (dk_at dksX2_ideaFunc_0 4 rfl rfl)
theorem dX2_ideaFunc_5 : decode cX2_ideaFunc 5 = .ok (.iload_n 3, 1) := dk_29 (dk_at dksX2_ideaFunc_0 5 rfl rfl)
theorem dX2_ideaFunc_6 : decode cX2_ideaFunc 6 = .ok (.invokevirtual 56, 3) := dk_182 0 56 (dk_at dksX2_ideaFunc_0 6 rfl rfl)
theorem dX2_ideaFunc_9 : decode cX2_ideaFunc 9 = .ok (.istore 6, 2) := dk_54 6 (dk_at dksX2_ideaFunc_0 9 rfl rfl)
theorem dX2_ideaFunc_11 : decode cX2_ideaFunc 11 = .ok (.aload_n 0, 1) := dk_42 (dk_at dksX2_ideaFunc_0 11 rfl rfl)
theorem dX2_ideaFunc_12 : decode cX2_ideaFunc 12 = .ok (.aload_n 2, 1) := dk_44 (dk_at dksX2_ideaFunc_0 12 rfl rfl)
theorem dX2_ideaFunc_13 : decode cX2_ideaFunc 13 = .ok (.iload_n 3, 1) := dk_29 (dk_at dksX2_ideaFunc_0 13 rfl rfl)
theorem dX2_ideaFunc_14 : decode cX2_ideaFunc 14 = .ok (.iconst 2, 1) := dk_5 (dk_at dksX2_ideaFunc_0 14 rfl rfl)
theorem dX2_ideaFunc_15 : decode cX2_ideaFunc 15 = .ok (.iadd, 1) := dk_96 (dk_at dksX2_ideaFunc_0 15 rfl rfl)
theorem dX2_ideaFunc_16 : decode cX2_ideaFunc 16 = .ok (.invokevirtual 56, 3) := dk_182 0 56 (dk_at dksX2_ideaFunc_0 16 rfl rfl)
theorem dX2_ideaFunc_19 : decode cX2_ideaFunc 19 = .ok (.istore 7, 2) := dk_54 7 (dk_at dksX2_ideaFunc_0 19 rfl rfl)
theorem dX2_ideaFunc_21 : decode cX2_ideaFunc 21 = .ok (.aload_n 0, 1) := dk_42 (dk_at dksX2_ideaFunc_0 21 rfl rfl)
theorem dX2_ideaFunc_22 : decode cX2_ideaFunc 22 = .ok (.aload_n 2, 1) := dk_44 (dk_at dksX2_ideaFunc_0 22 rfl rfl)
theorem dX2_ideaFunc_23 : decode cX2_ideaFunc 23 = .ok (.iload_n 3, 1) := dk_29 (dk_at dksX2_ideaFunc_0 23 rfl rfl)
theorem dX2_ideaFunc_24 : decode cX2_ideaFunc 24 = .ok (.iconst 4, 1) := dk_7 (dk_at dksX2_ideaFunc_1 0 rfl rfl)
theorem dX2_ideaFunc_25 : decode cX2_ideaFunc 25 = .ok (.iadd, 1) := dk_96 (dk_at dksX2_ideaFunc_1 1 rfl rfl)
theorem dX2_ideaFunc_26 : decode cX2_ideaFunc 26 = .ok (.invokevirtual 56, 3) := dk_182 0 56 (dk_at dksX2_ideaFunc_1 2 rfl rfl)
theorem dX2_ideaFunc_29 : decode cX2_ideaFunc 29 = .ok (.istore 8, 2) := dk_54 8 (dk_at dksX2_ideaFunc_1 5 rfl rfl)
theorem dX2_ideaFunc_31 : decode cX2_ideaFunc 31 = .ok (.aload_n 0, 1) := dk_42 (dk_at dksX2_ideaFunc_1 7 rfl rfl)
theorem dX2_ideaFunc_32 : decode cX2_ideaFunc 32 = .ok (.aload_n 2, 1) := dk_44 (dk_at dksX2_ideaFunc_1 8 rfl rfl)
theorem dX2_ideaFunc_33 : decode cX2_ideaFunc 33 = .ok (.iload_n 3, 1) := dk_29 (dk_at dksX2_ideaFunc_1 9 rfl rfl)
theorem dX2_ideaFunc_34 : decode cX2_ideaFunc 34 = .ok (.bipush 6, 2) := dk_16 6 (dk_at dksX2_ideaFunc_1 10 rfl rfl)
theorem dX2_ideaFunc_36 : decode cX2_ideaFunc 36 = .ok (.iadd, 1) := dk_96 (dk_at dksX2_ideaFunc_1 12 rfl rfl)
theorem dX2_ideaFunc_37 : decode cX2_ideaFunc 37 = .ok (.invokevirtual 56, 3) := dk_182 0 56 (dk_at dksX2_ideaFunc_1 13 rfl rfl)
theorem dX2_ideaFunc_40 : decode cX2_ideaFunc 40 = .ok (.istore 9, 2) := dk_54 9 (dk_at dksX2_ideaFunc_1 16 rfl rfl)
theorem dX2_ideaFunc_42 : decode cX2_ideaFunc 42 = .ok (.iconst 0, 1) := dk_3 (dk_at dksX2_ideaFunc_1 18 rfl rfl)
theorem dX2_ideaFunc_43 : decode cX2_ideaFunc 43 = .ok (.istore 13, 2) := dk_54 13 (dk_at dksX2_ideaFunc_1 19 rfl rfl)
theorem dX2_ideaFunc_45 : decode cX2_ideaFunc 45 = .ok (.iload 13, 2) := dk_21 13 (dk_at dksX2_ideaFunc_1 21 rfl rfl)
theorem dX2_ideaFunc_47 : decode cX2_ideaFunc 47 = .ok (.bipush 8, 2) := dk_16 8 (dk_at dksX2_ideaFunc_2 0 rfl rfl)
theorem dX2_ideaFunc_49 : decode cX2_ideaFunc 49 = .ok (.if_icmp .ge 185, 3) := dk_162 0 185 (dk_at dksX2_ideaFunc_2 2 rfl rfl)
theorem dX2_ideaFunc_52 : decode cX2_ideaFunc 52 = .ok (.aload_n 0, 1) := dk_42 (dk_at dksX2_ideaFunc_2 5 rfl rfl)
theorem dX2_ideaFunc_53 : decode cX2_ideaFunc 53 = .ok (.iload 6, 2) := dk_21 6 (dk_at dksX2_ideaFunc_2 6 rfl rfl)
theorem dX2_ideaFunc_55 : decode cX2_ideaFunc 55 = .ok (.aload_n 1, 1) := dk_43 (dk_at dksX2_ideaFunc_2 8 rfl rfl)
theorem dX2_ideaFunc_56 : decode cX2_ideaFunc 56 = .ok (.iload 12, 2) := dk_21 12 (dk_at dksX2_ideaFunc_2 9 rfl rfl)
theorem dX2_ideaFunc_58 : decode cX2_ideaFunc 58 = .ok (.iinc 12 1, 3) := dk_132 12 1 (dk_at dksX2_ideaFunc_2 11 rfl rfl)
theorem dX2_ideaFunc_61 : decode cX2_ideaFunc 61 = .ok (.iaload, 1) := dk_46 (dk_at dksX2_ideaFunc_2 14 rfl rfl)
theorem dX2_ideaFunc_62 : decode cX2_ideaFunc 62 = .ok (.invokevirtual 60, 3) := dk_182 0 60 (dk_at dksX2_ideaFunc_2 15 rfl rfl)
theorem dX2_ideaFunc_65 : decode cX2_ideaFunc 65 = .ok (.istore 6, 2) := dk_54 6 (dk_at dksX2_ideaFunc_2 18 rfl rfl)
theorem dX2_ideaFunc_67 : decode cX2_ideaFunc 67 = .ok (.iload 7, 2) := dk_21 7 (dk_at dksX2_ideaFunc_2 20 rfl rfl)
theorem dX2_ideaFunc_69 : decode cX2_ideaFunc 69 = .ok (.aload_n 1, 1) := dk_43 (dk_at dksX2_ideaFunc_2 22 rfl rfl)
theorem dX2_ideaFunc_70 : decode cX2_ideaFunc 70 = .ok (.iload 12, 2) := dk_21 12 (dk_at dksX2_ideaFunc_3 0 rfl rfl)
theorem dX2_ideaFunc_72 : decode cX2_ideaFunc 72 = .ok (.iinc 12 1, 3) := dk_132 12 1 (dk_at dksX2_ideaFunc_3 2 rfl rfl)
theorem dX2_ideaFunc_75 : decode cX2_ideaFunc 75 = .ok (.iaload, 1) := dk_46 (dk_at dksX2_ideaFunc_3 5 rfl rfl)
theorem dX2_ideaFunc_76 : decode cX2_ideaFunc 76 = .ok (.iadd, 1) := dk_96 (dk_at dksX2_ideaFunc_3 6 rfl rfl)
theorem dX2_ideaFunc_77 : decode cX2_ideaFunc 77 = .ok (.istore 7, 2) := dk_54 7 (dk_at dksX2_ideaFunc_3 7 rfl rfl)
theorem dX2_ideaFunc_79 : decode cX2_ideaFunc 79 = .ok (.iload 7, 2) := dk_21 7 (dk_at dksX2_ideaFunc_3 9 rfl rfl)
theorem dX2_ideaFunc_81 : decode cX2_ideaFunc 81 = .ok (.ldc 55, 2) := dk_18 55 (dk_at dksX2_ideaFunc_3 11 rfl rfl)
theorem dX2_ideaFunc_83 : decode cX2_ideaFunc 83 = .ok (.iand, 1) := dk_126 (dk_at dksX2_ideaFunc_3 13 rfl rfl)
theorem dX2_ideaFunc_84 : decode cX2_ideaFunc 84 = .ok (.istore 7, 2) := dk_54 7 (dk_at dksX2_ideaFunc_3 14 rfl rfl)
theorem dX2_ideaFunc_86 : decode cX2_ideaFunc 86 = .ok (.iload 8, 2) := dk_21 8 (dk_at dksX2_ideaFunc_3 16 rfl rfl)
theorem dX2_ideaFunc_88 : decode cX2_ideaFunc 88 = .ok (.aload_n 1, 1) := dk_43 (dk_at dksX2_ideaFunc_3 18 rfl rfl)
theorem dX2_ideaFunc_89 : decode cX2_ideaFunc 89 = .ok (.iload 12, 2) := dk_21 12 (dk_at dksX2_ideaFunc_3 19 rfl rfl)
theorem dX2_ideaFunc_91 : decode cX2_ideaFunc 91 = .ok (.iinc 12 1, 3) := dk_132 12 1 (dk_at dksX2_ideaFunc_3 21 rfl rfl)
theorem dX2_ideaFunc_94 : decode cX2_ideaFunc 94 = .ok (.iaload, 1) := dk_46 (dk_at dksX2_ideaFunc_4 0 rfl rfl)
theorem dX2_ideaFunc_95 : decode cX2_ideaFunc 95 = .ok (.iadd, 1) := dk_96 (dk_at dksX2_ideaFunc_4 1 rfl rfl)
theorem dX2_ideaFunc_96 : decode cX2_ideaFunc 96 = .ok (.istore 8, 2) := dk_54 8 (dk_at dksX2_ideaFunc_4 2 rfl rfl)
theorem dX2_ideaFunc_98 : decode cX2_ideaFunc 98 = .ok (.iload 8, 2) := dk_21 8 (dk_at dksX2_ideaFunc_4 4 rfl rfl)
theorem dX2_ideaFunc_100 : decode cX2_ideaFunc 100 = .ok (.ldc 55, 2) := dk_18 55 (dk_at dksX2_ideaFunc_4 6 rfl rfl)
theorem dX2_ideaFunc_102 : decode cX2_ideaFunc 102 = .ok (.iand, 1) := dk_126 (dk_at dksX2_ideaFunc_4 8 rfl rfl)
theorem dX2_ideaFunc_103 : decode cX2_ideaFunc 103 = .ok (.istore 8, 2) := dk_54 8 (dk_at dksX2_ideaFunc_4 9 rfl rfl)
theorem dX2_ideaFunc_105 : decode cX2_ideaFunc 105 = .ok (.aload_n 0, 1) := dk_42 (dk_at dksX2_ideaFunc_4 11 rfl rfl)
theorem dX2_ideaFunc_106 : decode cX2_ideaFunc 106 = .ok (.iload 9, 2) := dk_21 9 (dk_at dksX2_ideaFunc_4 12 rfl rfl)
theorem dX2_ideaFunc_108 : decode cX2_ideaFunc 108 = .ok (.aload_n 1, 1) := dk_43 (dk_at dksX2_ideaFunc_4 14 rfl rfl)
theorem dX2_ideaFunc_109 : decode cX2_ideaFunc 109 = .ok (.iload 12, 2) := dk_21 12 (dk_at dksX2_ideaFunc_4 15 rfl rfl)
theorem dX2_ideaFunc_111 : decode cX2_ideaFunc 111 = .ok (.iinc 12 1, 3) := dk_132 12 1 (dk_at dksX2_ideaFunc_4 17 rfl rfl)
theorem dX2_ideaFunc_114 : decode cX2_ideaFunc 114 = .ok (.iaload, 1) := dk_46 (dk_at dksX2_ideaFunc_4 20 rfl rfl)
theorem dX2_ideaFunc_115 : decode cX2_ideaFunc 115 = .ok (.invokevirtual 60, 3) := dk_182 0 60 (dk_at dksX2_ideaFunc_4 21 rfl rfl)
theorem dX2_ideaFunc_118 : decode cX2_ideaFunc 118 = .ok (.istore 9, 2) := dk_54 9 (dk_at dksX2_ideaFunc_5 0 rfl rfl)
theorem dX2_ideaFunc_120 : decode cX2_ideaFunc 120 = .ok (.iload 7, 2) := dk_21 7 (dk_at dksX2_ideaFunc_5 2 rfl rfl)
theorem dX2_ideaFunc_122 : decode cX2_ideaFunc 122 = .ok (.istore 10, 2) := dk_54 10 (dk_at dksX2_ideaFunc_5 4 rfl rfl)
theorem dX2_ideaFunc_124 : decode cX2_ideaFunc 124 = .ok (.iload 8, 2) := dk_21 8 (dk_at dksX2_ideaFunc_5 6 rfl rfl)
theorem dX2_ideaFunc_126 : decode cX2_ideaFunc 126 = .ok (.istore 11, 2) := dk_54 11 (dk_at dksX2_ideaFunc_5 8 rfl rfl)
theorem dX2_ideaFunc_128 : decode cX2_ideaFunc 128 = .ok (.iload 8, 2) := dk_21 8 (dk_at dksX2_ideaFunc_5 10 rfl rfl)
theorem dX2_ideaFunc_130 : decode cX2_ideaFunc 130 = .ok (.iload 6, 2) := dk_21 6 (dk_at dksX2_ideaFunc_5 12 rfl rfl)
theorem dX2_ideaFunc_132 : decode cX2_ideaFunc 132 = .ok (.ixor, 1) := dk_130 (dk_at dksX2_ideaFunc_5 14 rfl rfl)
theorem dX2_ideaFunc_133 : decode cX2_ideaFunc 133 = .ok (.istore 8, 2) := dk_54 8 (dk_at dksX2_ideaFunc_5 15 rfl rfl)
theorem dX2_ideaFunc_135 : decode cX2_ideaFunc 135 = .ok (.iload 7, 2) := dk_21 7 (dk_at dksX2_ideaFunc_5 17 rfl rfl)
theorem dX2_ideaFunc_137 : decode cX2_ideaFunc 137 = .ok (.iload 9, 2) := dk_21 9 (dk_at dksX2_ideaFunc_5 19 rfl rfl)
theorem dX2_ideaFunc_139 : decode cX2_ideaFunc 139 = .ok (.ixor, 1) := dk_130 (dk_at dksX2_ideaFunc_5 21 rfl rfl)
theorem dX2_ideaFunc_140 : decode cX2_ideaFunc 140 = .ok (.istore 7, 2) := dk_54 7 (dk_at dksX2_ideaFunc_5 22 rfl rfl)
theorem dX2_ideaFunc_142 : decode cX2_ideaFunc 142 = .ok (.aload_n 0, 1) := dk_42 (dk_at dksX2_ideaFunc_6 0 rfl rfl)
theorem dX2_ideaFunc_143 : decode cX2_ideaFunc 143 = .ok (.iload 8, 2) := dk_21 8 (dk_at dksX2_ideaFunc_6 1 rfl rfl)
theorem dX2_ideaFunc_145 : decode cX2_ideaFunc 145 = .ok (.aload_n 1, 1) := dk_43 (dk_at dksX2_ideaFunc_6 3 rfl rfl)
theorem dX2_ideaFunc_146 : decode cX2_ideaFunc 146 = .ok (.iload 12, 2) := dk_21 12 (dk_at dksX2_ideaFunc_6 4 rfl rfl)
theorem dX2_ideaFunc_148 : decode cX2_ideaFunc 148 = .ok (.iinc 12 1, 3) := dk_132 12 1 (dk_at dksX2_ideaFunc_6 6 rfl rfl)
theorem dX2_ideaFunc_151 : decode cX2_ideaFunc 151 = .ok (.iaload, 1) := dk_46 (dk_at dksX2_ideaFunc_6 9 rfl rfl)
theorem dX2_ideaFunc_152 : decode cX2_ideaFunc 152 = .ok (.invokevirtual 60, 3) := dk_182 0 60 (dk_at dksX2_ideaFunc_6 10 rfl rfl)
theorem dX2_ideaFunc_155 : decode cX2_ideaFunc 155 = .ok (.istore 8, 2) := dk_54 8 (dk_at dksX2_ideaFunc_6 13 rfl rfl)
theorem dX2_ideaFunc_157 : decode cX2_ideaFunc 157 = .ok (.iload 7, 2) := dk_21 7 (dk_at dksX2_ideaFunc_6 15 rfl rfl)
theorem dX2_ideaFunc_159 : decode cX2_ideaFunc 159 = .ok (.iload 8, 2) := dk_21 8 (dk_at dksX2_ideaFunc_6 17 rfl rfl)
theorem dX2_ideaFunc_161 : decode cX2_ideaFunc 161 = .ok (.iadd, 1) := dk_96 (dk_at dksX2_ideaFunc_6 19 rfl rfl)
theorem dX2_ideaFunc_162 : decode cX2_ideaFunc 162 = .ok (.istore 7, 2) := dk_54 7 (dk_at dksX2_ideaFunc_6 20 rfl rfl)
theorem dX2_ideaFunc_164 : decode cX2_ideaFunc 164 = .ok (.iload 7, 2) := dk_21 7 (dk_at dksX2_ideaFunc_6 22 rfl rfl)
theorem dX2_ideaFunc_166 : decode cX2_ideaFunc 166 = .ok (.ldc 55, 2) := dk_18 55 (dk_at dksX2_ideaFunc_7 0 rfl rfl)
theorem dX2_ideaFunc_168 : decode cX2_ideaFunc 168 = .ok (.iand, 1) := dk_126 (dk_at dksX2_ideaFunc_7 2 rfl rfl)
theorem dX2_ideaFunc_169 : decode cX2_ideaFunc 169 = .ok (.istore 7, 2) := dk_54 7 (dk_at dksX2_ideaFunc_7 3 rfl rfl)
theorem dX2_ideaFunc_171 : decode cX2_ideaFunc 171 = .ok (.aload_n 0, 1) := dk_42 (dk_at dksX2_ideaFunc_7 5 rfl rfl)
theorem dX2_ideaFunc_172 : decode cX2_ideaFunc 172 = .ok (.iload 7, 2) := dk_21 7 (dk_at dksX2_ideaFunc_7 6 rfl rfl)
theorem dX2_ideaFunc_174 : decode cX2_ideaFunc 174 = .ok (.aload_n 1, 1) := dk_43 (dk_at dksX2_ideaFunc_7 8 rfl rfl)
theorem dX2_ideaFunc_175 : decode cX2_ideaFunc 175 = .ok (.iload 12, 2) := dk_21 12 (dk_at dksX2_ideaFunc_7 9 rfl rfl)
theorem dX2_ideaFunc_177 : decode cX2_ideaFunc 177 = .ok (.iinc 12 1, 3) := dk_132 12 1 (dk_at dksX2_ideaFunc_7 11 rfl rfl)
theorem dX2_ideaFunc_180 : decode cX2_ideaFunc 180 = .ok (.iaload, 1) := dk_46 (dk_at dksX2_ideaFunc_7 14 rfl rfl)
theorem dX2_ideaFunc_181 : decode cX2_ideaFunc 181 = .ok (.invokevirtual 60, 3) := dk_182 0 60 (dk_at dksX2_ideaFunc_7 15 rfl rfl)
theorem dX2_ideaFunc_184 : decode cX2_ideaFunc 184 = .ok (.istore 7, 2) := dk_54 7 (dk_at dksX2_ideaFunc_7 18 rfl rfl)
theorem dX2_ideaFunc_186 : decode cX2_ideaFunc 186 = .ok (.iload 8, 2) := dk_21 8 (dk_at dksX2_ideaFunc_7 20 rfl rfl)
theorem dX2_ideaFunc_188 : decode cX2_ideaFunc 188 = .ok (.iload 7, 2) := dk_21 7 (dk_at dksX2_ideaFunc_7 22 rfl rfl)
theorem dX2_ideaFunc_190 : decode cX2_ideaFunc 190 = .ok (.iadd, 1) := dk_96 (dk_at dksX2_ideaFunc_8 0 rfl rfl)
theorem dX2_ideaFunc_191 : decode cX2_ideaFunc 191 = .ok (.istore 8, 2) := dk_54 8 (dk_at dksX2_ideaFunc_8 1 rfl rfl)
theorem dX2_ideaFunc_193 : decode cX2_ideaFunc 193 = .ok (.iload 8, 2) := dk_21 8 (dk_at dksX2_ideaFunc_8 3 rfl rfl)
theorem dX2_ideaFunc_195 : decode cX2_ideaFunc 195 = .ok (.ldc 55, 2) := dk_18 55 (dk_at dksX2_ideaFunc_8 5 rfl rfl)
theorem dX2_ideaFunc_197 : decode cX2_ideaFunc 197 = .ok (.iand, 1) := dk_126 (dk_at dksX2_ideaFunc_8 7 rfl rfl)
theorem dX2_ideaFunc_198 : decode cX2_ideaFunc 198 = .ok (.istore 8, 2) := dk_54 8 (dk_at dksX2_ideaFunc_8 8 rfl rfl)
theorem dX2_ideaFunc_200 : decode cX2_ideaFunc 200 = .ok (.iload 6, 2) := dk_21 6 (dk_at dksX2_ideaFunc_8 10 rfl rfl)
theorem dX2_ideaFunc_202 : decode cX2_ideaFunc 202 = .ok (.iload 7, 2) := dk_21 7 (dk_at dksX2_ideaFunc_8 12 rfl rfl)
theorem dX2_ideaFunc_204 : decode cX2_ideaFunc 204 = .ok (.ixor, 1) := dk_130 (dk_at dksX2_ideaFunc_8 14 rfl rfl)
theorem dX2_ideaFunc_205 : decode cX2_ideaFunc 205 = .ok (.istore 6, 2) := dk_54 6 (dk_at dksX2_ideaFunc_8 15 rfl rfl)
theorem dX2_ideaFunc_207 : decode cX2_ideaFunc 207 = .ok (.iload 9, 2) := dk_21 9 (dk_at dksX2_ideaFunc_8 17 rfl rfl)
theorem dX2_ideaFunc_209 : decode cX2_ideaFunc 209 = .ok (.iload 8, 2) := dk_21 8 (dk_at dksX2_ideaFunc_8 19 rfl rfl)
theorem dX2_ideaFunc_211 : decode cX2_ideaFunc 211 = .ok (.ixor, 1) := dk_130 (dk_at dksX2_ideaFunc_8 21 rfl rfl)
theorem dX2_ideaFunc_212 : decode cX2_ideaFunc 212 = .ok (.istore 9, 2) := dk_54 9 (dk_at dksX2_ideaFunc_8 22 rfl rfl)
theorem dX2_ideaFunc_214 : decode cX2_ideaFunc 214 = .ok (.iload 7, 2) := dk_21 7 (dk_at dksX2_ideaFunc_9 0 rfl rfl)
theorem dX2_ideaFunc_216 : decode cX2_ideaFunc 216 = .ok (.iload 11, 2) := dk_21 11 (dk_at dksX2_ideaFunc_9 2 rfl rfl)
theorem dX2_ideaFunc_218 : decode cX2_ideaFunc 218 = .ok (.ixor, 1) := dk_130 (dk_at dksX2_ideaFunc_9 4 rfl rfl)
theorem dX2_ideaFunc_219 : decode cX2_ideaFunc 219 = .ok (.istore 7, 2) := dk_54 7 (dk_at dksX2_ideaFunc_9 5 rfl rfl)
theorem dX2_ideaFunc_221 : decode cX2_ideaFunc 221 = .ok (.iload 8, 2) := dk_21 8 (dk_at dksX2_ideaFunc_9 7 rfl rfl)
theorem dX2_ideaFunc_223 : decode cX2_ideaFunc 223 = .ok (.iload 10, 2) := dk_21 10 (dk_at dksX2_ideaFunc_9 9 rfl rfl)
theorem dX2_ideaFunc_225 : decode cX2_ideaFunc 225 = .ok (.ixor, 1) := dk_130 (dk_at dksX2_ideaFunc_9 11 rfl rfl)
theorem dX2_ideaFunc_226 : decode cX2_ideaFunc 226 = .ok (.istore 8, 2) := dk_54 8 (dk_at dksX2_ideaFunc_9 12 rfl rfl)
theorem dX2_ideaFunc_228 : decode cX2_ideaFunc 228 = .ok (.iinc 13 1, 3) := dk_132 13 1 (dk_at dksX2_ideaFunc_9 14 rfl rfl)
theorem dX2_ideaFunc_231 : decode cX2_ideaFunc 231 = .ok (.goto (-186), 3) := dk_167 255 70 (dk_at dksX2_ideaFunc_9 17 rfl rfl)
theorem dX2_ideaFunc_234 : decode cX2_ideaFunc 234 = .ok (.aload_n 0, 1) := dk_42 (dk_at dksX2_ideaFunc_9 20 rfl rfl)
theorem dX2_ideaFunc_235 : decode cX2_ideaFunc 235 = .ok (.aload_n 0, 1) := dk_42 (dk_at dksX2_ideaFunc_9 21 rfl rfl)
theorem dX2_ideaFunc_236 : decode cX2_ideaFunc 236 = .ok (.iload 6, 2) := dk_21 6 (dk_at dksX2_ideaFunc_9 22 rfl rfl)
theorem dX2_ideaFunc_238 : decode cX2_ideaFunc 238 = .ok (.aload_n 1, 1) := dk_43 (dk_at dksX2_ideaFunc_10 0 rfl rfl)
theorem dX2_ideaFunc_239 : decode cX2_ideaFunc 239 = .ok (.iload 12, 2) := dk_21 12 (dk_at dksX2_ideaFunc_10 1 rfl rfl)
theorem dX2_ideaFunc_241 : decode cX2_ideaFunc 241 = .ok (.iinc 12 1, 3) := dk_132 12 1 (dk_at dksX2_ideaFunc_10 3 rfl rfl)
theorem dX2_ideaFunc_244 : decode cX2_ideaFunc 244 = .ok (.iaload, 1) := dk_46 (dk_at dksX2_ideaFunc_10 6 rfl rfl)
theorem dX2_ideaFunc_245 : decode cX2_ideaFunc 245 = .ok (.invokevirtual 60, 3) := dk_182 0 60 (dk_at dksX2_ideaFunc_10 7 rfl rfl)
theorem dX2_ideaFunc_248 : decode cX2_ideaFunc 248 = .ok (.aload 4, 2) := dk_25 4 (dk_at dksX2_ideaFunc_10 10 rfl rfl)
theorem dX2_ideaFunc_250 : decode cX2_ideaFunc 250 = .ok (.iload 5, 2) := dk_21 5 (dk_at dksX2_ideaFunc_10 12 rfl rfl)
theorem dX2_ideaFunc_252 : decode cX2_ideaFunc 252 = .ok (.invokevirtual 64, 3) := dk_182 0 64 (dk_at dksX2_ideaFunc_10 14 rfl rfl)
theorem dX2_ideaFunc_255 : decode cX2_ideaFunc 255 = .ok (.aload_n 0, 1) := dk_42 (dk_at dksX2_ideaFunc_10 17 rfl rfl)
theorem dX2_ideaFunc_256 : decode cX2_ideaFunc 256 = .ok (.iload 8, 2) := dk_21 8 (dk_at dksX2_ideaFunc_10 18 rfl rfl)
theorem dX2_ideaFunc_258 : decode cX2_ideaFunc 258 = .ok (.aload_n 1, 1) := dk_43 (dk_at dksX2_ideaFunc_10 20 rfl rfl)
theorem dX2_ideaFunc_259 : decode cX2_ideaFunc 259 = .ok (.iload 12, 2) := dk_21 12 (dk_at dksX2_ideaFunc_10 21 rfl rfl)
theorem dX2_ideaFunc_261 : decode cX2_ideaFunc 261 = .ok (.iinc 12 1, 3) := dk_132 12 1 (dk_at dksX2_ideaFunc_11 0 rfl rfl)
theorem dX2_ideaFunc_264 : decode cX2_ideaFunc 264 = .ok (.iaload, 1) := dk_46 (dk_at dksX2_ideaFunc_11 3 rfl rfl)
theorem dX2_ideaFunc_265 : decode cX2_ideaFunc 265 = .ok (.iadd, 1) := dk_96 (dk_at dksX2_ideaFunc_11 4 rfl rfl)
theorem dX2_ideaFunc_266 : decode cX2_ideaFunc 266 = .ok (.aload 4, 2) := dk_25 4 (dk_at dksX2_ideaFunc_11 5 rfl rfl)
theorem dX2_ideaFunc_268 : decode cX2_ideaFunc 268 = .ok (.iload 5, 2) := dk_21 5 (dk_at dksX2_ideaFunc_11 7 rfl rfl)
theorem dX2_ideaFunc_270 : decode cX2_ideaFunc 270 = .ok (.iconst 2, 1) := dk_5 (dk_at dksX2_ideaFunc_11 9 rfl rfl)
theorem dX2_ideaFunc_271 : decode cX2_ideaFunc 271 = .ok (.iadd, 1) := dk_96 (dk_at dksX2_ideaFunc_11 10 rfl rfl)
theorem dX2_ideaFunc_272 : decode cX2_ideaFunc 272 = .ok (.invokevirtual 64, 3) := dk_182 0 64 (dk_at dksX2_ideaFunc_11 11 rfl rfl)
theorem dX2_ideaFunc_275 : decode cX2_ideaFunc 275 = .ok (.aload_n 0, 1) := dk_42 (dk_at dksX2_ideaFunc_11 14 rfl rfl)
theorem dX2_ideaFunc_276 : decode cX2_ideaFunc 276 = .ok (.iload 7, 2) := dk_21 7 (dk_at dksX2_ideaFunc_11 15 rfl rfl)
theorem dX2_ideaFunc_278 : decode cX2_ideaFunc 278 = .ok (.aload_n 1, 1) := dk_43 (dk_at dksX2_ideaFunc_11 17 rfl rfl)
theorem dX2_ideaFunc_279 : decode cX2_ideaFunc 279 = .ok (.iload 12, 2) := dk_21 12 (dk_at dksX2_ideaFunc_11 18 rfl rfl)
theorem dX2_ideaFunc_281 : decode cX2_ideaFunc 281 = .ok (.iinc 12 1, 3) := dk_132 12 1 (dk_at dksX2_ideaFunc_11 20 rfl rfl)
theorem dX2_ideaFunc_284 : decode cX2_ideaFunc 284 = .ok (.iaload, 1) := dk_46 (dk_at dksX2_ideaFunc_11 23 rfl rfl)
theorem dX2_ideaFunc_285 : decode cX2_ideaFunc 285 = .ok (.iadd, 1) := dk_96 (dk_at dksX2_ideaFunc_12 0 rfl rfl)
theorem dX2_ideaFunc_286 : decode cX2_ideaFunc 286 = .ok (.aload 4, 2) := dk_25 4 (dk_at dksX2_ideaFunc_12 1 rfl rfl)
theorem dX2_ideaFunc_288 : decode cX2_ideaFunc 288 = .ok (.iload 5, 2) := dk_21 5 (dk_at dksX2_ideaFunc_12 3 rfl rfl)
theorem dX2_ideaFunc_290 : decode cX2_ideaFunc 290 = .ok (.iconst 4, 1) := dk_7 (dk_at dksX2_ideaFunc_12 5 rfl rfl)
theorem dX2_ideaFunc_291 : decode cX2_ideaFunc 291 = .ok (.iadd, 1) := dk_96 (dk_at dksX2_ideaFunc_12 6 rfl rfl)
theorem dX2_ideaFunc_292 : decode cX2_ideaFunc 292 = .ok (.invokevirtual 64, 3) := dk_182 0 64 (dk_at dksX2_ideaFunc_12 7 rfl rfl)
theorem dX2_ideaFunc_295 : decode cX2_ideaFunc 295 = .ok (.aload_n 0, 1) := dk_42 (dk_at dksX2_ideaFunc_12 10 rfl rfl)
theorem dX2_ideaFunc_296 : decode cX2_ideaFunc 296 = .ok (.aload_n 0, 1) := dk_42 (dk_at dksX2_ideaFunc_12 11 rfl rfl)
theorem dX2_ideaFunc_297 : decode cX2_ideaFunc 297 = .ok (.iload 9, 2) := dk_21 9 (dk_at dksX2_ideaFunc_12 12 rfl rfl)
theorem dX2_ideaFunc_299 : decode cX2_ideaFunc 299 = .ok (.aload_n 1, 1) := dk_43 (dk_at dksX2_ideaFunc_12 14 rfl rfl)
theorem dX2_ideaFunc_300 : decode cX2_ideaFunc 300 = .ok (.iload 12, 2) := dk_21 12 (dk_at dksX2_ideaFunc_12 15 rfl rfl)
theorem dX2_ideaFunc_302 : decode cX2_ideaFunc 302 = .ok (.iaload, 1) := dk_46 (dk_at dksX2_ideaFunc_12 17 rfl rfl)
theorem dX2_ideaFunc_303 : decode cX2_ideaFunc 303 = .ok (.invokevirtual 60, 3) := dk_182 0 60 (dk_at dksX2_ideaFunc_12 18 rfl rfl)
theorem dX2_ideaFunc_306 : decode cX2_ideaFunc 306 = .ok (.aload 4, 2) := dk_25 4 (dk_at dksX2_ideaFunc_12 21 rfl rfl)
theorem dX2_ideaFunc_308 : decode cX2_ideaFunc 308 = .ok (.iload 5, 2) := dk_21 5 (dk_at dksX2_ideaFunc_13 0 rfl rfl)
theorem dX2_ideaFunc_310 : decode cX2_ideaFunc 310 = .ok (.bipush 6, 2) := dk_16 6 (dk_at dksX2_ideaFunc_13 2 rfl rfl)
theorem dX2_ideaFunc_312 : decode cX2_ideaFunc 312 = .ok (.iadd, 1) := dk_96 (dk_at dksX2_ideaFunc_13 4 rfl rfl)
theorem dX2_ideaFunc_313 : decode cX2_ideaFunc 313 = .ok (.invokevirtual 64, 3) := dk_182 0 64 (dk_at dksX2_ideaFunc_13 5 rfl rfl)
theorem dX2_ideaFunc_316 : decode cX2_ideaFunc 316 = .ok (.return_, 1) := dk_177 (dk_at dksX2_ideaFunc_13 8 rfl rfl)
abbrev cX2_mul : ByteArray := prog_4_method_6_code
def yX2_mul : MethodName := ⟨RX2, "mul", "(II)I"⟩
def dkwX2_mul_2 : List UInt8 := [167, 0, 4, 3, 96, 60, 27, 18, 55, 126, 172]
abbrev dktX2_mul_2 : List UInt8 := dkwX2_mul_2 ++ []
def dkwX2_mul_1 : List UInt8 := [27, 28, 104, 62, 29, 18, 55, 126, 61, 29, 16, 16, 124, 60, 28, 27, 100, 28, 27, 162, 0, 7, 4]
abbrev dktX2_mul_1 : List UInt8 := dkwX2_mul_1 ++ dktX2_mul_2
def dkwX2_mul_0 : List UInt8 := [27, 154, 0, 11, 18, 54, 28, 100, 60, 167, 0, 44, 28, 154, 0, 11, 18, 54, 27, 100, 60, 167, 0, 32]
abbrev dktX2_mul_0 : List UInt8 := dkwX2_mul_0 ++ dktX2_mul_1
theorem dksX2_mul_0 : cX2_mul.data.toList.drop 0 = dktX2_mul_0 := by decide +kernel
theorem dksX2_mul_1 : cX2_mul.data.toList.drop 24 = dktX2_mul_1 := dk_seg dksX2_mul_0 24 rfl rfl
theorem dksX2_mul_2 : cX2_mul.data.toList.drop 47 = dktX2_mul_2 := dk_seg dksX2_mul_1 23 rfl rfl
theorem dX2_mul_0 : decode cX2_mul 0 = .ok (.iload_n 1, 1) := dk_27 (dk_at dksX2_mul_0 0 rfl rfl)
theorem dX2_mul_1 : decode cX2_mul 1 = .ok (.ifCond .ne 11, 3) := dk_154 0 11 (dk_at dksX2_mul_0 1 rfl rfl)
theorem dX2_mul_4 : decode cX2_mul 4 = .ok (.ldc 54, 2) := dk_18 54 (dk_at dksX2_mul_0 4 rfl rfl)
theorem dX2_mul_6 : decode cX2_mul 6 = .ok (.iload_n 2, 1) := dk_28 (dk_at dksX2_mul_0 6 rfl rfl)
theorem dX2_mul_7 : decode cX2_mul 7 = .ok (.isub, 1) := dk_100 (dk_at dksX2_mul_0 7 rfl rfl)
theorem dX2_mul_8 : decode cX2_mul 8 = .ok (.istore_n 1, 1) := dk_60 (dk_at dksX2_mul_0 8 rfl rfl)
theorem dX2_mul_9 : decode cX2_mul 9 = .ok (.goto 44, 3) := dk_167 0 44 (dk_at dksX2_mul_0 9 rfl rfl)
theorem dX2_mul_12 : decode cX2_mul 12 = .ok (.iload_n 2, 1) := dk_28 (dk_at dksX2_mul_0 12 rfl rfl)
theorem dX2_mul_13 : decode cX2_mul 13 = .ok (.ifCond .ne 11, 3) := dk_154 0 11 (dk_at dksX2_mul_0 13 rfl rfl)
theorem dX2_mul_16 : decode cX2_mul 16 = .ok (.ldc 54, 2) := dk_18 54 (dk_at dksX2_mul_0 16 rfl rfl)
theorem dX2_mul_18 : decode cX2_mul 18 = .ok (.iload_n 1, 1) := dk_27 (dk_at dksX2_mul_0 18 rfl rfl)
theorem dX2_mul_19 : decode cX2_mul 19 = .ok (.isub, 1) := dk_100 (dk_at dksX2_mul_0 19 rfl rfl)
theorem dX2_mul_20 : decode cX2_mul 20 = .ok (.istore_n 1, 1) := dk_60 (dk_at dksX2_mul_0 20 rfl rfl)
theorem dX2_mul_21 : decode cX2_mul 21 = .ok (.goto 32, 3) := dk_167 0 32 (dk_at dksX2_mul_0 21 rfl rfl)
theorem dX2_mul_24 : decode cX2_mul 24 = .ok (.iload_n 1, 1) := dk_27 (dk_at dksX2_mul_1 0 rfl rfl)
theorem dX2_mul_25 : decode cX2_mul 25 = .ok (.iload_n 2, 1) := dk_28 (dk_at dksX2_mul_1 1 rfl rfl)
theorem dX2_mul_26 : decode cX2_mul 26 = .ok (.imul, 1) := dk_104 (dk_at dksX2_mul_1 2 rfl rfl)
theorem dX2_mul_27 : decode cX2_mul 27 = .ok (.istore_n 3, 1) := dk_62 (dk_at dksX2_mul_1 3 rfl rfl)
theorem dX2_mul_28 : decode cX2_mul 28 = .ok (.iload_n 3, 1) := dk_29 (dk_at dksX2_mul_1 4 rfl rfl)
theorem dX2_mul_29 : decode cX2_mul 29 = .ok (.ldc 55, 2) := dk_18 55 (dk_at dksX2_mul_1 5 rfl rfl)
theorem dX2_mul_31 : decode cX2_mul 31 = .ok (.iand, 1) := dk_126 (dk_at dksX2_mul_1 7 rfl rfl)
theorem dX2_mul_32 : decode cX2_mul 32 = .ok (.istore_n 2, 1) := dk_61 (dk_at dksX2_mul_1 8 rfl rfl)
theorem dX2_mul_33 : decode cX2_mul 33 = .ok (.iload_n 3, 1) := dk_29 (dk_at dksX2_mul_1 9 rfl rfl)
theorem dX2_mul_34 : decode cX2_mul 34 = .ok (.bipush 16, 2) := dk_16 16 (dk_at dksX2_mul_1 10 rfl rfl)
theorem dX2_mul_36 : decode cX2_mul 36 = .ok (.iushr, 1) := dk_124 (dk_at dksX2_mul_1 12 rfl rfl)
theorem dX2_mul_37 : decode cX2_mul 37 = .ok (.istore_n 1, 1) := dk_60 (dk_at dksX2_mul_1 13 rfl rfl)
theorem dX2_mul_38 : decode cX2_mul 38 = .ok (.iload_n 2, 1) := dk_28 (dk_at dksX2_mul_1 14 rfl rfl)
theorem dX2_mul_39 : decode cX2_mul 39 = .ok (.iload_n 1, 1) := dk_27 (dk_at dksX2_mul_1 15 rfl rfl)
theorem dX2_mul_40 : decode cX2_mul 40 = .ok (.isub, 1) := dk_100 (dk_at dksX2_mul_1 16 rfl rfl)
theorem dX2_mul_41 : decode cX2_mul 41 = .ok (.iload_n 2, 1) := dk_28 (dk_at dksX2_mul_1 17 rfl rfl)
theorem dX2_mul_42 : decode cX2_mul 42 = .ok (.iload_n 1, 1) := dk_27 (dk_at dksX2_mul_1 18 rfl rfl)
theorem dX2_mul_43 : decode cX2_mul 43 = .ok (.if_icmp .ge 7, 3) := dk_162 0 7 (dk_at dksX2_mul_1 19 rfl rfl)
theorem dX2_mul_46 : decode cX2_mul 46 = .ok (.iconst 1, 1) := dk_4 (dk_at dksX2_mul_1 22 rfl rfl)
theorem dX2_mul_47 : decode cX2_mul 47 = .ok (.goto 4, 3) := dk_167 0 4 (dk_at dksX2_mul_2 0 rfl rfl)
theorem dX2_mul_50 : decode cX2_mul 50 = .ok (.iconst 0, 1) := dk_3 (dk_at dksX2_mul_2 3 rfl rfl)
theorem dX2_mul_51 : decode cX2_mul 51 = .ok (.iadd, 1) := dk_96 (dk_at dksX2_mul_2 4 rfl rfl)
theorem dX2_mul_52 : decode cX2_mul 52 = .ok (.istore_n 1, 1) := dk_60 (dk_at dksX2_mul_2 5 rfl rfl)
theorem dX2_mul_53 : decode cX2_mul 53 = .ok (.iload_n 1, 1) := dk_27 (dk_at dksX2_mul_2 6 rfl rfl)
theorem dX2_mul_54 : decode cX2_mul 54 = .ok (.ldc 55, 2) := dk_18 55 (dk_at dksX2_mul_2 7 rfl rfl)
theorem dX2_mul_56 : decode cX2_mul 56 = .ok (.iand, 1) := dk_126 (dk_at dksX2_mul_2 9 rfl rfl)
theorem dX2_mul_57 : decode cX2_mul 57 = .ok (.ireturn, 1) := dk_172 (dk_at dksX2_mul_2 10 rfl rfl)
abbrev cX2_wordToBytes : ByteArray := prog_4_method_5_code
def yX2_wordToBytes : MethodName := ⟨RX2, "wordToBytes", "(I[BI)V"⟩
def dkwX2_wordToBytes_0 : List UInt8 := [44, 29, 27, 16, 8, 124, 145, 84, 44, 29, 4, 96, 27, 145, 84, 177]
abbrev dktX2_wordToBytes_0 : List UInt8 := dkwX2_wordToBytes_0 ++ []
theorem dksX2_wordToBytes_0 : cX2_wordToBytes.data.toList.drop 0 = dktX2_wordToBytes_0 := by decide +kernel
theorem dX2_wordToBytes_0 : decode cX2_wordToBytes 0 = .ok (.aload_n 2, 1) := dk_44 (dk_at dksX2_wordToBytes_0 0 rfl rfl)
theorem dX2_wordToBytes_1 : decode cX2_wordToBytes 1 = .ok (.iload_n 3, 1) := dk_29 (dk_at dksX2_wordToBytes_0 1 rfl rfl)
theorem dX2_wordToBytes_2 : decode cX2_wordToBytes 2 = .ok (.iload_n 1, 1) := dk_27 (dk_at dksX2_wordToBytes_0 2 rfl rfl)
theorem dX2_wordToBytes_3 : decode cX2_wordToBytes 3 = .ok (.bipush 8, 2) := dk_16 8 (dk_at dksX2_wordToBytes_0 3 rfl rfl)
theorem dX2_wordToBytes_5 : decode cX2_wordToBytes 5 = .ok (.iushr, 1) := dk_124 (dk_at dksX2_wordToBytes_0 5 rfl rfl)
theorem dX2_wordToBytes_6 : decode cX2_wordToBytes 6 = .ok (.i2b, 1) := dk_145 (dk_at dksX2_wordToBytes_0 6 rfl rfl)
theorem dX2_wordToBytes_7 : decode cX2_wordToBytes 7 = .ok (.bastore, 1) := dk_84 (dk_at dksX2_wordToBytes_0 7 rfl rfl)
theorem dX2_wordToBytes_8 : decode cX2_wordToBytes 8 = .ok (.aload_n 2, 1) := dk_44 (dk_at dksX2_wordToBytes_0 8 rfl rfl)
theorem dX2_wordToBytes_9 : decode cX2_wordToBytes 9 = .ok (.iload_n 3, 1) := dk_29 (dk_at dksX2_wordToBytes_0 9 rfl rfl)
theorem dX2_wordToBytes_10 : decode cX2_wordToBytes 10 = .ok (.iconst 1, 1) := dk_4 (dk_at dksX2_wordToBytes_0 10 rfl rfl)
theorem dX2_wordToBytes_11 : decode cX2_wordToBytes 11 = .ok (.iadd, 1) := dk_96 (dk_at dksX2_wordToBytes_0 11 rfl rfl)
theorem dX2_wordToBytes_12 : decode cX2_wordToBytes 12 = .ok (.iload_n 1, 1) := dk_27 (dk_at dksX2_wordToBytes_0 12 rfl rfl)
theorem dX2_wordToBytes_13 : decode cX2_wordToBytes 13 = .ok (.i2b, 1) := dk_145 (dk_at dksX2_wordToBytes_0 13 rfl rfl)
theorem dX2_wordToBytes_14 : decode cX2_wordToBytes 14 = .ok (.bastore, 1) := dk_84 (dk_at dksX2_wordToBytes_0 14 rfl rfl)
theorem dX2_wordToBytes_15 : decode cX2_wordToBytes 15 = .ok (.return_, 1) := dk_177 (dk_at dksX2_wordToBytes_0 15 rfl rfl)
theorem q15 : (Jvm.Cond.initialized "IDEAEngine") ∈ lw_all := lw_g (lw_at lw_m1 3 rfl) rfl
theorem q68 : (Jvm.Cond.instantiable "IDEAEngine" (2 : Nat)) ∈ lw_all := lw_g (lw_at lw_m1 56 rfl) rfl
theorem q70 : (Jvm.Cond.instanceMethod ({ cls := "IDEAEngine", name := "<init>", desc := "()V" } : Jvm.MethodName)) ∈ lw_all := lw_g (lw_at lw_m1 58 rfl) rfl
theorem q71 : (Jvm.Cond.code ({ cls := "IDEAEngine", name := "<init>", desc := "()V" } : Jvm.MethodName) prog_4_method_1_code (1 : Nat) (Option.none : Option Jvm.ClassFile.FieldType)) ∈ lw_all := lw_g (lw_at lw_m1 59 rfl) rfl
theorem q72 : (Jvm.Cond.methodLink "IDEAEngine" (1 : Nat) ({ cls := "java/lang/Object", name := "<init>", desc := "()V" } : Jvm.MethodName)) ∈ lw_all := lw_g (lw_at lw_m1 60 rfl) rfl
theorem q73 : (Jvm.Cond.fieldLink "IDEAEngine" (7 : Nat) "IDEAEngine" "workingKey" "[I") ∈ lw_all := lw_g (lw_at lw_m1 61 rfl) rfl
theorem q74 : (Jvm.Cond.fieldLink "IDEAEngine" (23 : Nat) "IDEAEngine" "forEncryption" "Z") ∈ lw_all := lw_g (lw_at lw_m1 62 rfl) rfl
theorem q75 : (Jvm.Cond.lays "IDEAEngine" "IDEAEngine" "workingKey" "[I") ∈ lw_all := lw_g (lw_at lw_m1 63 rfl) rfl
theorem q76 : (Jvm.Cond.soleField "IDEAEngine" "workingKey") ∈ lw_all := lw_g (lw_at lw_m1 64 rfl) rfl
theorem q77 : (Jvm.Cond.lays "IDEAEngine" "IDEAEngine" "forEncryption" "Z") ∈ lw_all := lw_g (lw_at lw_m1 65 rfl) rfl
theorem q78 : (Jvm.Cond.soleField "IDEAEngine" "forEncryption") ∈ lw_all := lw_g (lw_at lw_m1 66 rfl) rfl
theorem q79 : (Jvm.Cond.superclass "IDEAEngine" "java/lang/Object") ∈ lw_all := lw_g (lw_at lw_m1 67 rfl) rfl
theorem q103 : (Jvm.Cond.castable "IDEAEngine" "BlockCipher") ∈ lw_tbl := lw_at lw_m1 91 rfl
theorem q104 : (Jvm.Cond.selects "IDEAEngine" ({ cls := "BlockCipher", name := "init", desc := "(ZLCipherParameters;)V" } : Jvm.MethodName) ({ cls := "IDEAEngine", name := "init", desc := "(ZLCipherParameters;)V" } : Jvm.MethodName)) ∈ lw_all := lw_g (lw_at lw_m1 92 rfl) rfl
theorem q105 : (Jvm.Cond.unhidden "IDEAEngine" "init" "(ZLCipherParameters;)V") ∈ lw_tbl := lw_at lw_m1 93 rfl
theorem q106 : (Jvm.Cond.instanceMethod ({ cls := "IDEAEngine", name := "init", desc := "(ZLCipherParameters;)V" } : Jvm.MethodName)) ∈ lw_all := lw_g (lw_at lw_m1 94 rfl) rfl
theorem q107 : (Jvm.Cond.publicMethod ({ cls := "IDEAEngine", name := "init", desc := "(ZLCipherParameters;)V" } : Jvm.MethodName)) ∈ lw_tbl := lw_at lw_m1 95 rfl
theorem q108 : (Jvm.Cond.code ({ cls := "IDEAEngine", name := "init", desc := "(ZLCipherParameters;)V" } : Jvm.MethodName) prog_4_method_2_code (4 : Nat) (Option.none : Option Jvm.ClassFile.FieldType)) ∈ lw_all := lw_g (lw_at lw_m1 96 rfl) rfl
theorem q109 : (Jvm.Cond.classLink "IDEAEngine" (13 : Nat) "KeyParameter") ∈ lw_all := lw_g (lw_at lw_m1 97 rfl) rfl
theorem q110 : (Jvm.Cond.methodLink "IDEAEngine" (15 : Nat) ({ cls := "KeyParameter", name := "getKey", desc := "()[B" } : Jvm.MethodName)) ∈ lw_all := lw_g (lw_at lw_m1 98 rfl) rfl
theorem q114 : (Jvm.Cond.methodLink "IDEAEngine" (19 : Nat) ({ cls := "IDEAEngine", name := "generateWorkingKey", desc := "(Z[B)[I" } : Jvm.MethodName)) ∈ lw_all := lw_g (lw_at lw_m1 102 rfl) rfl
theorem q115 : (Jvm.Cond.privateMethod ({ cls := "IDEAEngine", name := "generateWorkingKey", desc := "(Z[B)[I" } : Jvm.MethodName)) ∈ lw_tbl := lw_at lw_m1 103 rfl
theorem q116 : (Jvm.Cond.instanceMethod ({ cls := "IDEAEngine", name := "generateWorkingKey", desc := "(Z[B)[I" } : Jvm.MethodName)) ∈ lw_all := lw_g (lw_at lw_m1 104 rfl) rfl
theorem q117 : (Jvm.Cond.code ({ cls := "IDEAEngine", name := "generateWorkingKey", desc := "(Z[B)[I" } : Jvm.MethodName) prog_4_method_12_code (3 : Nat) (Option.some (Jvm.ClassFile.FieldType.array Jvm.ClassFile.FieldType.int))) ∈ lw_all := lw_g (lw_at lw_m1 105 rfl) rfl
theorem q118 : (Jvm.Cond.methodLink "IDEAEngine" (81 : Nat) ({ cls := "IDEAEngine", name := "expandKey", desc := "([B)[I" } : Jvm.MethodName)) ∈ lw_all := lw_g (lw_at lw_m1 106 rfl) rfl
theorem q119 : (Jvm.Cond.privateMethod ({ cls := "IDEAEngine", name := "expandKey", desc := "([B)[I" } : Jvm.MethodName)) ∈ lw_tbl := lw_at lw_m1 107 rfl
theorem q120 : (Jvm.Cond.instanceMethod ({ cls := "IDEAEngine", name := "expandKey", desc := "([B)[I" } : Jvm.MethodName)) ∈ lw_all := lw_g (lw_at lw_m1 108 rfl) rfl
theorem q121 : (Jvm.Cond.code ({ cls := "IDEAEngine", name := "expandKey", desc := "([B)[I" } : Jvm.MethodName) prog_4_method_8_code (4 : Nat) (Option.some (Jvm.ClassFile.FieldType.array Jvm.ClassFile.FieldType.int))) ∈ lw_all := lw_g (lw_at lw_m1 109 rfl) rfl
theorem q122 : (Jvm.Cond.methodLink "IDEAEngine" (68 : Nat) ({ cls := "java/lang/System", name := "arraycopy", desc := "(Ljava/lang/Object;ILjava/lang/Object;II)V" } : Jvm.MethodName)) ∈ lw_all := lw_g (lw_at lw_m1 110 rfl) rfl
theorem q123 : (Jvm.Cond.methodLink "IDEAEngine" (56 : Nat) ({ cls := "IDEAEngine", name := "bytesToWord", desc := "([BI)I" } : Jvm.MethodName)) ∈ lw_all := lw_g (lw_at lw_m1 111 rfl) rfl
theorem q124 : (Jvm.Cond.privateMethod ({ cls := "IDEAEngine", name := "bytesToWord", desc := "([BI)I" } : Jvm.MethodName)) ∈ lw_tbl := lw_at lw_m1 112 rfl
theorem q125 : (Jvm.Cond.instanceMethod ({ cls := "IDEAEngine", name := "bytesToWord", desc := "([BI)I" } : Jvm.MethodName)) ∈ lw_all := lw_g (lw_at lw_m1 113 rfl) rfl
theorem q126 : (Jvm.Cond.code ({ cls := "IDEAEngine", name := "bytesToWord", desc := "([BI)I" } : Jvm.MethodName) prog_4_method_4_code (3 : Nat) (Option.some Jvm.ClassFile.FieldType.int)) ∈ lw_all := lw_g (lw_at lw_m1 114 rfl) rfl
theorem q127 : (Jvm.Cond.constant "IDEAEngine" (53 : Nat) (65280 : Int32)) ∈ lw_all := lw_g (lw_at lw_m1 115 rfl) rfl
theorem q128 : (Jvm.Cond.constant "IDEAEngine" (55 : Nat) (65535 : Int32)) ∈ lw_all := lw_g (lw_at lw_m1 116 rfl) rfl
theorem q129 : (Jvm.Cond.methodLink "IDEAEngine" (85 : Nat) ({ cls := "IDEAEngine", name := "invertKey", desc := "([I)[I" } : Jvm.MethodName)) ∈ lw_all := lw_g (lw_at lw_m1 117 rfl) rfl
theorem q130 : (Jvm.Cond.privateMethod ({ cls := "IDEAEngine", name := "invertKey", desc := "([I)[I" } : Jvm.MethodName)) ∈ lw_tbl := lw_at lw_m1 118 rfl
theorem q131 : (Jvm.Cond.instanceMethod ({ cls := "IDEAEngine", name := "invertKey", desc := "([I)[I" } : Jvm.MethodName)) ∈ lw_all := lw_g (lw_at lw_m1 119 rfl) rfl
theorem q132 : (Jvm.Cond.code ({ cls := "IDEAEngine", name := "invertKey", desc := "([I)[I" } : Jvm.MethodName) prog_4_method_11_code (10 : Nat) (Option.some (Jvm.ClassFile.FieldType.array Jvm.ClassFile.FieldType.int))) ∈ lw_all := lw_g (lw_at lw_m1 120 rfl) rfl
theorem q133 : (Jvm.Cond.methodLink "IDEAEngine" (74 : Nat) ({ cls := "IDEAEngine", name := "mulInv", desc := "(I)I" } : Jvm.MethodName)) ∈ lw_all := lw_g (lw_at lw_m1 121 rfl) rfl
theorem q134 : (Jvm.Cond.privateMethod ({ cls := "IDEAEngine", name := "mulInv", desc := "(I)I" } : Jvm.MethodName)) ∈ lw_tbl := lw_at lw_m1 122 rfl
theorem q135 : (Jvm.Cond.instanceMethod ({ cls := "IDEAEngine", name := "mulInv", desc := "(I)I" } : Jvm.MethodName)) ∈ lw_all := lw_g (lw_at lw_m1 123 rfl) rfl
theorem q136 : (Jvm.Cond.code ({ cls := "IDEAEngine", name := "mulInv", desc := "(I)I" } : Jvm.MethodName) prog_4_method_9_code (6 : Nat) (Option.some Jvm.ClassFile.FieldType.int)) ∈ lw_all := lw_g (lw_at lw_m1 124 rfl) rfl
theorem q137 : (Jvm.Cond.constant "IDEAEngine" (54 : Nat) (65537 : Int32)) ∈ lw_all := lw_g (lw_at lw_m1 125 rfl) rfl
theorem q138 : (Jvm.Cond.methodLink "IDEAEngine" (78 : Nat) ({ cls := "IDEAEngine", name := "addInv", desc := "(I)I" } : Jvm.MethodName)) ∈ lw_all := lw_g (lw_at lw_m1 126 rfl) rfl
theorem q139 : (Jvm.Cond.instanceMethod ({ cls := "IDEAEngine", name := "addInv", desc := "(I)I" } : Jvm.MethodName)) ∈ lw_all := lw_g (lw_at lw_m1 127 rfl) rfl
theorem q140 : (Jvm.Cond.selects "IDEAEngine" ({ cls := "IDEAEngine", name := "addInv", desc := "(I)I" } : Jvm.MethodName) ({ cls := "IDEAEngine", name := "addInv", desc := "(I)I" } : Jvm.MethodName)) ∈ lw_all := lw_g (lw_at lw_m1 128 rfl) rfl
theorem q141 : (Jvm.Cond.code ({ cls := "IDEAEngine", name := "addInv", desc := "(I)I" } : Jvm.MethodName) prog_4_method_10_code (2 : Nat) (Option.some Jvm.ClassFile.FieldType.int)) ∈ lw_all := lw_g (lw_at lw_m1 129 rfl) rfl
theorem q142 : (Jvm.Cond.classLink "IDEAEngine" (27 : Nat) "java/lang/IllegalArgumentException") ∈ lw_all := lw_g (lw_at lw_m1 130 rfl) rfl
theorem q184 : (Jvm.Cond.stringRef "IDEAEngine" (29 : Nat) "left out") ∈ lw_tbl := lw_at lw_m1 172 rfl
theorem q185 : (Jvm.Cond.methodLink "IDEAEngine" (31 : Nat) ({ cls := "java/lang/IllegalArgumentException", name := "<init>", desc := "(Ljava/lang/String;)V" } : Jvm.MethodName)) ∈ lw_all := lw_g (lw_at lw_m1 173 rfl) rfl
theorem q215 : (Jvm.Cond.selects "IDEAEngine" ({ cls := "BlockCipher", name := "processBlock", desc := "([BI[BI)I" } : Jvm.MethodName) ({ cls := "IDEAEngine", name := "processBlock", desc := "([BI[BI)I" } : Jvm.MethodName)) ∈ lw_all := lw_g (lw_at lw_m1 203 rfl) rfl
theorem q216 : (Jvm.Cond.unhidden "IDEAEngine" "processBlock" "([BI[BI)I") ∈ lw_tbl := lw_at lw_m1 204 rfl
theorem q217 : (Jvm.Cond.instanceMethod ({ cls := "IDEAEngine", name := "processBlock", desc := "([BI[BI)I" } : Jvm.MethodName)) ∈ lw_all := lw_g (lw_at lw_m1 205 rfl) rfl
theorem q218 : (Jvm.Cond.publicMethod ({ cls := "IDEAEngine", name := "processBlock", desc := "([BI[BI)I" } : Jvm.MethodName)) ∈ lw_tbl := lw_at lw_m1 206 rfl
theorem q219 : (Jvm.Cond.code ({ cls := "IDEAEngine", name := "processBlock", desc := "([BI[BI)I" } : Jvm.MethodName) prog_4_method_3_code (5 : Nat) (Option.some Jvm.ClassFile.FieldType.int)) ∈ lw_all := lw_g (lw_at lw_m1 207 rfl) rfl
theorem q220 : (Jvm.Cond.classLink "IDEAEngine" (34 : Nat) "java/lang/IllegalStateException") ∈ lw_all := lw_g (lw_at lw_m1 208 rfl) rfl
theorem q229 : (Jvm.Cond.stringRef "IDEAEngine" (36 : Nat) "IDEA engine not initialised") ∈ lw_tbl := lw_at lw_m1 217 rfl
theorem q230 : (Jvm.Cond.methodLink "IDEAEngine" (38 : Nat) ({ cls := "java/lang/IllegalStateException", name := "<init>", desc := "(Ljava/lang/String;)V" } : Jvm.MethodName)) ∈ lw_all := lw_g (lw_at lw_m1 218 rfl) rfl
theorem q236 : (Jvm.Cond.classLink "IDEAEngine" (39 : Nat) "DataLengthException") ∈ lw_all := lw_g (lw_at lw_m1 224 rfl) rfl
theorem q246 : (Jvm.Cond.stringRef "IDEAEngine" (41 : Nat) "input buffer too short") ∈ lw_tbl := lw_at lw_m1 234 rfl
theorem q247 : (Jvm.Cond.methodLink "IDEAEngine" (43 : Nat) ({ cls := "DataLengthException", name := "<init>", desc := "(Ljava/lang/String;)V" } : Jvm.MethodName)) ∈ lw_all := lw_g (lw_at lw_m1 235 rfl) rfl
theorem q256 : (Jvm.Cond.classLink "IDEAEngine" (44 : Nat) "OutputLengthException") ∈ lw_all := lw_g (lw_at lw_m2 4 rfl) rfl
theorem q266 : (Jvm.Cond.stringRef "IDEAEngine" (46 : Nat) "output buffer too short") ∈ lw_tbl := lw_at lw_m2 14 rfl
theorem q267 : (Jvm.Cond.methodLink "IDEAEngine" (48 : Nat) ({ cls := "OutputLengthException", name := "<init>", desc := "(Ljava/lang/String;)V" } : Jvm.MethodName)) ∈ lw_all := lw_g (lw_at lw_m2 15 rfl) rfl
theorem q273 : (Jvm.Cond.methodLink "IDEAEngine" (49 : Nat) ({ cls := "IDEAEngine", name := "ideaFunc", desc := "([I[BI[BI)V" } : Jvm.MethodName)) ∈ lw_all := lw_g (lw_at lw_m2 21 rfl) rfl
theorem q274 : (Jvm.Cond.privateMethod ({ cls := "IDEAEngine", name := "ideaFunc", desc := "([I[BI[BI)V" } : Jvm.MethodName)) ∈ lw_tbl := lw_at lw_m2 22 rfl
theorem q275 : (Jvm.Cond.instanceMethod ({ cls := "IDEAEngine", name := "ideaFunc", desc := "([I[BI[BI)V" } : Jvm.MethodName)) ∈ lw_all := lw_g (lw_at lw_m2 23 rfl) rfl
theorem q276 : (Jvm.Cond.code ({ cls := "IDEAEngine", name := "ideaFunc", desc := "([I[BI[BI)V" } : Jvm.MethodName) prog_4_method_7_code (14 : Nat) (Option.none : Option Jvm.ClassFile.FieldType)) ∈ lw_all := lw_g (lw_at lw_m2 24 rfl) rfl
theorem q277 : (Jvm.Cond.methodLink "IDEAEngine" (60 : Nat) ({ cls := "IDEAEngine", name := "mul", desc := "(II)I" } : Jvm.MethodName)) ∈ lw_all := lw_g (lw_at lw_m2 25 rfl) rfl
theorem q278 : (Jvm.Cond.privateMethod ({ cls := "IDEAEngine", name := "mul", desc := "(II)I" } : Jvm.MethodName)) ∈ lw_tbl := lw_at lw_m2 26 rfl
theorem q279 : (Jvm.Cond.instanceMethod ({ cls := "IDEAEngine", name := "mul", desc := "(II)I" } : Jvm.MethodName)) ∈ lw_all := lw_g (lw_at lw_m2 27 rfl) rfl
theorem q280 : (Jvm.Cond.code ({ cls := "IDEAEngine", name := "mul", desc := "(II)I" } : Jvm.MethodName) prog_4_method_6_code (4 : Nat) (Option.some Jvm.ClassFile.FieldType.int)) ∈ lw_all := lw_g (lw_at lw_m2 28 rfl) rfl
theorem q281 : (Jvm.Cond.methodLink "IDEAEngine" (64 : Nat) ({ cls := "IDEAEngine", name := "wordToBytes", desc := "(I[BI)V" } : Jvm.MethodName)) ∈ lw_all := lw_g (lw_at lw_m2 29 rfl) rfl
theorem q282 : (Jvm.Cond.privateMethod ({ cls := "IDEAEngine", name := "wordToBytes", desc := "(I[BI)V" } : Jvm.MethodName)) ∈ lw_tbl := lw_at lw_m2 30 rfl
theorem q283 : (Jvm.Cond.instanceMethod ({ cls := "IDEAEngine", name := "wordToBytes", desc := "(I[BI)V" } : Jvm.MethodName)) ∈ lw_all := lw_g (lw_at lw_m2 31 rfl) rfl
theorem q284 : (Jvm.Cond.code ({ cls := "IDEAEngine", name := "wordToBytes", desc := "(I[BI)V" } : Jvm.MethodName) prog_4_method_5_code (4 : Nat) (Option.none : Option Jvm.ClassFile.FieldType)) ∈ lw_all := lw_g (lw_at lw_m2 32 rfl) rfl
theorem in_X2 : ∀ w ∈ wsX20, w ∈ lw_all := lw_in wsX20 [75, 77] (by decide +kernel) (by decide +kernel)
abbrev vwCl : List vw_C := [(RX0, TX0, 3), (RX1, TX1, 3), (RX2, TX2, 2), (RX3, TX3, 1)]
end
section
/-! LEAVES: methods that compute, read, or write bytes -/
set_option maxHeartbeats 4000000 in
set_option maxRecDepth 100000 in
/-- IDEAEngine.mul -/
theorem met_mul (l : Launch) (h0 : Nat) {a b : Nat} (ha : a < 65536) (hb2 : b < 65536) : Met l yX2_mul (ws_ yX2_mul cX2_mul 4 (some .int)) ({ frames := 0, cells := 0, slots := 0, locals := 0 }) (va_Pc [.ref h0, .int (nI a), .int (nI b)] im_P0) (vp_Si (fun r => r = nI (mulS a b))) 0 0 (fun _ => False) := by
  refine Met.ofW (cc := cX2_mul) (maxL := 4) (ret := (some .int)) (by decide) rfl ?_
  intro p e s m args below meth c s₁ B hml hv
  obtain ⟨rfl, -⟩ := hv
  have hx := B.exec
  have hb := B.bytes
  have hr := B.returns
  have hts := atoms_spec (ws := (ws_ yX2_mul cX2_mul 4 (some .int))) B.pre
  have hts : ∀ w ∈ lw_all, w.before _ s = true := fun w h => hts w (List.mem_cons_of_mem _ h)
  have hown : s.vm.findClass RX2 = some m.cls := findClass_of_methodNamed B.named
  have hlocks := B.notSynchronized
  have hl := lv_entry ([.ref h0, .int (nI a), .int (nI b)]) (n := 4) (Nat.le_of_ble_eq_true rfl)
  rw [lg_entry_eq]
  generalize (lg_sl ([.ref h0, .int (nI a), .int (nI b)]) ++ List.replicate (4 - (lg_sl ([.ref h0, .int (nI a), .int (nI b)])).length) Slot.unset).toArray = ls at hl ⊢
  have hl : lv_has ls 4 [(0, .ref h0), (1, .int (nI a)), (2, .int (nI b))] := hl
  refine lv_iload_n hx hb dX2_mul_0 rfl (lv_at hl 1 rfl) ?_
  refine lv_if_ne (tgt := 12) hx hb dX2_mul_1 (by decide) (fun c_1 => ?_) (fun c_1 => ?_)
  · have c_1 : ¬ (a = 0) := fun z => c_1 ((nI_eq (a := a) (b := 0) (by omega) (by omega)).mpr z)
    refine lv_iload_n hx hb dX2_mul_12 rfl (lv_at hl 2 rfl) ?_
    refine lv_if_ne (tgt := 24) hx hb dX2_mul_13 (by decide) (fun c_13 => ?_) (fun c_13 => ?_)
    · have c_13 : ¬ (b = 0) := fun z => c_13 ((nI_eq (a := b) (b := 0) (by omega) (by omega)).mpr z)
      have hp := im_prod ha hb2
      refine lv_iload_n hx hb dX2_mul_24 rfl (lv_at hl 1 rfl) ?_
      refine lv_iload_n hx hb dX2_mul_25 rfl (lv_at hl 2 rfl) ?_
      refine lv_imul hx hb dX2_mul_26 ?_
      refine im_top (y := nI (a * b)) (pk_mul a b) ?_
      refine lv_istore_n (lv' := [(3, .int (nI (a * b))), (0, .ref h0), (1, .int (nI a)), (2, .int (nI b))]) hx hb dX2_mul_27 rfl hl (by decide) rfl (fun ls hl => ?_)
      refine lv_iload_n hx hb dX2_mul_28 rfl (lv_at hl 0 rfl) ?_
      refine lv_ldc hx hb hown (hts _ q128) dX2_mul_29 ?_
      refine lv_iand hx hb dX2_mul_31 ?_
      refine im_top (y := nI ((a * b) % 65536)) (nx_mod (a * b)) ?_
      refine lv_istore_n (lv' := [(2, .int (nI ((a * b) % 65536))), (3, .int (nI (a * b))), (0, .ref h0), (1, .int (nI a))]) hx hb dX2_mul_32 rfl hl (by decide) rfl (fun ls hl => ?_)
      refine lv_iload_n hx hb dX2_mul_33 rfl (lv_at hl 1 rfl) ?_
      refine lv_bipush (v := nI 16) hx hb dX2_mul_34 (by decide) ?_
      refine lv_iushr hx hb dX2_mul_36 rfl ?_
      refine im_top (y := nI (a * b / 65536)) (pk_ushrN (n := a * b) (by omega) (nI 16) 16 (by decide)) ?_
      refine lv_istore_n (lv' := [(1, .int (nI (a * b / 65536))), (2, .int (nI ((a * b) % 65536))), (3, .int (nI (a * b))), (0, .ref h0)]) hx hb dX2_mul_37 rfl hl (by decide) rfl (fun ls hl => ?_)
      refine lv_iload_n hx hb dX2_mul_38 rfl (lv_at hl 1 rfl) ?_
      refine lv_iload_n hx hb dX2_mul_39 rfl (lv_at hl 0 rfl) ?_
      refine lv_isub hx hb dX2_mul_40 ?_
      refine lv_iload_n hx hb dX2_mul_41 rfl (lv_at hl 1 rfl) ?_
      refine lv_iload_n hx hb dX2_mul_42 rfl (lv_at hl 0 rfl) ?_
      refine lv_icmp_ge (tgt := 50) hx hb dX2_mul_43 (by decide) (fun c_43 => ?_) (fun c_43 => ?_)
      · have c_43 : (a * b / 65536) ≤ ((a * b) % 65536) := (nI_leI (a := a * b / 65536) (b := (a * b) % 65536) (by omega) (by omega)).mp c_43
        refine lv_iconst (v := nI 0) hx hb dX2_mul_50 (by decide) ?_
        refine lv_iadd hx hb dX2_mul_51 ?_
        refine im_top (y := nI (a * b % 65536 - a * b / 65536)) (by rw [pk_sub (a := a * b % 65536) (b := a * b / 65536) (by omega), nI_add, Nat.add_zero]) ?_
        refine lv_istore_n (lv' := [(1, .int (nI (a * b % 65536 - a * b / 65536))), (2, .int (nI ((a * b) % 65536))), (3, .int (nI (a * b))), (0, .ref h0)]) hx hb dX2_mul_52 rfl hl (by decide) rfl (fun ls hl => ?_)
        refine lv_iload_n hx hb dX2_mul_53 rfl (lv_at hl 0 rfl) ?_
        refine lv_ldc hx hb hown (hts _ q128) dX2_mul_54 ?_
        refine lv_iand hx hb dX2_mul_56 ?_
        refine im_top (y := nI ((a * b % 65536 - a * b / 65536) % 65536)) (nx_mod (a * b % 65536 - a * b / 65536)) ?_
        exact W.iret (v := nI ((a * b % 65536 - a * b / 65536) % 65536)) hx hb hr (fun t ht hW => ⟨_, rfl, congrArg nI (mulS_c ha hb2 c_1 c_13 c_43), ht⟩) (fun q hq => by cases hq) dX2_mul_57
      · have c_43 : ¬ ((a * b / 65536) ≤ ((a * b) % 65536)) := fun z => c_43 ((nI_leI (a := a * b / 65536) (b := (a * b) % 65536) (by omega) (by omega)).mpr z)
        refine lv_iconst (v := nI 1) hx hb dX2_mul_46 (by decide) ?_
        refine lv_goto (tgt := 51) hx hb dX2_mul_47 (by decide) ?_
        refine lv_iadd hx hb dX2_mul_51 ?_
        refine lv_istore_n (lv' := [(1, .int (((nI ((a * b) % 65536)) - (nI (a * b / 65536))) + (nI 1))), (2, .int (nI ((a * b) % 65536))), (3, .int (nI (a * b))), (0, .ref h0)]) hx hb dX2_mul_52 rfl hl (by decide) rfl (fun ls hl => ?_)
        refine lv_iload_n hx hb dX2_mul_53 rfl (lv_at hl 0 rfl) ?_
        refine lv_ldc hx hb hown (hts _ q128) dX2_mul_54 ?_
        refine lv_iand hx hb dX2_mul_56 ?_
        refine im_top (y := nI ((a * b % 65536 + 65537 - a * b / 65536) % 65536)) (im_mask (lo := a * b % 65536) (hi := a * b / 65536) (by omega) (by omega)) ?_
        exact W.iret (v := nI ((a * b % 65536 + 65537 - a * b / 65536) % 65536)) hx hb hr (fun t ht hW => ⟨_, rfl, congrArg nI (mulS_d ha hb2 c_1 c_13 (by omega)), ht⟩) (fun q hq => by cases hq) dX2_mul_57
    · have c_13 : b = 0 := (nI_eq (a := b) (b := 0) (by omega) (by omega)).mp c_13
      refine lv_ldc hx hb hown (hts _ q137) dX2_mul_16 ?_
      refine lv_iload_n hx hb dX2_mul_18 rfl (lv_at hl 1 rfl) ?_
      refine lv_isub hx hb dX2_mul_19 ?_
      refine im_top (y := nI (65537 - a)) (pk_sub (a := 65537) (b := a) (by omega)) ?_
      refine lv_istore_n (lv' := [(1, .int (nI (65537 - a))), (0, .ref h0), (2, .int (nI b))]) hx hb dX2_mul_20 rfl hl (by decide) rfl (fun ls hl => ?_)
      refine lv_goto (tgt := 53) hx hb dX2_mul_21 (by decide) ?_
      refine lv_iload_n hx hb dX2_mul_53 rfl (lv_at hl 0 rfl) ?_
      refine lv_ldc hx hb hown (hts _ q128) dX2_mul_54 ?_
      refine lv_iand hx hb dX2_mul_56 ?_
      refine im_top (y := nI ((65537 - a) % 65536)) (nx_mod (65537 - a)) ?_
      have c_13 : b = 0 := c_13
      subst c_13
      exact W.iret (v := nI ((65537 - a) % 65536)) hx hb hr (fun t ht hW => ⟨_, rfl, congrArg nI (mulS_b ha c_1), ht⟩) (fun q hq => by cases hq) dX2_mul_57
  · have c_1 : a = 0 := (nI_eq (a := a) (b := 0) (by omega) (by omega)).mp c_1
    refine lv_ldc hx hb hown (hts _ q137) dX2_mul_4 ?_
    refine lv_iload_n hx hb dX2_mul_6 rfl (lv_at hl 2 rfl) ?_
    refine lv_isub hx hb dX2_mul_7 ?_
    refine im_top (y := nI (65537 - b)) (pk_sub (a := 65537) (b := b) (by omega)) ?_
    refine lv_istore_n (lv' := [(1, .int (nI (65537 - b))), (0, .ref h0), (2, .int (nI b))]) hx hb dX2_mul_8 rfl hl (by decide) rfl (fun ls hl => ?_)
    refine lv_goto (tgt := 53) hx hb dX2_mul_9 (by decide) ?_
    refine lv_iload_n hx hb dX2_mul_53 rfl (lv_at hl 0 rfl) ?_
    refine lv_ldc hx hb hown (hts _ q128) dX2_mul_54 ?_
    refine lv_iand hx hb dX2_mul_56 ?_
    refine im_top (y := nI ((65537 - b) % 65536)) (nx_mod (65537 - b)) ?_
    have c_1 : a = 0 := c_1
    subst c_1
    exact W.iret (v := nI ((65537 - b) % 65536)) hx hb hr (fun t ht hW => ⟨_, rfl, congrArg nI (mulS_a hb2), ht⟩) (fun q hq => by cases hq) dX2_mul_57
set_option maxHeartbeats 4000000 in
set_option maxRecDepth 100000 in
/-- IdeaDeskModel.times -/
theorem met_times (l : Launch) {a b : Nat} (ha : a < 65536) (hb2 : b < 65536) : Met l yX1_times (ws_ yX1_times cX1_times 6 (some .int)) ({ frames := 0, cells := 0, slots := 0, locals := 0 }) (va_Pc [.int (nI a), .int (nI b)] im_P0) (vp_Si (fun r => r = nI (mulS a b))) 0 0 (fun _ => False) := by
  refine Met.ofW (cc := cX1_times) (maxL := 6) (ret := (some .int)) (by decide) rfl ?_
  intro p e s m args below meth c s₁ B hml hv
  obtain ⟨rfl, -⟩ := hv
  have hx := B.exec
  have hb := B.bytes
  have hr := B.returns
  have hts := atoms_spec (ws := (ws_ yX1_times cX1_times 6 (some .int))) B.pre
  have hts : ∀ w ∈ lw_all, w.before _ s = true := fun w h => hts w (List.mem_cons_of_mem _ h)
  have hown : s.vm.findClass RX1 = some m.cls := findClass_of_methodNamed B.named
  have hlocks := B.notSynchronized
  have hl := lv_entry ([.int (nI a), .int (nI b)]) (n := 6) (Nat.le_of_ble_eq_true rfl)
  rw [lg_entry_eq]
  generalize (lg_sl ([.int (nI a), .int (nI b)]) ++ List.replicate (6 - (lg_sl ([.int (nI a), .int (nI b)])).length) Slot.unset).toArray = ls at hl ⊢
  have hl : lv_has ls 6 [(0, .int (nI a)), (1, .int (nI b))] := hl
  refine lv_iload_n hx hb dX1_times_0 rfl (lv_at hl 0 rfl) ?_
  refine lv_if_ne (tgt := 10) hx hb dX1_times_1 (by decide) (fun c_1 => ?_) (fun c_1 => ?_)
  · have c_1 : ¬ (a = 0) := fun z => c_1 ((nI_eq (a := a) (b := 0) (by omega) (by omega)).mpr z)
    have za : z6 a = a := z6_n c_1
    refine lv_iload_n hx hb dX1_times_10 rfl (lv_at hl 0 rfl) ?_
    refine lv_i2l (v := lN a) hx hb dX1_times_11 (nI_l (n := a) (by omega)) ?_
    refine lv_lstore_n (lv' := [(2, .long (lN a)), (0, .int (nI a)), (1, .int (nI b))]) hx hb dX1_times_12 rfl hl (by decide) rfl (fun ls hl => ?_)
    refine lv_iload_n hx hb dX1_times_13 rfl (lv_at hl 2 rfl) ?_
    refine lv_if_ne (tgt := 23) hx hb dX1_times_14 (by decide) (fun c_14 => ?_) (fun c_14 => ?_)
    · have c_14 : ¬ (b = 0) := fun z => c_14 ((nI_eq (a := b) (b := 0) (by omega) (by omega)).mpr z)
      have zb : z6 b = b := z6_n c_14
      have hp : a * b < 2 ^ 63 := Nat.lt_of_le_of_lt (Nat.mul_le_mul (show a ≤ 65536 by omega) (show b ≤ 65536 by omega)) (by decide)
      refine lv_iload_n hx hb dX1_times_23 rfl (lv_at hl 2 rfl) ?_
      refine lv_i2l (v := lN b) hx hb dX1_times_24 (nI_l (n := b) (by omega)) ?_
      refine lv_lstore (lv' := [(4, .long (lN b)), (2, .long (lN a)), (0, .int (nI a)), (1, .int (nI b))]) hx hb dX1_times_25 hl (by decide) rfl (fun ls hl => ?_)
      refine lv_lload_n hx hb dX1_times_27 rfl (lv_at hl 1 rfl) ?_
      refine lv_lload hx hb dX1_times_28 (lv_at hl 0 rfl) ?_
      refine lv_lmul hx hb dX1_times_30 ?_
      refine im_topl (lN_mul a b) ?_
      refine lv_ldc2 (v := lN 65537) hx hb hown (hts _ q343) dX1_times_31 ?_
      refine lv_lrem hx hb dX1_times_34 (by decide) ?_
      refine im_topl (pk_lRem (a := a * b) (b := 65537) (by exact hp) (by decide) (by decide)) ?_
      refine lv_l2i (v := nI ((a * b) % 65537)) hx hb dX1_times_35 (lN_i ((a * b) % 65537)) ?_
      refine lv_ldc hx hb hown (hts _ q344) dX1_times_36 ?_
      refine lv_iand hx hb dX1_times_38 ?_
      refine im_top (y := nI (((a * b) % 65537) % 65536)) (nx_mod ((a * b) % 65537)) ?_
      exact W.iret (v := nI (((a * b) % 65537) % 65536)) hx hb hr (fun t ht hW => ⟨_, rfl, by show nI _ = nI (mulS a b); unfold mulS; rw [za, zb], ht⟩) (fun q hq => by cases hq) dX1_times_39
    · have c_14 : b = 0 := (nI_eq (a := b) (b := 0) (by omega) (by omega)).mp c_14
      have zb : z6 b = 65536 := by rw [c_14]; rfl
      have hp : a * 65536 < 2 ^ 63 := Nat.lt_of_le_of_lt (Nat.mul_le_mul (show a ≤ 65536 by omega) (show 65536 ≤ 65536 by omega)) (by decide)
      refine lv_ldc2 (v := lN 65536) hx hb hown (hts _ q342) dX1_times_17 ?_
      refine lv_goto (tgt := 25) hx hb dX1_times_20 (by decide) ?_
      refine lv_lstore (lv' := [(4, .long (lN 65536)), (2, .long (lN a)), (0, .int (nI a)), (1, .int (nI b))]) hx hb dX1_times_25 hl (by decide) rfl (fun ls hl => ?_)
      refine lv_lload_n hx hb dX1_times_27 rfl (lv_at hl 1 rfl) ?_
      refine lv_lload hx hb dX1_times_28 (lv_at hl 0 rfl) ?_
      refine lv_lmul hx hb dX1_times_30 ?_
      refine im_topl (lN_mul a 65536) ?_
      refine lv_ldc2 (v := lN 65537) hx hb hown (hts _ q343) dX1_times_31 ?_
      refine lv_lrem hx hb dX1_times_34 (by decide) ?_
      refine im_topl (pk_lRem (a := a * 65536) (b := 65537) (by exact hp) (by decide) (by decide)) ?_
      refine lv_l2i (v := nI ((a * 65536) % 65537)) hx hb dX1_times_35 (lN_i ((a * 65536) % 65537)) ?_
      refine lv_ldc hx hb hown (hts _ q344) dX1_times_36 ?_
      refine lv_iand hx hb dX1_times_38 ?_
      refine im_top (y := nI (((a * 65536) % 65537) % 65536)) (nx_mod ((a * 65536) % 65537)) ?_
      exact W.iret (v := nI (((a * 65536) % 65537) % 65536)) hx hb hr (fun t ht hW => ⟨_, rfl, by show nI _ = nI (mulS a b); unfold mulS; rw [za, zb], ht⟩) (fun q hq => by cases hq) dX1_times_39
  · have c_1 : a = 0 := (nI_eq (a := a) (b := 0) (by omega) (by omega)).mp c_1
    have za : z6 a = 65536 := by rw [c_1]; rfl
    refine lv_ldc2 (v := lN 65536) hx hb hown (hts _ q342) dX1_times_4 ?_
    refine lv_goto (tgt := 12) hx hb dX1_times_7 (by decide) ?_
    refine lv_lstore_n (lv' := [(2, .long (lN 65536)), (0, .int (nI a)), (1, .int (nI b))]) hx hb dX1_times_12 rfl hl (by decide) rfl (fun ls hl => ?_)
    refine lv_iload_n hx hb dX1_times_13 rfl (lv_at hl 2 rfl) ?_
    refine lv_if_ne (tgt := 23) hx hb dX1_times_14 (by decide) (fun c_14 => ?_) (fun c_14 => ?_)
    · have c_14 : ¬ (b = 0) := fun z => c_14 ((nI_eq (a := b) (b := 0) (by omega) (by omega)).mpr z)
      have zb : z6 b = b := z6_n c_14
      have hp : 65536 * b < 2 ^ 63 := Nat.lt_of_le_of_lt (Nat.mul_le_mul (show 65536 ≤ 65536 by omega) (show b ≤ 65536 by omega)) (by decide)
      refine lv_iload_n hx hb dX1_times_23 rfl (lv_at hl 2 rfl) ?_
      refine lv_i2l (v := lN b) hx hb dX1_times_24 (nI_l (n := b) (by omega)) ?_
      refine lv_lstore (lv' := [(4, .long (lN b)), (2, .long (lN 65536)), (0, .int (nI a)), (1, .int (nI b))]) hx hb dX1_times_25 hl (by decide) rfl (fun ls hl => ?_)
      refine lv_lload_n hx hb dX1_times_27 rfl (lv_at hl 1 rfl) ?_
      refine lv_lload hx hb dX1_times_28 (lv_at hl 0 rfl) ?_
      refine lv_lmul hx hb dX1_times_30 ?_
      refine im_topl (lN_mul 65536 b) ?_
      refine lv_ldc2 (v := lN 65537) hx hb hown (hts _ q343) dX1_times_31 ?_
      refine lv_lrem hx hb dX1_times_34 (by decide) ?_
      refine im_topl (pk_lRem (a := 65536 * b) (b := 65537) (by exact hp) (by decide) (by decide)) ?_
      refine lv_l2i (v := nI ((65536 * b) % 65537)) hx hb dX1_times_35 (lN_i ((65536 * b) % 65537)) ?_
      refine lv_ldc hx hb hown (hts _ q344) dX1_times_36 ?_
      refine lv_iand hx hb dX1_times_38 ?_
      refine im_top (y := nI (((65536 * b) % 65537) % 65536)) (nx_mod ((65536 * b) % 65537)) ?_
      exact W.iret (v := nI (((65536 * b) % 65537) % 65536)) hx hb hr (fun t ht hW => ⟨_, rfl, by show nI _ = nI (mulS a b); unfold mulS; rw [za, zb], ht⟩) (fun q hq => by cases hq) dX1_times_39
    · have c_14 : b = 0 := (nI_eq (a := b) (b := 0) (by omega) (by omega)).mp c_14
      have zb : z6 b = 65536 := by rw [c_14]; rfl
      have hp : 65536 * 65536 < 2 ^ 63 := Nat.lt_of_le_of_lt (Nat.mul_le_mul (show 65536 ≤ 65536 by omega) (show 65536 ≤ 65536 by omega)) (by decide)
      refine lv_ldc2 (v := lN 65536) hx hb hown (hts _ q342) dX1_times_17 ?_
      refine lv_goto (tgt := 25) hx hb dX1_times_20 (by decide) ?_
      refine lv_lstore (lv' := [(4, .long (lN 65536)), (2, .long (lN 65536)), (0, .int (nI a)), (1, .int (nI b))]) hx hb dX1_times_25 hl (by decide) rfl (fun ls hl => ?_)
      refine lv_lload_n hx hb dX1_times_27 rfl (lv_at hl 1 rfl) ?_
      refine lv_lload hx hb dX1_times_28 (lv_at hl 0 rfl) ?_
      refine lv_lmul hx hb dX1_times_30 ?_
      refine im_topl (lN_mul 65536 65536) ?_
      refine lv_ldc2 (v := lN 65537) hx hb hown (hts _ q343) dX1_times_31 ?_
      refine lv_lrem hx hb dX1_times_34 (by decide) ?_
      refine im_topl (pk_lRem (a := 65536 * 65536) (b := 65537) (by exact hp) (by decide) (by decide)) ?_
      refine lv_l2i (v := nI ((65536 * 65536) % 65537)) hx hb dX1_times_35 (lN_i ((65536 * 65536) % 65537)) ?_
      refine lv_ldc hx hb hown (hts _ q344) dX1_times_36 ?_
      refine lv_iand hx hb dX1_times_38 ?_
      refine im_top (y := nI (((65536 * 65536) % 65537) % 65536)) (nx_mod ((65536 * 65536) % 65537)) ?_
      exact W.iret (v := nI (((65536 * 65536) % 65537) % 65536)) hx hb hr (fun t ht hW => ⟨_, rfl, by show nI _ = nI (mulS a b); unfold mulS; rw [za, zb], ht⟩) (fun q hq => by cases hq) dX1_times_39
set_option maxHeartbeats 4000000 in
set_option maxRecDepth 100000 in
/-- IdeaDeskModel.less -/
theorem met_less (l : Launch) {a : Nat} (ha : a < 65536) : Met l yX1_less (ws_ yX1_less cX1_less 1 (some .int)) ({ frames := 0, cells := 0, slots := 0, locals := 0 }) (va_Pc [.int (nI a)] im_P0) (vp_Si (fun r => r = nI (negS a))) 0 0 (fun _ => False) := by
  refine Met.ofW (cc := cX1_less) (maxL := 1) (ret := (some .int)) (by decide) rfl ?_
  intro p e s m args below meth c s₁ B hml hv
  obtain ⟨rfl, -⟩ := hv
  have hx := B.exec
  have hb := B.bytes
  have hr := B.returns
  have hts := atoms_spec (ws := (ws_ yX1_less cX1_less 1 (some .int))) B.pre
  have hts : ∀ w ∈ lw_all, w.before _ s = true := fun w h => hts w (List.mem_cons_of_mem _ h)
  have hown : s.vm.findClass RX1 = some m.cls := findClass_of_methodNamed B.named
  have hlocks := B.notSynchronized
  have hl := lv_entry ([.int (nI a)]) (n := 1) (Nat.le_of_ble_eq_true rfl)
  rw [lg_entry_eq]
  generalize (lg_sl ([.int (nI a)]) ++ List.replicate (1 - (lg_sl ([.int (nI a)])).length) Slot.unset).toArray = ls at hl ⊢
  have hl : lv_has ls 1 [(0, .int (nI a))] := hl
  refine lv_iload_n hx hb dX1_less_0 rfl (lv_at hl 0 rfl) ?_
  refine lv_ineg hx hb dX1_less_1 ?_
  refine lv_ldc hx hb hown (hts _ q344) dX1_less_2 ?_
  refine lv_iand hx hb dX1_less_4 ?_
  refine im_top (y := nI (negS a)) (im_negM ha) ?_
  exact W.iret (v := nI (negS a)) hx hb hr (fun t ht hW => ⟨_, rfl, rfl, ht⟩) (fun q hq => by cases hq) dX1_less_5
set_option maxHeartbeats 4000000 in
set_option maxRecDepth 100000 in
/-- IDEAEngine.addInv -/
theorem met_addInv (l : Launch) (h0 : Nat) {a : Nat} (ha : a < 65536) : Met l yX2_addInv (ws_ yX2_addInv cX2_addInv 2 (some .int)) ({ frames := 0, cells := 0, slots := 0, locals := 0 }) (va_Pc [.ref h0, .int (nI a)] im_P0) (vp_Si (fun r => r = nI (negS a))) 0 0 (fun _ => False) := by
  refine Met.ofW (cc := cX2_addInv) (maxL := 2) (ret := (some .int)) (by decide) rfl ?_
  intro p e s m args below meth c s₁ B hml hv
  obtain ⟨rfl, -⟩ := hv
  have hx := B.exec
  have hb := B.bytes
  have hr := B.returns
  have hts := atoms_spec (ws := (ws_ yX2_addInv cX2_addInv 2 (some .int))) B.pre
  have hts : ∀ w ∈ lw_all, w.before _ s = true := fun w h => hts w (List.mem_cons_of_mem _ h)
  have hown : s.vm.findClass RX2 = some m.cls := findClass_of_methodNamed B.named
  have hlocks := B.notSynchronized
  have hl := lv_entry ([.ref h0, .int (nI a)]) (n := 2) (Nat.le_of_ble_eq_true rfl)
  rw [lg_entry_eq]
  generalize (lg_sl ([.ref h0, .int (nI a)]) ++ List.replicate (2 - (lg_sl ([.ref h0, .int (nI a)])).length) Slot.unset).toArray = ls at hl ⊢
  have hl : lv_has ls 2 [(0, .ref h0), (1, .int (nI a))] := hl
  refine lv_iconst (v := nI 0) hx hb dX2_addInv_0 (by decide) ?_
  refine lv_iload_n hx hb dX2_addInv_1 rfl (lv_at hl 1 rfl) ?_
  refine lv_isub hx hb dX2_addInv_2 ?_
  refine lv_ldc hx hb hown (hts _ q128) dX2_addInv_3 ?_
  refine lv_iand hx hb dX2_addInv_5 ?_
  refine im_top (y := nI (negS a)) (im_negE ha) ?_
  exact W.iret (v := nI (negS a)) hx hb hr (fun t ht hW => ⟨_, rfl, rfl, ht⟩) (fun q hq => by cases hq) dX2_addInv_6
set_option maxHeartbeats 4000000 in
set_option maxRecDepth 100000 in
/-- IdeaDesk.size -/
theorem met_size (l : Launch) (k : Int32) : Met l yX0_size (ws_ yX0_size cX0_size 1 (some .int)) ({ frames := 0, cells := 0, slots := 0, locals := 0 }) (va_Pc [.int k] im_P0) (vp_Si (fun r => r = nI 16)) 0 0 (fun _ => False) := by
  refine Met.ofW (cc := cX0_size) (maxL := 1) (ret := (some .int)) (by decide) rfl ?_
  intro p e s m args below meth c s₁ B hml hv
  obtain ⟨rfl, -⟩ := hv
  have hx := B.exec
  have hb := B.bytes
  have hr := B.returns
  have hts := atoms_spec (ws := (ws_ yX0_size cX0_size 1 (some .int))) B.pre
  have hts : ∀ w ∈ lw_all, w.before _ s = true := fun w h => hts w (List.mem_cons_of_mem _ h)
  have hown : s.vm.findClass RX0 = some m.cls := findClass_of_methodNamed B.named
  have hlocks := B.notSynchronized
  have hl := lv_entry ([.int k]) (n := 1) (Nat.le_of_ble_eq_true rfl)
  rw [lg_entry_eq]
  generalize (lg_sl ([.int k]) ++ List.replicate (1 - (lg_sl ([.int k])).length) Slot.unset).toArray = ls at hl ⊢
  have hl : lv_has ls 1 [(0, .int k)] := hl
  refine lv_bipush (v := nI 16) hx hb dX0_size_0 (by decide) ?_
  exact W.iret (v := nI 16) hx hb hr (fun t ht hW => ⟨_, rfl, rfl, ht⟩) (fun q hq => by cases hq) dX0_size_2
set_option maxHeartbeats 4000000 in
set_option maxRecDepth 100000 in
/-- IdeaDeskModel.half -/
theorem met_half (l : Launch) (D : va_G) (h1 : Nat) (d1 : ClassId) (n1 : Nat) (f : Nat → Int32) (i : Nat) (hi : i + 1 < n1) (hn : n1 < 2 ^ 31) : Met l yX1_half (ws_ yX1_half cX1_half 2 (some .int)) ({ frames := 0, cells := 0, slots := 0, locals := 0 }) (va_Pc [.ref h1, .int (nI i)] (im_Pr D vwCl [(h1, .inl (d1, n1, .inl f))] [(d1, .byte)])) (vp_Si (fun r => r = nI (wd f i))) 0 0 (fun _ => False) := by
  refine Met.ofW (cc := cX1_half) (maxL := 2) (ret := (some .int)) (by decide) rfl ?_
  intro p e s m args below meth c s₁ B hml hv
  obtain ⟨rfl, hP, hK⟩ := hv
  have hx := B.exec
  have hb := B.bytes
  have hr := B.returns
  have hts := atoms_spec (ws := (ws_ yX1_half cX1_half 2 (some .int))) B.pre
  have hts : ∀ w ∈ lw_all, w.before _ s = true := fun w h => hts w (List.mem_cons_of_mem _ h)
  have hown : s.vm.findClass RX1 = some m.cls := findClass_of_methodNamed B.named
  have hlocks := B.notSynchronized
  have hl := lv_entry ([.ref h1, .int (nI i)]) (n := 2) (Nat.le_of_ble_eq_true rfl)
  rw [lg_entry_eq]
  generalize (lg_sl ([.ref h1, .int (nI i)]) ++ List.replicate (2 - (lg_sl ([.ref h1, .int (nI i)])).length) Slot.unset).toArray = ls at hl ⊢
  have hl : lv_has ls 2 [(0, .ref h1), (1, .int (nI i))] := hl
  refine lv_aload_n hx hb dX1_half_0 rfl (lv_at hl 0 rfl) ?_
  refine lv_iload_n hx hb dX1_half_1 rfl (lv_at hl 1 rfl) ?_
  refine im_bald hx hb hK hP 0 0 rfl rfl (i := i) (by omega) (by omega) (v := f i) (rfl) dX1_half_2 ?_
  refine lv_sipush (v := nI 255) hx hb dX1_half_3 (by decide) ?_
  refine lv_iand hx hb dX1_half_6 ?_
  refine lv_bipush (v := nI 8) hx hb dX1_half_7 (by decide) ?_
  refine lv_ishl hx hb dX1_half_9 ?_
  refine lv_aload_n hx hb dX1_half_10 rfl (lv_at hl 0 rfl) ?_
  refine lv_iload_n hx hb dX1_half_11 rfl (lv_at hl 1 rfl) ?_
  refine lv_iconst (v := nI 1) hx hb dX1_half_12 (by decide) ?_
  refine lv_iadd hx hb dX1_half_13 ?_
  refine im_top (y := nI (i + 1)) (nI_add i 1) ?_
  refine im_bald hx hb hK hP 0 0 rfl rfl (i := i + 1) (by omega) (by omega) (v := f (i + 1)) (rfl) dX1_half_14 ?_
  refine lv_sipush (v := nI 255) hx hb dX1_half_15 (by decide) ?_
  refine lv_iand hx hb dX1_half_18 ?_
  refine lv_ior hx hb dX1_half_19 ?_
  refine im_top (y := nI (wd f i)) (im_wdM f i) ?_
  exact W.iret (v := nI (wd f i)) hx hb hr (fun t ht hW => ⟨_, rfl, rfl, ht⟩) (fun q hq => by cases hq) dX1_half_20
set_option maxHeartbeats 4000000 in
set_option maxRecDepth 100000 in
/-- IDEAEngine.bytesToWord -/
theorem met_b2w (l : Launch) (D : va_G) (h0 h1 : Nat) (d1 : ClassId) (n1 : Nat) (f : Nat → Int32) (i : Nat) (hi : i + 1 < n1) (hn : n1 < 2 ^ 31) : Met l yX2_bytesToWord (ws_ yX2_bytesToWord cX2_bytesToWord 3 (some .int)) ({ frames := 0, cells := 0, slots := 0, locals := 0 }) (va_Pc [.ref h0, .ref h1, .int (nI i)] (im_Pr D vwCl [(h1, .inl (d1, n1, .inl f))] [(d1, .byte)])) (vp_Si (fun r => r = nI (wd f i))) 0 0 (fun _ => False) := by
  refine Met.ofW (cc := cX2_bytesToWord) (maxL := 3) (ret := (some .int)) (by decide) rfl ?_
  intro p e s m args below meth c s₁ B hml hv
  obtain ⟨rfl, hP, hK⟩ := hv
  have hx := B.exec
  have hb := B.bytes
  have hr := B.returns
  have hts := atoms_spec (ws := (ws_ yX2_bytesToWord cX2_bytesToWord 3 (some .int))) B.pre
  have hts : ∀ w ∈ lw_all, w.before _ s = true := fun w h => hts w (List.mem_cons_of_mem _ h)
  have hown : s.vm.findClass RX2 = some m.cls := findClass_of_methodNamed B.named
  have hlocks := B.notSynchronized
  have hl := lv_entry ([.ref h0, .ref h1, .int (nI i)]) (n := 3) (Nat.le_of_ble_eq_true rfl)
  rw [lg_entry_eq]
  generalize (lg_sl ([.ref h0, .ref h1, .int (nI i)]) ++ List.replicate (3 - (lg_sl ([.ref h0, .ref h1, .int (nI i)])).length) Slot.unset).toArray = ls at hl ⊢
  have hl : lv_has ls 3 [(0, .ref h0), (1, .ref h1), (2, .int (nI i))] := hl
  refine lv_aload_n hx hb dX2_bytesToWord_0 rfl (lv_at hl 1 rfl) ?_
  refine lv_iload_n hx hb dX2_bytesToWord_1 rfl (lv_at hl 2 rfl) ?_
  refine im_bald hx hb hK hP 0 0 rfl rfl (i := i) (by omega) (by omega) (v := f i) (rfl) dX2_bytesToWord_2 ?_
  refine lv_bipush (v := nI 8) hx hb dX2_bytesToWord_3 (by decide) ?_
  refine lv_ishl hx hb dX2_bytesToWord_5 ?_
  refine lv_ldc hx hb hown (hts _ q127) dX2_bytesToWord_6 ?_
  refine lv_iand hx hb dX2_bytesToWord_8 ?_
  refine lv_aload_n hx hb dX2_bytesToWord_9 rfl (lv_at hl 1 rfl) ?_
  refine lv_iload_n hx hb dX2_bytesToWord_10 rfl (lv_at hl 2 rfl) ?_
  refine lv_iconst (v := nI 1) hx hb dX2_bytesToWord_11 (by decide) ?_
  refine lv_iadd hx hb dX2_bytesToWord_12 ?_
  refine im_top (y := nI (i + 1)) (nI_add i 1) ?_
  refine im_bald hx hb hK hP 0 0 rfl rfl (i := i + 1) (by omega) (by omega) (v := f (i + 1)) (rfl) dX2_bytesToWord_13 ?_
  refine lv_sipush (v := nI 255) hx hb dX2_bytesToWord_14 (by decide) ?_
  refine lv_iand hx hb dX2_bytesToWord_17 ?_
  refine lv_iadd hx hb dX2_bytesToWord_18 ?_
  refine im_top (y := nI (wd f i)) (im_wdE f i) ?_
  exact W.iret (v := nI (wd f i)) hx hb hr (fun t ht hW => ⟨_, rfl, rfl, ht⟩) (fun q hq => by cases hq) dX2_bytesToWord_19
end
section
/-! LEAVES with loops: Euclid, powers; the writers of bytes -/
set_option maxHeartbeats 4000000 in
set_option maxRecDepth 100000 in
/-- IDEAEngine.mulInv: Euclid finds the power that the reference takes -/
theorem met_mulInv (l : Launch) (h0 : Nat) {A : Nat} (ha : A < 65536) : Met l yX2_mulInv (ws_ yX2_mulInv cX2_mulInv 6 (some .int)) ({ frames := 0, cells := 0, slots := 0, locals := 0 }) (va_Pc [.ref h0, .int (nI A)] im_P0) (vp_Si (fun r => r = nI (invS A))) 0 0 (fun _ => False) := by
  refine Met.ofW (cc := cX2_mulInv) (maxL := 6) (ret := (some .int)) (by decide) rfl ?_
  intro p e s m args below meth c s₁ B hml hv
  obtain ⟨rfl, -⟩ := hv
  have hx := B.exec
  have hb := B.bytes
  have hr := B.returns
  have hts := atoms_spec (ws := (ws_ yX2_mulInv cX2_mulInv 6 (some .int))) B.pre
  have hts : ∀ w ∈ lw_all, w.before _ s = true := fun w h => hts w (List.mem_cons_of_mem _ h)
  have hown : s.vm.findClass RX2 = some m.cls := findClass_of_methodNamed B.named
  have hlocks := B.notSynchronized
  have hl := lv_entry ([.ref h0, .int (nI A)]) (n := 6) (Nat.le_of_ble_eq_true rfl)
  rw [lg_entry_eq]
  generalize (lg_sl ([.ref h0, .int (nI A)]) ++ List.replicate (6 - (lg_sl ([.ref h0, .int (nI A)])).length) Slot.unset).toArray = ls at hl ⊢
  have hl : lv_has ls 6 [(0, .ref h0), (1, .int (nI A))] := hl
  refine lv_iload_n hx hb dX2_mulInv_0 rfl (lv_at hl 1 rfl) ?_
  refine lv_iconst (v := nI 2) hx hb dX2_mulInv_1 (by decide) ?_
  refine lv_icmp_ge (tgt := 7) hx hb dX2_mulInv_2 (by decide) (fun c_2 => ?_) (fun c_2 => ?_)
  · have c_2 : 2 ≤ A := (nI_leI (a := 2) (b := A) (by omega) (by omega)).mp c_2
    have hA0 : ¬ A = 0 := by omega
    refine lv_iconst (v := nI 1) hx hb dX2_mulInv_7 (by decide) ?_
    refine lv_istore_n (lv' := [(2, .int (nI 1)), (0, .ref h0), (1, .int (nI A))]) hx hb dX2_mulInv_8 rfl hl (by decide) rfl (fun ls hl => ?_)
    refine lv_ldc hx hb hown (hts _ q137) dX2_mulInv_9 ?_
    refine lv_iload_n hx hb dX2_mulInv_11 rfl (lv_at hl 2 rfl) ?_
    refine lv_idiv hx hb dX2_mulInv_12 (nI_ne0 (n := A) (by omega) (by omega)) ?_
    refine im_top (y := nI (65537 / A)) (pk_div (a := 65537) (d := A) (by omega) (by omega) (by omega)) ?_
    refine lv_istore_n (lv' := [(3, .int (nI (65537 / A))), (2, .int (nI 1)), (0, .ref h0), (1, .int (nI A))]) hx hb dX2_mulInv_13 rfl hl (by decide) rfl (fun ls hl => ?_)
    refine lv_ldc hx hb hown (hts _ q137) dX2_mulInv_14 ?_
    refine lv_iload_n hx hb dX2_mulInv_16 rfl (lv_at hl 3 rfl) ?_
    refine lv_irem hx hb dX2_mulInv_17 (nI_ne0 (n := A) (by omega) (by omega)) ?_
    refine im_top (y := nI (65537 % A)) (pk_rem (a := 65537) (d := A) (by omega) (by omega) (by omega)) ?_
    refine lv_istore (lv' := [(5, .int (nI (65537 % A))), (3, .int (nI (65537 / A))), (2, .int (nI 1)), (0, .ref h0), (1, .int (nI A))]) hx hb dX2_mulInv_18 hl (by decide) rfl (fun ls hl => ?_)
    have ht1 : 65537 / A < 65536 := Nat.lt_of_le_of_lt (Nat.div_le_div_left c_2 (by decide)) (by decide)
    refine im_loop (fun n H locs ls => ∃ (x y t0 t1 : Nat), Eu A x y t0 t1 ∧ t0 < 65536 ∧ t1 < 65536 ∧ y ≤ n ∧ H = s.heap ∧ locs = [] ∧ lv_has ls 6 [(0, .ref h0), (1, .int (nI x)), (2, .int (nI t0)), (3, .int (nI t1)), (5, .int (nI y))]) ?_ ?_ (65537 % A) _ _ _ ⟨A, 65537 % A, 1, 65537 / A, eu_0 c_2 ha, by omega, ht1, Nat.le_refl _, rfl, rfl, lv_sub hl [3, 4, 2, 1, 0] rfl⟩
    · intro H locs ls hI
      obtain ⟨x, y, t0, t1, hE, hb0, hb1, hn, rfl, rfl, hl⟩ := hI
      obtain ⟨g1, g2, g3, g4, -⟩ := hE
      exfalso
      omega
    · intro n ih H locs ls hI
      obtain ⟨x, y, t0, t1, hE, hb0, hb1, hn, rfl, rfl, hl⟩ := hI
      obtain ⟨g1, g2, g3, g4, -⟩ := id hE
      refine lv_iload hx hb dX2_mulInv_20 (lv_at hl 4 rfl) ?_
      refine lv_iconst (v := nI 1) hx hb dX2_mulInv_22 (by decide) ?_
      refine lv_icmp_eq (tgt := 79) hx hb dX2_mulInv_23 (by decide) (fun c_23 => ?_) (fun c_23 => ?_)
      · have c_23 : y = 1 := (nI_eq (a := y) (b := 1) (by omega) (by omega)).mp c_23
        subst c_23
        refine lv_iconst (v := nI 1) hx hb dX2_mulInv_79 (by decide) ?_
        refine lv_iload_n hx hb dX2_mulInv_80 rfl (lv_at hl 3 rfl) ?_
        refine lv_isub hx hb dX2_mulInv_81 ?_
        refine lv_ldc hx hb hown (hts _ q128) dX2_mulInv_82 ?_
        refine lv_iand hx hb dX2_mulInv_84 ?_
        refine im_top (y := nI ((65537 - t1) % 65536)) (by rw [im_sub (a := 1) (b := t1) (by omega), nx_mod]; exact congrArg nI (by omega)) ?_
        exact W.iret (v := nI ((65537 - t1) % 65536)) hx hb hr (fun t ht hW => ⟨_, rfl, congrArg nI (eu_end ha hA0 hE), ht⟩) (fun q hq => by cases hq) dX2_mulInv_85
      · have c_23 : ¬ (y = 1) := fun z => c_23 ((nI_eq (a := y) (b := 1) (by omega) (by omega)).mpr z)
        obtain ⟨hy2, hb2, hV⟩ := eu_a hE c_23
        obtain ⟨v1, v2, -⟩ := id hV
        refine lv_iload_n hx hb dX2_mulInv_26 rfl (lv_at hl 1 rfl) ?_
        refine lv_iload hx hb dX2_mulInv_27 (lv_at hl 4 rfl) ?_
        refine lv_idiv hx hb dX2_mulInv_29 (nI_ne0 (n := y) (by omega) (by omega)) ?_
        refine im_top (y := nI (x / y)) (pk_div (a := x) (d := y) (by omega) (by omega) (by omega)) ?_
        refine lv_istore (lv' := [(4, .int (nI (x / y))), (0, .ref h0), (1, .int (nI x)), (2, .int (nI t0)), (3, .int (nI t1)), (5, .int (nI y))]) hx hb dX2_mulInv_30 hl (by decide) rfl (fun ls hl => ?_)
        refine lv_iload_n hx hb dX2_mulInv_32 rfl (lv_at hl 2 rfl) ?_
        refine lv_iload hx hb dX2_mulInv_33 (lv_at hl 5 rfl) ?_
        refine lv_irem hx hb dX2_mulInv_35 (nI_ne0 (n := y) (by omega) (by omega)) ?_
        refine im_top (y := nI (x % y)) (pk_rem (a := x) (d := y) (by omega) (by omega) (by omega)) ?_
        refine lv_istore_n (lv' := [(1, .int (nI (x % y))), (4, .int (nI (x / y))), (0, .ref h0), (2, .int (nI t0)), (3, .int (nI t1)), (5, .int (nI y))]) hx hb dX2_mulInv_36 rfl hl (by decide) rfl (fun ls hl => ?_)
        refine lv_iload_n hx hb dX2_mulInv_37 rfl (lv_at hl 3 rfl) ?_
        refine lv_iload_n hx hb dX2_mulInv_38 rfl (lv_at hl 4 rfl) ?_
        refine lv_iload hx hb dX2_mulInv_39 (lv_at hl 1 rfl) ?_
        refine lv_imul hx hb dX2_mulInv_41 ?_
        refine im_top (y := nI (t1 * (x / y))) (pk_mul t1 (x / y)) ?_
        refine lv_iadd hx hb dX2_mulInv_42 ?_
        refine im_top (y := nI (t0 + (t1 * (x / y)))) (nI_add t0 (t1 * (x / y))) ?_
        refine lv_ldc hx hb hown (hts _ q128) dX2_mulInv_43 ?_
        refine lv_iand hx hb dX2_mulInv_45 ?_
        refine im_top (y := nI (t0 + t1 * (x / y))) (by rw [nx_mod, Nat.mod_eq_of_lt hb2]) ?_
        refine lv_istore_n (lv' := [(2, .int (nI (t0 + t1 * (x / y)))), (1, .int (nI (x % y))), (4, .int (nI (x / y))), (0, .ref h0), (3, .int (nI t1)), (5, .int (nI y))]) hx hb dX2_mulInv_46 rfl hl (by decide) rfl (fun ls hl => ?_)
        refine lv_iload_n hx hb dX2_mulInv_47 rfl (lv_at hl 1 rfl) ?_
        refine lv_iconst (v := nI 1) hx hb dX2_mulInv_48 (by decide) ?_
        refine lv_icmp_ne (tgt := 54) hx hb dX2_mulInv_49 (by decide) (fun c_49 => ?_) (fun c_49 => ?_)
        · have c_49 : ¬ ((x % y) = 1) := fun z => c_49 ((nI_eq (a := x % y) (b := 1) (by omega) (by omega)).mpr z)
          obtain ⟨hx2, hb3, hlt, hE2⟩ := ev_a hV c_49
          refine lv_iload hx hb dX2_mulInv_54 (lv_at hl 5 rfl) ?_
          refine lv_iload_n hx hb dX2_mulInv_56 rfl (lv_at hl 1 rfl) ?_
          refine lv_idiv hx hb dX2_mulInv_57 (nI_ne0 (n := x % y) (by omega) (by omega)) ?_
          refine im_top (y := nI (y / (x % y))) (pk_div (a := y) (d := x % y) (by omega) (by omega) (by omega)) ?_
          refine lv_istore (lv' := [(4, .int (nI (y / (x % y)))), (2, .int (nI (t0 + t1 * (x / y)))), (1, .int (nI (x % y))), (0, .ref h0), (3, .int (nI t1)), (5, .int (nI y))]) hx hb dX2_mulInv_58 hl (by decide) rfl (fun ls hl => ?_)
          refine lv_iload hx hb dX2_mulInv_60 (lv_at hl 5 rfl) ?_
          refine lv_iload_n hx hb dX2_mulInv_62 rfl (lv_at hl 2 rfl) ?_
          refine lv_irem hx hb dX2_mulInv_63 (nI_ne0 (n := x % y) (by omega) (by omega)) ?_
          refine im_top (y := nI (y % (x % y))) (pk_rem (a := y) (d := x % y) (by omega) (by omega) (by omega)) ?_
          refine lv_istore (lv' := [(5, .int (nI (y % (x % y)))), (4, .int (nI (y / (x % y)))), (2, .int (nI (t0 + t1 * (x / y)))), (1, .int (nI (x % y))), (0, .ref h0), (3, .int (nI t1))]) hx hb dX2_mulInv_64 hl (by decide) rfl (fun ls hl => ?_)
          refine lv_iload_n hx hb dX2_mulInv_66 rfl (lv_at hl 5 rfl) ?_
          refine lv_iload_n hx hb dX2_mulInv_67 rfl (lv_at hl 2 rfl) ?_
          refine lv_iload hx hb dX2_mulInv_68 (lv_at hl 1 rfl) ?_
          refine lv_imul hx hb dX2_mulInv_70 ?_
          refine im_top (y := nI ((t0 + t1 * (x / y)) * (y / (x % y)))) (pk_mul (t0 + t1 * (x / y)) (y / (x % y))) ?_
          refine lv_iadd hx hb dX2_mulInv_71 ?_
          refine im_top (y := nI (t1 + ((t0 + t1 * (x / y)) * (y / (x % y))))) (nI_add t1 ((t0 + t1 * (x / y)) * (y / (x % y)))) ?_
          refine lv_ldc hx hb hown (hts _ q128) dX2_mulInv_72 ?_
          refine lv_iand hx hb dX2_mulInv_74 ?_
          refine im_top (y := nI (t1 + (t0 + t1 * (x / y)) * (y / (x % y)))) (by rw [nx_mod, Nat.mod_eq_of_lt hb3]) ?_
          refine lv_istore_n (lv' := [(3, .int (nI (t1 + (t0 + t1 * (x / y)) * (y / (x % y))))), (5, .int (nI (y % (x % y)))), (4, .int (nI (y / (x % y)))), (2, .int (nI (t0 + t1 * (x / y)))), (1, .int (nI (x % y))), (0, .ref h0)]) hx hb dX2_mulInv_75 rfl hl (by decide) rfl (fun ls hl => ?_)
          refine lv_goto (tgt := 20) hx hb dX2_mulInv_76 (by decide) ?_
          exact ih _ _ _ ⟨x % y, y % (x % y), t0 + t1 * (x / y), t1 + (t0 + t1 * (x / y)) * (y / (x % y)), hE2, hb2, hb3, by omega, rfl, rfl, lv_sub hl [5, 4, 3, 0, 1] rfl⟩
        · have c_49 : (x % y) = 1 := (nI_eq (a := x % y) (b := 1) (by omega) (by omega)).mp c_49
          rw [c_49] at hV
          refine lv_iload_n hx hb dX2_mulInv_52 rfl (lv_at hl 0 rfl) ?_
          exact W.iret (v := nI (t0 + t1 * (x / y))) hx hb hr (fun t ht hW => ⟨_, rfl, congrArg nI (ev_end ha hA0 hb2 hV), ht⟩) (fun q hq => by cases hq) dX2_mulInv_53
  · have c_2 : ¬ (2 ≤ A) := fun z => c_2 ((nI_leI (a := 2) (b := A) (by omega) (by omega)).mpr z)
    refine lv_iload_n hx hb dX2_mulInv_5 rfl (lv_at hl 1 rfl) ?_
    have e9 : A = invS A := by
      rcases (show A = 0 ∨ A = 1 by omega) with e | e
      · rw [e]; exact invS_0
      · rw [e]; exact invS_1
    exact W.iret (v := nI A) hx hb hr (fun t ht hW => ⟨_, rfl, congrArg nI e9, ht⟩) (fun q hq => by cases hq) dX2_mulInv_6
set_option maxHeartbeats 4000000 in
set_option maxRecDepth 100000 in
/-- IdeaDeskModel.inverse: the power 65535 -/
theorem met_inverse (l : Launch) {a : Nat} (ha : a < 65536) : Met l yX1_inverse (ws_ yX1_inverse cX1_inverse 3 (some .int)) ({ frames := 1, cells := 0, slots := 0, locals := 25 }) (va_Pc [.int (nI a)] im_P0) (vp_Si (fun r => r = nI (invS a))) 0 0 (fun _ => False) := by
  refine Met.ofW (cc := cX1_inverse) (maxL := 3) (ret := (some .int)) (by decide) rfl ?_
  intro p e s m args below meth c s₁ B hml hv
  obtain ⟨rfl, -⟩ := hv
  have hx := B.exec
  have hb := B.bytes
  have hr := B.returns
  have hts := atoms_spec (ws := (ws_ yX1_inverse cX1_inverse 3 (some .int))) B.pre
  have hts : ∀ w ∈ lw_all, w.before _ s = true := fun w h => hts w (List.mem_cons_of_mem _ h)
  have hown : s.vm.findClass RX1 = some m.cls := findClass_of_methodNamed B.named
  have hlocks := B.notSynchronized
  have hl := lv_entry ([.int (nI a)]) (n := 3) (Nat.le_of_ble_eq_true rfl)
  rw [lg_entry_eq]
  generalize (lg_sl ([.int (nI a)]) ++ List.replicate (3 - (lg_sl ([.int (nI a)])).length) Slot.unset).toArray = ls at hl ⊢
  have hl : lv_has ls 3 [(0, .int (nI a))] := hl
  refine lv_iconst (v := nI 1) hx hb dX1_inverse_0 (by decide) ?_
  refine lv_istore_n (lv' := [(1, .int (nI 1)), (0, .int (nI a))]) hx hb dX1_inverse_1 rfl hl (by decide) rfl (fun ls hl => ?_)
  refine lv_iconst (v := nI 0) hx hb dX1_inverse_2 (by decide) ?_
  refine lv_istore_n (lv' := [(2, .int (nI 0)), (1, .int (nI 1)), (0, .int (nI a))]) hx hb dX1_inverse_3 rfl hl (by decide) rfl (fun ls hl => ?_)
  refine im_loop (fun n H locs ls => ∃ (k v : Nat), k + n = 65535 ∧ v = pw a k ∧ H = s.heap ∧ locs = [] ∧ lv_has ls 3 [(0, .int (nI a)), (1, .int (nI v)), (2, .int (nI k))]) ?_ ?_ (65535) _ _ _ ⟨0, 1, Nat.zero_add _, rfl, rfl, rfl, lv_sub hl [2, 1, 0] rfl⟩
  · intro H locs ls hI
    obtain ⟨k, v, hn, hv, rfl, rfl, hl⟩ := hI
    refine lv_iload_n hx hb dX1_inverse_4 rfl (lv_at hl 2 rfl) ?_
    refine lv_ldc hx hb hown (hts _ q344) dX1_inverse_5 ?_
    refine lv_icmp_ge (tgt := 22) hx hb dX1_inverse_7 (by decide) (fun c_7 => ?_) (fun c_7 => ?_)
    · have c_7 : 65535 ≤ k := (nI_leI (a := 65535) (b := k) (by omega) (by omega)).mp c_7
      have hk : k = 65535 := by omega
      refine lv_iload_n hx hb dX1_inverse_22 rfl (lv_at hl 1 rfl) ?_
      exact W.iret (v := nI v) hx hb hr (fun t ht hW => ⟨_, rfl, by rw [hv, hk, ← invS_eq], ht⟩) (fun q hq => by cases hq) dX1_inverse_23
    · have c_7 : ¬ (65535 ≤ k) := fun z => c_7 ((nI_leI (a := 65535) (b := k) (by omega) (by omega)).mpr z)
      exfalso
      omega
  · intro n ih H locs ls hI
    obtain ⟨k, v, hn, hv, rfl, rfl, hl⟩ := hI
    refine lv_iload_n hx hb dX1_inverse_4 rfl (lv_at hl 2 rfl) ?_
    refine lv_ldc hx hb hown (hts _ q344) dX1_inverse_5 ?_
    refine lv_icmp_ge (tgt := 22) hx hb dX1_inverse_7 (by decide) (fun c_7 => ?_) (fun c_7 => ?_)
    · have c_7 : 65535 ≤ k := (nI_leI (a := 65535) (b := k) (by omega) (by omega)).mp c_7
      exfalso
      omega
    · have c_7 : ¬ (65535 ≤ k) := fun z => c_7 ((nI_leI (a := 65535) (b := k) (by omega) (by omega)).mpr z)
      have hv1 : v < 65536 := by rw [hv]; exact pw_lt a k
      refine lv_iload_n hx hb dX1_inverse_10 rfl (lv_at hl 1 rfl) ?_
      refine lv_iload_n hx hb dX1_inverse_11 rfl (lv_at hl 0 rfl) ?_
      refine vp_callSi (W.runS (As := [.int (nI v), .int (nI a)]) (rest := []) ⟨hx, hb, hml, hown, hts⟩ (met_times l hv1 ha) (va_cwS 2 hts (lw_S q339 q340 q14 q341) rfl rfl rfl (by decide +kernel) ⟨Nat.le_of_ble_eq_true rfl, Nat.le_of_ble_eq_true rfl⟩) ⟨im_P0.blind, im_P0.of⟩ rfl rfl hl.1 rfl (lv_room (Nat.le_of_ble_eq_true rfl)) dX1_inverse_12 ⟨Nat.le_of_ble_eq_true rfl, Nat.le_of_ble_eq_true rfl⟩) (fun r_12 hr_12 => ?_)
      have hr_12 : r_12 = nI (mulS v a) := hr_12
      subst hr_12
      refine lv_istore_n (lv' := [(1, .int (nI (mulS v a))), (0, .int (nI a)), (2, .int (nI k))]) hx hb dX1_inverse_15 rfl hl (by decide) rfl (fun ls hl => ?_)
      refine lv_iinc (v := nI (k + 1)) (lv' := [(2, .int (nI (k + 1))), (1, .int (nI (mulS v a))), (0, .int (nI a))]) hx hb dX1_inverse_16 hl (k := 2) rfl (nI_1 k) (by decide) rfl (fun ls hl => ?_)
      refine lv_goto (tgt := 4) hx hb dX1_inverse_19 (by decide) ?_
      exact ih _ _ _ ⟨k + 1, mulS v a, by omega, by rw [hv]; rfl, rfl, rfl, lv_sub hl [2, 1, 0] rfl⟩
set_option maxHeartbeats 4000000 in
set_option maxRecDepth 100000 in
/-- IDEAEngine.wordToBytes -/
theorem met_w2b (l : Launch) (D : va_G) (sz : Nat) (h0 h1 : Nat) (d1 : ClassId) (n1 : Nat) (f : Nat → Int32) (w i : Nat) (hw : w < 2 ^ 31) (hi : i + 1 < n1) (hn : n1 < 2 ^ 31) : Met l yX2_wordToBytes (ws_ yX2_wordToBytes cX2_wordToBytes 4 none) ({ frames := 0, cells := 0, slots := 0, locals := 0 }) (va_Pc [.ref h0, .int (nI w), .ref h1, .int (nI i)] (im_Pw D vwCl [(h1, .inl (d1, n1, .inl f))] [(d1, .byte)] sz)) (va_Qv (fun (u : Nat → Int32) => u = wr2 f i w) (im_B D vwCl (va_A [(h1, .inl (d1, n1, .inl f))] sz) (fun (u : Nat → Int32) => [(h1, .inl (d1, n1, .inl u))])) (va_A [(h1, .inl (d1, n1, .inl f))] sz)) 0 0 (va_A [(h1, .inl (d1, n1, .inl f))] sz) := by
  refine Met.ofW (cc := cX2_wordToBytes) (maxL := 4) (ret := none) (by decide) rfl ?_
  intro p e s m args below meth c s₁ B hml hv
  obtain ⟨rfl, hsz, hP, hK, hD0⟩ := hv
  have hx := B.exec
  have hb := B.bytes
  have hr := B.returns
  have hts := atoms_spec (ws := (ws_ yX2_wordToBytes cX2_wordToBytes 4 none)) B.pre
  have hts : ∀ w ∈ lw_all, w.before _ s = true := fun w h => hts w (List.mem_cons_of_mem _ h)
  have hown : s.vm.findClass RX2 = some m.cls := findClass_of_methodNamed B.named
  have hlocks := B.notSynchronized
  subst hsz
  have hD := hD0.self (sz := s.heap.size)
  generalize hAe : va_A [(h1, .inl (d1, n1, .inl f))] s.heap.size = A at hD ⊢
  have hA : ∀ q : Nat, s.heap.size ≤ q → A q := fun q h => by rw [← hAe]; exact Or.inr h
  have hS : va_S A s.heap s.heap [] := va_S.rf
  have hP : va_P D vwCl [(h1, .inl (d1, n1, .inl f))] s.heap := hP
  have hl := lv_entry ([.ref h0, .int (nI w), .ref h1, .int (nI i)]) (n := 4) (Nat.le_of_ble_eq_true rfl)
  rw [lg_entry_eq]
  generalize (lg_sl ([.ref h0, .int (nI w), .ref h1, .int (nI i)]) ++ List.replicate (4 - (lg_sl ([.ref h0, .int (nI w), .ref h1, .int (nI i)])).length) Slot.unset).toArray = ls at hl ⊢
  have hl : lv_has ls 4 [(0, .ref h0), (1, .int (nI w)), (2, .ref h1), (3, .int (nI i))] := hl
  refine lv_aload_n hx hb dX2_wordToBytes_0 rfl (lv_at hl 2 rfl) ?_
  refine lv_iload_n hx hb dX2_wordToBytes_1 rfl (lv_at hl 3 rfl) ?_
  refine lv_iload_n hx hb dX2_wordToBytes_2 rfl (lv_at hl 1 rfl) ?_
  refine lv_bipush (v := nI 8) hx hb dX2_wordToBytes_3 (by decide) ?_
  refine lv_iushr hx hb dX2_wordToBytes_5 rfl ?_
  refine im_top (y := nI (w / 256)) (pk_ushrN (n := w) (by omega) (nI 8) 8 (by decide)) ?_
  refine lv_i2b hx hb dX2_wordToBytes_6 rfl ?_
  refine im_top (y := b8 (w / 256)) (rfl) ?_
  refine im_bast hx hb hK hP hD hS 0 0 rfl rfl (i := i) (by omega) (by omega) (y := b8 (w / 256)) (b8_nar (w / 256)) dX2_wordToBytes_7 (fun g_7 H locs eg_7 hP hD hS => ?_)
  have hP : va_P D vwCl [(h1, .inl (d1, n1, .inl g_7))] H := hP
  have hD : va_D A [(h1, .inl (d1, n1, .inl g_7))] := hD
  refine lv_aload_n hx hb dX2_wordToBytes_8 rfl (lv_at hl 2 rfl) ?_
  refine lv_iload_n hx hb dX2_wordToBytes_9 rfl (lv_at hl 3 rfl) ?_
  refine lv_iconst (v := nI 1) hx hb dX2_wordToBytes_10 (by decide) ?_
  refine lv_iadd hx hb dX2_wordToBytes_11 ?_
  refine im_top (y := nI (i + 1)) (nI_add i 1) ?_
  refine lv_iload_n hx hb dX2_wordToBytes_12 rfl (lv_at hl 1 rfl) ?_
  refine lv_i2b hx hb dX2_wordToBytes_13 rfl ?_
  refine im_top (y := b8 w) (rfl) ?_
  refine im_bast hx hb hK hP hD hS 0 0 rfl rfl (i := i + 1) (by omega) (by omega) (y := b8 w) (b8_nar w) dX2_wordToBytes_14 (fun g_14 H locs eg_14 hP hD hS => ?_)
  have hP : va_P D vwCl [(h1, .inl (d1, n1, .inl g_14))] H := hP
  have hD : va_D A [(h1, .inl (d1, n1, .inl g_14))] := hD
  have hP9 := hP.sub (ws' := [(h1, .inl (d1, n1, .inl g_14))]) [0] rfl
  have hD9 := hD.sub (ws' := [(h1, .inl (d1, n1, .inl g_14))]) [0] (by decide) rfl
  exact W.vret hx hb hr (fun t ht hW => ⟨⟨g_14, rfl, by rw [eg_14, eg_7]; rfl, by rw [ht]; exact hP9, hD9⟩, hS.F ht⟩) hS.2.2 dX2_wordToBytes_15
set_option maxHeartbeats 4000000 in
set_option maxRecDepth 100000 in
/-- IdeaDesk.word -/
theorem met_word (l : Launch) (D : va_G) (sz : Nat) (h1 : Nat) (d1 : ClassId) (n1 : Nat) (f : Nat → Int32) (i : Nat) (w : Int32) (hi : i + 3 < n1) (hn : n1 < 2 ^ 31) : Met l yX0_word (ws_ yX0_word cX0_word 3 none) ({ frames := 0, cells := 0, slots := 0, locals := 0 }) (va_Pc [.ref h1, .int (nI i), .int w] (im_Pw D vwCl [(h1, .inl (d1, n1, .inl f))] [(d1, .byte)] sz)) (va_Qv (fun (u : Nat → Int32) => u = wr4 f i w) (im_B D vwCl (va_A [(h1, .inl (d1, n1, .inl f))] sz) (fun (u : Nat → Int32) => [(h1, .inl (d1, n1, .inl u))])) (va_A [(h1, .inl (d1, n1, .inl f))] sz)) 0 0 (va_A [(h1, .inl (d1, n1, .inl f))] sz) := by
  refine Met.ofW (cc := cX0_word) (maxL := 3) (ret := none) (by decide) rfl ?_
  intro p e s m args below meth c s₁ B hml hv
  obtain ⟨rfl, hsz, hP, hK, hD0⟩ := hv
  have hx := B.exec
  have hb := B.bytes
  have hr := B.returns
  have hts := atoms_spec (ws := (ws_ yX0_word cX0_word 3 none)) B.pre
  have hts : ∀ w ∈ lw_all, w.before _ s = true := fun w h => hts w (List.mem_cons_of_mem _ h)
  have hown : s.vm.findClass RX0 = some m.cls := findClass_of_methodNamed B.named
  have hlocks := B.notSynchronized
  subst hsz
  have hD := hD0.self (sz := s.heap.size)
  generalize hAe : va_A [(h1, .inl (d1, n1, .inl f))] s.heap.size = A at hD ⊢
  have hA : ∀ q : Nat, s.heap.size ≤ q → A q := fun q h => by rw [← hAe]; exact Or.inr h
  have hS : va_S A s.heap s.heap [] := va_S.rf
  have hP : va_P D vwCl [(h1, .inl (d1, n1, .inl f))] s.heap := hP
  have hl := lv_entry ([.ref h1, .int (nI i), .int w]) (n := 3) (Nat.le_of_ble_eq_true rfl)
  rw [lg_entry_eq]
  generalize (lg_sl ([.ref h1, .int (nI i), .int w]) ++ List.replicate (3 - (lg_sl ([.ref h1, .int (nI i), .int w])).length) Slot.unset).toArray = ls at hl ⊢
  have hl : lv_has ls 3 [(0, .ref h1), (1, .int (nI i)), (2, .int w)] := hl
  refine lv_aload_n hx hb dX0_word_0 rfl (lv_at hl 0 rfl) ?_
  refine lv_iload_n hx hb dX0_word_1 rfl (lv_at hl 1 rfl) ?_
  refine lv_iload_n hx hb dX0_word_2 rfl (lv_at hl 2 rfl) ?_
  refine lv_bipush (v := nI 24) hx hb dX0_word_3 (by decide) ?_
  refine lv_ishr hx hb dX0_word_5 ?_
  refine lv_i2b hx hb dX0_word_6 rfl ?_
  refine im_top (y := bw w 0) (rfl) ?_
  refine im_bast hx hb hK hP hD hS 0 0 rfl rfl (i := i) (by omega) (by omega) (y := bw w 0) (pk_vb _) dX0_word_7 (fun g_7 H locs eg_7 hP hD hS => ?_)
  have hP : va_P D vwCl [(h1, .inl (d1, n1, .inl g_7))] H := hP
  have hD : va_D A [(h1, .inl (d1, n1, .inl g_7))] := hD
  refine lv_aload_n hx hb dX0_word_8 rfl (lv_at hl 0 rfl) ?_
  refine lv_iload_n hx hb dX0_word_9 rfl (lv_at hl 1 rfl) ?_
  refine lv_iconst (v := nI 1) hx hb dX0_word_10 (by decide) ?_
  refine lv_iadd hx hb dX0_word_11 ?_
  refine im_top (y := nI (i + 1)) (nI_add i 1) ?_
  refine lv_iload_n hx hb dX0_word_12 rfl (lv_at hl 2 rfl) ?_
  refine lv_bipush (v := nI 16) hx hb dX0_word_13 (by decide) ?_
  refine lv_ishr hx hb dX0_word_15 ?_
  refine lv_i2b hx hb dX0_word_16 rfl ?_
  refine im_top (y := bw w 1) (rfl) ?_
  refine im_bast hx hb hK hP hD hS 0 0 rfl rfl (i := i + 1) (by omega) (by omega) (y := bw w 1) (pk_vb _) dX0_word_17 (fun g_17 H locs eg_17 hP hD hS => ?_)
  have hP : va_P D vwCl [(h1, .inl (d1, n1, .inl g_17))] H := hP
  have hD : va_D A [(h1, .inl (d1, n1, .inl g_17))] := hD
  refine lv_aload_n hx hb dX0_word_18 rfl (lv_at hl 0 rfl) ?_
  refine lv_iload_n hx hb dX0_word_19 rfl (lv_at hl 1 rfl) ?_
  refine lv_iconst (v := nI 2) hx hb dX0_word_20 (by decide) ?_
  refine lv_iadd hx hb dX0_word_21 ?_
  refine im_top (y := nI (i + 2)) (nI_add i 2) ?_
  refine lv_iload_n hx hb dX0_word_22 rfl (lv_at hl 2 rfl) ?_
  refine lv_bipush (v := nI 8) hx hb dX0_word_23 (by decide) ?_
  refine lv_ishr hx hb dX0_word_25 ?_
  refine lv_i2b hx hb dX0_word_26 rfl ?_
  refine im_top (y := bw w 2) (rfl) ?_
  refine im_bast hx hb hK hP hD hS 0 0 rfl rfl (i := i + 2) (by omega) (by omega) (y := bw w 2) (pk_vb _) dX0_word_27 (fun g_27 H locs eg_27 hP hD hS => ?_)
  have hP : va_P D vwCl [(h1, .inl (d1, n1, .inl g_27))] H := hP
  have hD : va_D A [(h1, .inl (d1, n1, .inl g_27))] := hD
  refine lv_aload_n hx hb dX0_word_28 rfl (lv_at hl 0 rfl) ?_
  refine lv_iload_n hx hb dX0_word_29 rfl (lv_at hl 1 rfl) ?_
  refine lv_iconst (v := nI 3) hx hb dX0_word_30 (by decide) ?_
  refine lv_iadd hx hb dX0_word_31 ?_
  refine im_top (y := nI (i + 3)) (nI_add i 3) ?_
  refine lv_iload_n hx hb dX0_word_32 rfl (lv_at hl 2 rfl) ?_
  refine lv_i2b hx hb dX0_word_33 rfl ?_
  refine im_top (y := bw w 3) (by show w.toInt8.toInt32 = (w >>> ((0 : Int32) &&& 31)).toInt8.toInt32; rw [sb_shr0]) ?_
  refine im_bast hx hb hK hP hD hS 0 0 rfl rfl (i := i + 3) (by omega) (by omega) (y := bw w 3) (pk_vb _) dX0_word_34 (fun g_34 H locs eg_34 hP hD hS => ?_)
  have hP : va_P D vwCl [(h1, .inl (d1, n1, .inl g_34))] H := hP
  have hD : va_D A [(h1, .inl (d1, n1, .inl g_34))] := hD
  have hP9 := hP.sub (ws' := [(h1, .inl (d1, n1, .inl g_34))]) [0] rfl
  have hD9 := hD.sub (ws' := [(h1, .inl (d1, n1, .inl g_34))]) [0] (by decide) rfl
  exact W.vret hx hb hr (fun t ht hW => ⟨⟨g_34, rfl, by rw [eg_34, eg_27, eg_17, eg_7]; rfl, by rw [ht]; exact hP9, hD9⟩, hS.F ht⟩) hS.2.2 dX0_word_35
set_option maxHeartbeats 4000000 in
set_option maxRecDepth 100000 in
/-- IdeaDeskModel.put -/
theorem met_put (l : Launch) (D : va_G) (sz : Nat) (h1 : Nat) (d1 : ClassId) (n1 : Nat) (f : Nat → Int32) (i : Nat) (w : Int32) (hi : i + 3 < n1) (hn : n1 < 2 ^ 31) : Met l yX1_put (ws_ yX1_put cX1_put 4 none) ({ frames := 0, cells := 0, slots := 0, locals := 0 }) (va_Pc [.ref h1, .int (nI i), .int w] (im_Pw D vwCl [(h1, .inl (d1, n1, .inl f))] [(d1, .byte)] sz)) (va_Qv (fun (u : Nat → Int32) => u = wr4 f i w) (im_B D vwCl (va_A [(h1, .inl (d1, n1, .inl f))] sz) (fun (u : Nat → Int32) => [(h1, .inl (d1, n1, .inl u))])) (va_A [(h1, .inl (d1, n1, .inl f))] sz)) 0 0 (va_A [(h1, .inl (d1, n1, .inl f))] sz) := by
  refine Met.ofW (cc := cX1_put) (maxL := 4) (ret := none) (by decide) rfl ?_
  intro p e s m args below meth c s₁ B hml hv
  obtain ⟨rfl, hsz, hP, hK, hD0⟩ := hv
  have hx := B.exec
  have hb := B.bytes
  have hr := B.returns
  have hts := atoms_spec (ws := (ws_ yX1_put cX1_put 4 none)) B.pre
  have hts : ∀ w ∈ lw_all, w.before _ s = true := fun w h => hts w (List.mem_cons_of_mem _ h)
  have hown : s.vm.findClass RX1 = some m.cls := findClass_of_methodNamed B.named
  have hlocks := B.notSynchronized
  subst hsz
  have hD := hD0.self (sz := s.heap.size)
  generalize hAe : va_A [(h1, .inl (d1, n1, .inl f))] s.heap.size = A at hD ⊢
  have hA : ∀ q : Nat, s.heap.size ≤ q → A q := fun q h => by rw [← hAe]; exact Or.inr h
  have hS : va_S A s.heap s.heap [] := va_S.rf
  have hP : va_P D vwCl [(h1, .inl (d1, n1, .inl f))] s.heap := hP
  have hl := lv_entry ([.ref h1, .int (nI i), .int w]) (n := 4) (Nat.le_of_ble_eq_true rfl)
  rw [lg_entry_eq]
  generalize (lg_sl ([.ref h1, .int (nI i), .int w]) ++ List.replicate (4 - (lg_sl ([.ref h1, .int (nI i), .int w])).length) Slot.unset).toArray = ls at hl ⊢
  have hl : lv_has ls 4 [(0, .ref h1), (1, .int (nI i)), (2, .int w)] := hl
  refine lv_iconst (v := nI 0) hx hb dX1_put_0 (by decide) ?_
  refine lv_istore_n (lv' := [(3, .int (nI 0)), (0, .ref h1), (1, .int (nI i)), (2, .int w)]) hx hb dX1_put_1 rfl hl (by decide) rfl (fun ls hl => ?_)
  refine im_loop (fun n H locs ls => ∃ (k : Nat) (g : Nat → Int32), k + n = 4 ∧ g = wrN f i w k ∧ va_P D vwCl [(h1, .inl (d1, n1, .inl g))] H ∧ va_D A [(h1, .inl (d1, n1, .inl g))] ∧ va_S A s.heap H locs ∧ lv_has ls 4 [(0, .ref h1), (1, .int (nI i)), (2, .int w), (3, .int (nI k))]) ?_ ?_ (4) _ _ _ ⟨0, f, rfl, rfl, hP.sub [0] rfl, hD.sub [0] (by decide) rfl, hS, lv_sub hl [1, 2, 3, 0] rfl⟩
  · intro H locs ls hI
    obtain ⟨k, g, hk, hg, hP, hD, hS, hl⟩ := hI
    refine lv_iload_n hx hb dX1_put_2 rfl (lv_at hl 3 rfl) ?_
    refine lv_iconst (v := nI 4) hx hb dX1_put_3 (by decide) ?_
    refine lv_icmp_ge (tgt := 28) hx hb dX1_put_4 (by decide) (fun c_4 => ?_) (fun c_4 => ?_)
    · have c_4 : 4 ≤ k := (nI_leI (a := 4) (b := k) (by omega) (by omega)).mp c_4
      have hk4 : k = 4 := by omega
      have hP9 := hP.sub (ws' := [(h1, .inl (d1, n1, .inl g))]) [0] rfl
      have hD9 := hD.sub (ws' := [(h1, .inl (d1, n1, .inl g))]) [0] (by decide) rfl
      exact W.vret hx hb hr (fun t ht hW => ⟨⟨g, rfl, by rw [hg, hk4]; rfl, by rw [ht]; exact hP9, hD9⟩, hS.F ht⟩) hS.2.2 dX1_put_28
    · have c_4 : ¬ (4 ≤ k) := fun z => c_4 ((nI_leI (a := 4) (b := k) (by omega) (by omega)).mpr z)
      exfalso
      omega
  · intro n ih H locs ls hI
    obtain ⟨k, g, hk, hg, hP, hD, hS, hl⟩ := hI
    refine lv_iload_n hx hb dX1_put_2 rfl (lv_at hl 3 rfl) ?_
    refine lv_iconst (v := nI 4) hx hb dX1_put_3 (by decide) ?_
    refine lv_icmp_ge (tgt := 28) hx hb dX1_put_4 (by decide) (fun c_4 => ?_) (fun c_4 => ?_)
    · have c_4 : 4 ≤ k := (nI_leI (a := 4) (b := k) (by omega) (by omega)).mp c_4
      exfalso
      omega
    · have c_4 : ¬ (4 ≤ k) := fun z => c_4 ((nI_leI (a := 4) (b := k) (by omega) (by omega)).mpr z)
      refine lv_aload_n hx hb dX1_put_7 rfl (lv_at hl 0 rfl) ?_
      refine lv_iload_n hx hb dX1_put_8 rfl (lv_at hl 1 rfl) ?_
      refine lv_iload_n hx hb dX1_put_9 rfl (lv_at hl 3 rfl) ?_
      refine lv_iadd hx hb dX1_put_10 ?_
      refine im_top (y := nI (i + k)) (nI_add i k) ?_
      refine lv_iload_n hx hb dX1_put_11 rfl (lv_at hl 2 rfl) ?_
      refine lv_bipush (v := nI 24) hx hb dX1_put_12 (by decide) ?_
      refine lv_bipush (v := nI 8) hx hb dX1_put_14 (by decide) ?_
      refine lv_iload_n hx hb dX1_put_16 rfl (lv_at hl 3 rfl) ?_
      refine lv_imul hx hb dX1_put_17 ?_
      refine im_top (y := nI (8 * k)) (pk_mul 8 k) ?_
      refine lv_isub hx hb dX1_put_18 ?_
      refine im_top (y := nI (24 - (8 * k))) (pk_sub (a := 24) (b := 8 * k) (by omega)) ?_
      refine lv_ishr hx hb dX1_put_19 ?_
      refine lv_i2b hx hb dX1_put_20 rfl ?_
      refine im_top (y := bw w k) (rfl) ?_
      refine im_bast hx hb hK hP hD hS 0 0 rfl rfl (i := i + k) (by omega) (by omega) (y := bw w k) (pk_vb _) dX1_put_21 (fun g_21 H locs eg_21 hP hD hS => ?_)
      have hP : va_P D vwCl [(h1, .inl (d1, n1, .inl g_21))] H := hP
      have hD : va_D A [(h1, .inl (d1, n1, .inl g_21))] := hD
      refine lv_iinc (v := nI (k + 1)) (lv' := [(3, .int (nI (k + 1))), (0, .ref h1), (1, .int (nI i)), (2, .int w)]) hx hb dX1_put_22 hl (k := 3) rfl (nI_1 k) (by decide) rfl (fun ls hl => ?_)
      refine lv_goto (tgt := 2) hx hb dX1_put_25 (by decide) ?_
      exact ih _ _ _ ⟨k + 1, g_21, by omega, by rw [eg_21, hg]; rfl, hP.sub [0] rfl, hD.sub [0] (by decide) rfl, hS, lv_sub hl [1, 2, 3, 0] rfl⟩
set_option maxHeartbeats 4000000 in
set_option maxRecDepth 100000 in
/-- IdeaDesk.again -/
theorem met_again_d (l : Launch) (D : va_G) (sz : Nat) (h0 hk h1 h2 : Nat) (d1 d2 : ClassId) (f g : Nat → Int32) : Met l yX0_again (ws_ yX0_again cX0_again 2 none) ({ frames := 0, cells := 0, slots := 0, locals := 0 }) (va_Pc [.ref h0] (im_Pw D vwCl [(h0, .inr (0, [.ref hk, .ref h1, .ref h2])), (h1, .inl (d1, 8, .inl f)), (h2, .inl (d2, 8, .inl g))] [(d1, .byte), (d2, .byte)] sz)) (va_Qv (fun (u : Nat → Int32) => u = cpN f g 8) (im_B D vwCl (va_A [(h0, .inr (0, [.ref hk, .ref h1, .ref h2])), (h1, .inl (d1, 8, .inl f)), (h2, .inl (d2, 8, .inl g))] sz) (fun (u : Nat → Int32) => [(h0, .inr (0, [.ref hk, .ref h1, .ref h2])), (h1, .inl (d1, 8, .inl u)), (h2, .inl (d2, 8, .inl g))])) (va_A [(h0, .inr (0, [.ref hk, .ref h1, .ref h2])), (h1, .inl (d1, 8, .inl f)), (h2, .inl (d2, 8, .inl g))] sz)) 0 0 (va_A [(h0, .inr (0, [.ref hk, .ref h1, .ref h2])), (h1, .inl (d1, 8, .inl f)), (h2, .inl (d2, 8, .inl g))] sz) := by
  refine Met.ofW (cc := cX0_again) (maxL := 2) (ret := none) (by decide) rfl ?_
  intro p e s m args below meth c s₁ B hml hv
  obtain ⟨rfl, hsz, hP, hK, hD0⟩ := hv
  have hx := B.exec
  have hb := B.bytes
  have hr := B.returns
  have hts := atoms_spec (ws := (ws_ yX0_again cX0_again 2 none)) B.pre
  have hts : ∀ w ∈ lw_all, w.before _ s = true := fun w h => hts w (List.mem_cons_of_mem _ h)
  have hown : s.vm.findClass RX0 = some m.cls := findClass_of_methodNamed B.named
  have hlocks := B.notSynchronized
  subst hsz
  have hD := hD0.self (sz := s.heap.size)
  generalize hAe : va_A [(h0, .inr (0, [.ref hk, .ref h1, .ref h2])), (h1, .inl (d1, 8, .inl f)), (h2, .inl (d2, 8, .inl g))] s.heap.size = A at hD ⊢
  have hA : ∀ q : Nat, s.heap.size ≤ q → A q := fun q h => by rw [← hAe]; exact Or.inr h
  have hS : va_S A s.heap s.heap [] := va_S.rf
  have hP : va_P D vwCl [(h0, .inr (0, [.ref hk, .ref h1, .ref h2])), (h1, .inl (d1, 8, .inl f)), (h2, .inl (d2, 8, .inl g))] s.heap := hP
  have hl := lv_entry ([.ref h0]) (n := 2) (Nat.le_of_ble_eq_true rfl)
  rw [lg_entry_eq]
  generalize (lg_sl ([.ref h0]) ++ List.replicate (2 - (lg_sl ([.ref h0])).length) Slot.unset).toArray = ls at hl ⊢
  have hl : lv_has ls 2 [(0, .ref h0)] := hl
  refine lv_iconst (v := nI 0) hx hb dX0_again_0 (by decide) ?_
  refine lv_istore_n (lv' := [(1, .int (nI 0)), (0, .ref h0)]) hx hb dX0_again_1 rfl hl (by decide) rfl (fun ls hl => ?_)
  refine im_loop (fun n H locs ls => ∃ (k : Nat) (b : Nat → Int32), k + n = 8 ∧ b = cpN f g k ∧ va_P D vwCl [(h0, .inr (0, [.ref hk, .ref h1, .ref h2])), (h1, .inl (d1, 8, .inl b)), (h2, .inl (d2, 8, .inl g))] H ∧ va_D A [(h0, .inr (0, [.ref hk, .ref h1, .ref h2])), (h1, .inl (d1, 8, .inl b)), (h2, .inl (d2, 8, .inl g))] ∧ va_S A s.heap H locs ∧ lv_has ls 2 [(0, .ref h0), (1, .int (nI k))]) ?_ ?_ (8) _ _ _ ⟨0, f, rfl, rfl, hP.sub [0, 1, 2] rfl, hD.sub [0, 1, 2] (by decide) rfl, hS, lv_sub hl [1, 0] rfl⟩
  · intro H locs ls hI
    obtain ⟨k, b, hk1, hb1, hP, hD, hS, hl⟩ := hI
    refine lv_iload_n hx hb dX0_again_2 rfl (lv_at hl 1 rfl) ?_
    refine lv_bipush (v := nI 8) hx hb dX0_again_3 (by decide) ?_
    refine lv_icmp_ge (tgt := 26) hx hb dX0_again_5 (by decide) (fun c_5 => ?_) (fun c_5 => ?_)
    · have c_5 : 8 ≤ k := (nI_leI (a := 8) (b := k) (by omega) (by omega)).mp c_5
      have hk8 : k = 8 := by omega
      have hP9 := hP.sub (ws' := [(h0, .inr (0, [.ref hk, .ref h1, .ref h2])), (h1, .inl (d1, 8, .inl b)), (h2, .inl (d2, 8, .inl g))]) [0, 1, 2] rfl
      have hD9 := hD.sub (ws' := [(h0, .inr (0, [.ref hk, .ref h1, .ref h2])), (h1, .inl (d1, 8, .inl b)), (h2, .inl (d2, 8, .inl g))]) [0, 1, 2] (by decide) rfl
      exact W.vret hx hb hr (fun t ht hW => ⟨⟨b, rfl, by rw [hb1, hk8], by rw [ht]; exact hP9, hD9⟩, hS.F ht⟩) hS.2.2 dX0_again_26
    · have c_5 : ¬ (8 ≤ k) := fun z => c_5 ((nI_leI (a := 8) (b := k) (by omega) (by omega)).mpr z)
      exfalso
      omega
  · intro n ih H locs ls hI
    obtain ⟨k, b, hk1, hb1, hP, hD, hS, hl⟩ := hI
    refine lv_iload_n hx hb dX0_again_2 rfl (lv_at hl 1 rfl) ?_
    refine lv_bipush (v := nI 8) hx hb dX0_again_3 (by decide) ?_
    refine lv_icmp_ge (tgt := 26) hx hb dX0_again_5 (by decide) (fun c_5 => ?_) (fun c_5 => ?_)
    · have c_5 : 8 ≤ k := (nI_leI (a := 8) (b := k) (by omega) (by omega)).mp c_5
      exfalso
      omega
    · have c_5 : ¬ (8 ≤ k) := fun z => c_5 ((nI_leI (a := 8) (b := k) (by omega) (by omega)).mpr z)
      refine lv_aload_n hx hb dX0_again_8 rfl (lv_at hl 0 rfl) ?_
      refine va_get (ci := 0) (v := .ref h1) (C := RX0) (T := TX0) (N := 3) hx hb hts in_X0 hown hK hP 0 rfl rfl 1 (by decide) (hts _ q35) (fun _ h9 => h9) rfl dX0_again_9 ?_
      refine lv_iload_n hx hb dX0_again_12 rfl (lv_at hl 1 rfl) ?_
      refine lv_aload_n hx hb dX0_again_13 rfl (lv_at hl 0 rfl) ?_
      refine va_get (ci := 0) (v := .ref h2) (C := RX0) (T := TX0) (N := 3) hx hb hts in_X0 hown hK hP 0 rfl rfl 2 (by decide) (hts _ q36) (fun _ h9 => h9) rfl dX0_again_14 ?_
      refine lv_iload_n hx hb dX0_again_17 rfl (lv_at hl 1 rfl) ?_
      refine im_bald hx hb hK hP 2 1 rfl rfl (i := k) (by omega) (by omega) (v := g k) (rfl) dX0_again_18 ?_
      refine im_bast hx hb hK hP hD hS 1 0 rfl rfl (i := k) (by omega) (by omega) (y := vp_nar .byte (g k)) (rfl) dX0_again_19 (fun g_19 H locs eg_19 hP hD hS => ?_)
      have hP : va_P D vwCl [(h0, .inr (0, [.ref hk, .ref h1, .ref h2])), (h1, .inl (d1, 8, .inl g_19)), (h2, .inl (d2, 8, .inl g))] H := hP
      have hD : va_D A [(h0, .inr (0, [.ref hk, .ref h1, .ref h2])), (h1, .inl (d1, 8, .inl g_19)), (h2, .inl (d2, 8, .inl g))] := hD
      refine lv_iinc (v := nI (k + 1)) (lv' := [(1, .int (nI (k + 1))), (0, .ref h0)]) hx hb dX0_again_20 hl (k := 1) rfl (nI_1 k) (by decide) rfl (fun ls hl => ?_)
      refine lv_goto (tgt := 2) hx hb dX0_again_23 (by decide) ?_
      exact ih _ _ _ ⟨k + 1, g_19, by omega, by rw [eg_19, hb1]; rfl, hP.sub [0, 1, 2] rfl, hD.sub [0, 1, 2] (by decide) rfl, hS, lv_sub hl [1, 0] rfl⟩
set_option maxHeartbeats 4000000 in
set_option maxRecDepth 100000 in
/-- IdeaDesk.out -/
theorem met_out_d (l : Launch) (D : va_G) (h0 hk h1 h2 : Nat) (d2 : ClassId) (g : Nat → Int32) (k : Int32) : Met l yX0_out (ws_ yX0_out cX0_out 2 (some .int)) ({ frames := 0, cells := 0, slots := 0, locals := 0 }) (va_Pc [.ref h0, .int k] (im_Pr D vwCl [(h0, .inr (0, [.ref hk, .ref h1, .ref h2])), (h2, .inl (d2, 8, .inl g))] [(d2, .byte)])) (vp_Si (fun r => r = g (k.toBitVec.toNat % 8) &&& nI 255)) 0 0 (fun _ => False) := by
  refine Met.ofW (cc := cX0_out) (maxL := 2) (ret := (some .int)) (by decide) rfl ?_
  intro p e s m args below meth c s₁ B hml hv
  obtain ⟨rfl, hP, hK⟩ := hv
  have hx := B.exec
  have hb := B.bytes
  have hr := B.returns
  have hts := atoms_spec (ws := (ws_ yX0_out cX0_out 2 (some .int))) B.pre
  have hts : ∀ w ∈ lw_all, w.before _ s = true := fun w h => hts w (List.mem_cons_of_mem _ h)
  have hown : s.vm.findClass RX0 = some m.cls := findClass_of_methodNamed B.named
  have hlocks := B.notSynchronized
  have hl := lv_entry ([.ref h0, .int k]) (n := 2) (Nat.le_of_ble_eq_true rfl)
  rw [lg_entry_eq]
  generalize (lg_sl ([.ref h0, .int k]) ++ List.replicate (2 - (lg_sl ([.ref h0, .int k])).length) Slot.unset).toArray = ls at hl ⊢
  have hl : lv_has ls 2 [(0, .ref h0), (1, .int k)] := hl
  refine lv_aload_n hx hb dX0_out_0 rfl (lv_at hl 0 rfl) ?_
  refine va_get (ci := 0) (v := .ref h2) (C := RX0) (T := TX0) (N := 3) hx hb hts in_X0 hown hK hP 0 rfl rfl 2 (by decide) (hts _ q36) (fun _ h9 => h9) rfl dX0_out_1 ?_
  refine lv_iload_n hx hb dX0_out_4 rfl (lv_at hl 1 rfl) ?_
  refine lv_bipush (v := nI 7) hx hb dX0_out_5 (by decide) ?_
  refine lv_iand hx hb dX0_out_7 ?_
  refine im_top (y := nI (k.toBitVec.toNat % 8)) (pk_and k (m := nI 7) 3 (by decide)) ?_
  refine im_bald hx hb hK hP 1 0 rfl rfl (i := k.toBitVec.toNat % 8) (by omega) (by omega) (v := g (k.toBitVec.toNat % 8)) (rfl) dX0_out_8 ?_
  refine lv_sipush (v := nI 255) hx hb dX0_out_9 (by decide) ?_
  refine lv_iand hx hb dX0_out_12 ?_
  exact W.iret (v := (g (k.toBitVec.toNat % 8)) &&& (nI 255)) hx hb hr (fun t ht hW => ⟨_, rfl, rfl, ht⟩) (fun q hq => by cases hq) dX0_out_13
set_option maxHeartbeats 4000000 in
set_option maxRecDepth 100000 in
/-- IdeaDeskModel.again -/
theorem met_again_m (l : Launch) (D : va_G) (sz : Nat) (h0 hk h1 h2 : Nat) (d1 d2 : ClassId) (f g : Nat → Int32) : Met l yX1_again (ws_ yX1_again cX1_again 2 none) ({ frames := 0, cells := 0, slots := 0, locals := 0 }) (va_Pc [.ref h0] (im_Pw D vwCl [(h0, .inr (1, [.ref hk, .ref h1, .ref h2])), (h1, .inl (d1, 8, .inl f)), (h2, .inl (d2, 8, .inl g))] [(d1, .byte), (d2, .byte)] sz)) (va_Qv (fun (u : Nat → Int32) => u = cpN f g 8) (im_B D vwCl (va_A [(h0, .inr (1, [.ref hk, .ref h1, .ref h2])), (h1, .inl (d1, 8, .inl f)), (h2, .inl (d2, 8, .inl g))] sz) (fun (u : Nat → Int32) => [(h0, .inr (1, [.ref hk, .ref h1, .ref h2])), (h1, .inl (d1, 8, .inl u)), (h2, .inl (d2, 8, .inl g))])) (va_A [(h0, .inr (1, [.ref hk, .ref h1, .ref h2])), (h1, .inl (d1, 8, .inl f)), (h2, .inl (d2, 8, .inl g))] sz)) 0 0 (va_A [(h0, .inr (1, [.ref hk, .ref h1, .ref h2])), (h1, .inl (d1, 8, .inl f)), (h2, .inl (d2, 8, .inl g))] sz) := by
  refine Met.ofW (cc := cX1_again) (maxL := 2) (ret := none) (by decide) rfl ?_
  intro p e s m args below meth c s₁ B hml hv
  obtain ⟨rfl, hsz, hP, hK, hD0⟩ := hv
  have hx := B.exec
  have hb := B.bytes
  have hr := B.returns
  have hts := atoms_spec (ws := (ws_ yX1_again cX1_again 2 none)) B.pre
  have hts : ∀ w ∈ lw_all, w.before _ s = true := fun w h => hts w (List.mem_cons_of_mem _ h)
  have hown : s.vm.findClass RX1 = some m.cls := findClass_of_methodNamed B.named
  have hlocks := B.notSynchronized
  subst hsz
  have hD := hD0.self (sz := s.heap.size)
  generalize hAe : va_A [(h0, .inr (1, [.ref hk, .ref h1, .ref h2])), (h1, .inl (d1, 8, .inl f)), (h2, .inl (d2, 8, .inl g))] s.heap.size = A at hD ⊢
  have hA : ∀ q : Nat, s.heap.size ≤ q → A q := fun q h => by rw [← hAe]; exact Or.inr h
  have hS : va_S A s.heap s.heap [] := va_S.rf
  have hP : va_P D vwCl [(h0, .inr (1, [.ref hk, .ref h1, .ref h2])), (h1, .inl (d1, 8, .inl f)), (h2, .inl (d2, 8, .inl g))] s.heap := hP
  have hl := lv_entry ([.ref h0]) (n := 2) (Nat.le_of_ble_eq_true rfl)
  rw [lg_entry_eq]
  generalize (lg_sl ([.ref h0]) ++ List.replicate (2 - (lg_sl ([.ref h0])).length) Slot.unset).toArray = ls at hl ⊢
  have hl : lv_has ls 2 [(0, .ref h0)] := hl
  refine lv_iconst (v := nI 0) hx hb dX1_again_0 (by decide) ?_
  refine lv_istore_n (lv' := [(1, .int (nI 0)), (0, .ref h0)]) hx hb dX1_again_1 rfl hl (by decide) rfl (fun ls hl => ?_)
  refine im_loop (fun n H locs ls => ∃ (k : Nat) (b : Nat → Int32), k + n = 8 ∧ b = cpN f g k ∧ va_P D vwCl [(h0, .inr (1, [.ref hk, .ref h1, .ref h2])), (h1, .inl (d1, 8, .inl b)), (h2, .inl (d2, 8, .inl g))] H ∧ va_D A [(h0, .inr (1, [.ref hk, .ref h1, .ref h2])), (h1, .inl (d1, 8, .inl b)), (h2, .inl (d2, 8, .inl g))] ∧ va_S A s.heap H locs ∧ lv_has ls 2 [(0, .ref h0), (1, .int (nI k))]) ?_ ?_ (8) _ _ _ ⟨0, f, rfl, rfl, hP.sub [0, 1, 2] rfl, hD.sub [0, 1, 2] (by decide) rfl, hS, lv_sub hl [1, 0] rfl⟩
  · intro H locs ls hI
    obtain ⟨k, b, hk1, hb1, hP, hD, hS, hl⟩ := hI
    refine lv_iload_n hx hb dX1_again_2 rfl (lv_at hl 1 rfl) ?_
    refine lv_bipush (v := nI 8) hx hb dX1_again_3 (by decide) ?_
    refine lv_icmp_ge (tgt := 26) hx hb dX1_again_5 (by decide) (fun c_5 => ?_) (fun c_5 => ?_)
    · have c_5 : 8 ≤ k := (nI_leI (a := 8) (b := k) (by omega) (by omega)).mp c_5
      have hk8 : k = 8 := by omega
      have hP9 := hP.sub (ws' := [(h0, .inr (1, [.ref hk, .ref h1, .ref h2])), (h1, .inl (d1, 8, .inl b)), (h2, .inl (d2, 8, .inl g))]) [0, 1, 2] rfl
      have hD9 := hD.sub (ws' := [(h0, .inr (1, [.ref hk, .ref h1, .ref h2])), (h1, .inl (d1, 8, .inl b)), (h2, .inl (d2, 8, .inl g))]) [0, 1, 2] (by decide) rfl
      exact W.vret hx hb hr (fun t ht hW => ⟨⟨b, rfl, by rw [hb1, hk8], by rw [ht]; exact hP9, hD9⟩, hS.F ht⟩) hS.2.2 dX1_again_26
    · have c_5 : ¬ (8 ≤ k) := fun z => c_5 ((nI_leI (a := 8) (b := k) (by omega) (by omega)).mpr z)
      exfalso
      omega
  · intro n ih H locs ls hI
    obtain ⟨k, b, hk1, hb1, hP, hD, hS, hl⟩ := hI
    refine lv_iload_n hx hb dX1_again_2 rfl (lv_at hl 1 rfl) ?_
    refine lv_bipush (v := nI 8) hx hb dX1_again_3 (by decide) ?_
    refine lv_icmp_ge (tgt := 26) hx hb dX1_again_5 (by decide) (fun c_5 => ?_) (fun c_5 => ?_)
    · have c_5 : 8 ≤ k := (nI_leI (a := 8) (b := k) (by omega) (by omega)).mp c_5
      exfalso
      omega
    · have c_5 : ¬ (8 ≤ k) := fun z => c_5 ((nI_leI (a := 8) (b := k) (by omega) (by omega)).mpr z)
      refine lv_aload_n hx hb dX1_again_8 rfl (lv_at hl 0 rfl) ?_
      refine va_get (ci := 1) (v := .ref h1) (C := RX1) (T := TX1) (N := 3) hx hb hts in_X1 hown hK hP 0 rfl rfl 1 (by decide) (hts _ q304) (fun _ h9 => h9) rfl dX1_again_9 ?_
      refine lv_iload_n hx hb dX1_again_12 rfl (lv_at hl 1 rfl) ?_
      refine lv_aload_n hx hb dX1_again_13 rfl (lv_at hl 0 rfl) ?_
      refine va_get (ci := 1) (v := .ref h2) (C := RX1) (T := TX1) (N := 3) hx hb hts in_X1 hown hK hP 0 rfl rfl 2 (by decide) (hts _ q305) (fun _ h9 => h9) rfl dX1_again_14 ?_
      refine lv_iload_n hx hb dX1_again_17 rfl (lv_at hl 1 rfl) ?_
      refine im_bald hx hb hK hP 2 1 rfl rfl (i := k) (by omega) (by omega) (v := g k) (rfl) dX1_again_18 ?_
      refine im_bast hx hb hK hP hD hS 1 0 rfl rfl (i := k) (by omega) (by omega) (y := vp_nar .byte (g k)) (rfl) dX1_again_19 (fun g_19 H locs eg_19 hP hD hS => ?_)
      have hP : va_P D vwCl [(h0, .inr (1, [.ref hk, .ref h1, .ref h2])), (h1, .inl (d1, 8, .inl g_19)), (h2, .inl (d2, 8, .inl g))] H := hP
      have hD : va_D A [(h0, .inr (1, [.ref hk, .ref h1, .ref h2])), (h1, .inl (d1, 8, .inl g_19)), (h2, .inl (d2, 8, .inl g))] := hD
      refine lv_iinc (v := nI (k + 1)) (lv' := [(1, .int (nI (k + 1))), (0, .ref h0)]) hx hb dX1_again_20 hl (k := 1) rfl (nI_1 k) (by decide) rfl (fun ls hl => ?_)
      refine lv_goto (tgt := 2) hx hb dX1_again_23 (by decide) ?_
      exact ih _ _ _ ⟨k + 1, g_19, by omega, by rw [eg_19, hb1]; rfl, hP.sub [0, 1, 2] rfl, hD.sub [0, 1, 2] (by decide) rfl, hS, lv_sub hl [1, 0] rfl⟩
set_option maxHeartbeats 4000000 in
set_option maxRecDepth 100000 in
/-- IdeaDeskModel.out -/
theorem met_out_m (l : Launch) (D : va_G) (h0 hk h1 h2 : Nat) (d2 : ClassId) (g : Nat → Int32) (k : Int32) : Met l yX1_out (ws_ yX1_out cX1_out 2 (some .int)) ({ frames := 0, cells := 0, slots := 0, locals := 0 }) (va_Pc [.ref h0, .int k] (im_Pr D vwCl [(h0, .inr (1, [.ref hk, .ref h1, .ref h2])), (h2, .inl (d2, 8, .inl g))] [(d2, .byte)])) (vp_Si (fun r => r = g (k.toBitVec.toNat % 8) &&& nI 255)) 0 0 (fun _ => False) := by
  refine Met.ofW (cc := cX1_out) (maxL := 2) (ret := (some .int)) (by decide) rfl ?_
  intro p e s m args below meth c s₁ B hml hv
  obtain ⟨rfl, hP, hK⟩ := hv
  have hx := B.exec
  have hb := B.bytes
  have hr := B.returns
  have hts := atoms_spec (ws := (ws_ yX1_out cX1_out 2 (some .int))) B.pre
  have hts : ∀ w ∈ lw_all, w.before _ s = true := fun w h => hts w (List.mem_cons_of_mem _ h)
  have hown : s.vm.findClass RX1 = some m.cls := findClass_of_methodNamed B.named
  have hlocks := B.notSynchronized
  have hl := lv_entry ([.ref h0, .int k]) (n := 2) (Nat.le_of_ble_eq_true rfl)
  rw [lg_entry_eq]
  generalize (lg_sl ([.ref h0, .int k]) ++ List.replicate (2 - (lg_sl ([.ref h0, .int k])).length) Slot.unset).toArray = ls at hl ⊢
  have hl : lv_has ls 2 [(0, .ref h0), (1, .int k)] := hl
  refine lv_aload_n hx hb dX1_out_0 rfl (lv_at hl 0 rfl) ?_
  refine va_get (ci := 1) (v := .ref h2) (C := RX1) (T := TX1) (N := 3) hx hb hts in_X1 hown hK hP 0 rfl rfl 2 (by decide) (hts _ q305) (fun _ h9 => h9) rfl dX1_out_1 ?_
  refine lv_iload_n hx hb dX1_out_4 rfl (lv_at hl 1 rfl) ?_
  refine lv_bipush (v := nI 7) hx hb dX1_out_5 (by decide) ?_
  refine lv_iand hx hb dX1_out_7 ?_
  refine im_top (y := nI (k.toBitVec.toNat % 8)) (pk_and k (m := nI 7) 3 (by decide)) ?_
  refine im_bald hx hb hK hP 1 0 rfl rfl (i := k.toBitVec.toNat % 8) (by omega) (by omega) (v := g (k.toBitVec.toNat % 8)) (rfl) dX1_out_8 ?_
  refine lv_sipush (v := nI 255) hx hb dX1_out_9 (by decide) ?_
  refine lv_iand hx hb dX1_out_12 ?_
  exact W.iret (v := (g (k.toBitVec.toNat % 8)) &&& (nI 255)) hx hb hr (fun t ht hW => ⟨_, rfl, rfl, ht⟩) (fun q hq => by cases hq) dX1_out_13
end
section
/-! MORE ROWS OF MY OWN: fresh arrays that a method hands back; contents that grow place by place -/
/-- the world behind a method that hands back a fresh array: its cells w u, at ra of class cA -/
def im_Br {S : Type} (D : va_G) (cl : List vw_C) (A : Nat → Prop) (w : S → Nat → ClassId → va_W) (ty : FieldType) (u : S) (ra : Nat) (t : State) : Prop := ∃ cA : ClassId, va_P D cl (w u ra cA) t.heap ∧ va_K D cl [(cA, ty)] t ∧ va_D A (w u ra cA)
/-- the world behind a method that leaves a fresh array in its object -/
def im_Bi {S : Type} (D : va_G) (cl : List vw_C) (A : Nat → Prop) (w : S → Nat → ClassId → va_W) (ty : FieldType) (u : S) (t : State) : Prop := ∃ (ra : Nat) (cA : ClassId), va_P D cl (w u ra cA) t.heap ∧ va_K D cl [(cA, ty)] t ∧ va_D A (w u ra cA)
theorem im_cls {D : va_G} {cl : List vw_C} {tys : List (ClassId × FieldType)} {s : State} {k : Nat} {q : vw_C} (hK : va_K D cl tys s) (h : cl[k]? = some q) : ClassAt s q.1 (D.1 k) := by
  have h1 := hK.1 k q h
  obtain ⟨-, h2⟩ := h1
  exact h2
theorem im_ext {z g F : Nat → Int32} {k : Nat} {x : Int32} (hz : ∀ j, j < k → z j = F j) (eg : g = upd z k x) (hx : x = F k) : ∀ j, j < k + 1 → g j = F j := by
  intro j hj
  rw [eg]
  by_cases e : j = k
  · rw [e, pk_us, hx]
  · rw [pk_un e]
    exact hz j (by omega)
theorem im_down {z g F : Nat → Int32} {k k2 : Nat} {x : Int32} (hz : ∀ j, k2 ≤ j → j < 52 → z j = F j) (hk : k2 = k + 1) (eg : g = upd z k x) (hx : x = F k) : ∀ j, k ≤ j → j < 52 → g j = F j := by
  intro j hj h2
  rw [eg]
  by_cases e : j = k
  · rw [e, pk_us, hx]
  · rw [pk_un e]
    exact hz j (by omega) h2
theorem im_kpush {f : Nat → Int32} {b i x : Nat} (hi : i < 16) (hx : x = bitS f ((b + i) % 128)) : nI (ksA f b i) <<< (nI 1 &&& 31) ||| nI x = nI (ksA f b (i + 1)) := by
  rw [ksA_s, ← hx]
  refine im_push ?_ (by rw [hx]; exact bitS_lt _ _)
  have h1 := ksA_lt f b i
  have h2 : 2 ^ i ≤ 2 ^ 15 := Nat.pow_le_pow_right (by decide) (by omega)
  have h3 : (2 : Nat) ^ 15 = 32768 := rfl
  omega
theorem obS_nar (x n : Nat) : vp_nar .byte (obS x n) = obS x n := by
  unfold obS
  split <;> exact b8_nar _
theorem im_four {z0 z1 z2 z3 z4 : Nat → Int32} {a b c d : Nat} (h1 : z1 = upd z0 0 (nI a)) (h2 : z2 = upd z1 1 (nI b)) (h3 : z3 = upd z2 2 (nI c)) (h4 : z4 = upd z3 3 (nI d)) : ∀ j, j < 4 → z4 j = nI (wsel (a, b, c, d) j) := by
  intro j hj
  subst h1 h2 h3 h4
  rcases (show j = 0 ∨ j = 1 ∨ j = 2 ∨ j = 3 by omega) with e | e | e | e <;> subst e <;> rfl
theorem im_wsel {a b c d : Nat} (ha : a < 65536) (hb : b < 65536) (hc : c < 65536) (hd : d < 65536) (j : Nat) : wsel (a, b, c, d) j < 65536 := by
  unfold wsel
  split
  · exact ha
  split
  · exact hb
  split
  · exact hc
  · exact hd
theorem im_x16 {a b : Nat} (ha : a < 65536) (hb : b < 65536) : a ^^^ b < 65536 := Nat.xor_lt_two_pow (n := 16) ha hb
end
section
/-! THE KEYS: both sides' schedules -/
set_option maxHeartbeats 8000000 in
set_option maxRecDepth 100000 in
/-- IdeaDeskModel.keys -/
theorem met_keys (l : Launch) (D : va_G) (sz : Nat) (h0 hk h1 h2 : Nat) (dk : ClassId) (f : Nat → Int32) : Met l yX1_keys (ws_ yX1_keys cX1_keys 6 (some (.array .int))) ({ frames := 0, cells := 2, slots := 180, locals := 0 }) (va_Pc [.ref h0] (im_Pw D vwCl [(h0, .inr (1, [.ref hk, .ref h1, .ref h2])), (hk, .inl (dk, 32, .inl f))] [(dk, .byte)] sz)) (va_Qr (fun (u : Nat → Int32) => ∀ i, i < 52 → u i = nI (ks f i)) (im_Br D vwCl (va_A [(h0, .inr (1, [.ref hk, .ref h1, .ref h2])), (hk, .inl (dk, 32, .inl f))] sz) (fun (u : Nat → Int32) (ra : Nat) (cA : ClassId) => [(h0, .inr (1, [.ref hk, .ref h1, .ref h2])), (hk, .inl (dk, 32, .inl f)), (ra, .inl (cA, 52, .inl u))]) .int) (va_A [(h0, .inr (1, [.ref hk, .ref h1, .ref h2])), (hk, .inl (dk, 32, .inl f))] sz)) 2 180 (va_A [(h0, .inr (1, [.ref hk, .ref h1, .ref h2])), (hk, .inl (dk, 32, .inl f))] sz) := by
  refine Met.ofW (cc := cX1_keys) (maxL := 6) (ret := (some (.array .int))) (by decide) rfl ?_
  intro p e s m args below meth c s₁ B hml hv
  obtain ⟨rfl, hsz, hP, hK, hD0⟩ := hv
  have hx := B.exec
  have hb := B.bytes
  have hr := B.returns
  have hts := atoms_spec (ws := (ws_ yX1_keys cX1_keys 6 (some (.array .int)))) B.pre
  have hts : ∀ w ∈ lw_all, w.before _ s = true := fun w h => hts w (List.mem_cons_of_mem _ h)
  have hown : s.vm.findClass RX1 = some m.cls := findClass_of_methodNamed B.named
  have hlocks := B.notSynchronized
  subst hsz
  have hD := hD0.self (sz := s.heap.size)
  generalize hAe : va_A [(h0, .inr (1, [.ref hk, .ref h1, .ref h2])), (hk, .inl (dk, 32, .inl f))] s.heap.size = A at hD ⊢
  have hA : ∀ q : Nat, s.heap.size ≤ q → A q := fun q h => by rw [← hAe]; exact Or.inr h
  have hS : va_S A s.heap s.heap [] := va_S.rf
  have hP : va_P D vwCl [(h0, .inr (1, [.ref hk, .ref h1, .ref h2])), (hk, .inl (dk, 32, .inl f))] s.heap := hP
  have hl := lv_entry ([.ref h0]) (n := 6) (Nat.le_of_ble_eq_true rfl)
  rw [lg_entry_eq]
  generalize (lg_sl ([.ref h0]) ++ List.replicate (6 - (lg_sl ([.ref h0])).length) Slot.unset).toArray = ls at hl ⊢
  have hl : lv_has ls 6 [(0, .ref h0)] := hl
  refine lv_bipush (v := nI 52) hx hb dX1_keys_0 (by decide) ?_
  refine va_newa (atype := .int) (ty := .int) (N' := 52) (a0 := (52, .inl (fun _ => 0))) hx hb (hts _ q210) rfl hK hP hD hS hA (fun _ => rfl) (nI_pos (n := 52) (by omega)) (nI_clamp (n := 52) (by omega)) (Nat.le_of_ble_eq_true rfl) (Nat.le_of_ble_eq_true rfl) (Nat.le_of_ble_eq_true rfl) dX1_keys_2 (fun a_2 da_2 H hK hP hD hS => ?_)
  have hK : va_K D vwCl [(dk, .byte), (da_2, .int)] s := hK
  have hP : va_P D vwCl [(h0, .inr (1, [.ref hk, .ref h1, .ref h2])), (hk, .inl (dk, 32, .inl f)), (a_2, .inl (da_2, 52, .inl (fun _ => 0)))] H := hP
  have hD : va_D A [(h0, .inr (1, [.ref hk, .ref h1, .ref h2])), (hk, .inl (dk, 32, .inl f)), (a_2, .inl (da_2, 52, .inl (fun _ => 0)))] := hD
  refine lv_astore_n (lv' := [(1, .ref a_2), (0, .ref h0)]) hx hb dX1_keys_4 rfl hl (by decide) rfl (fun ls hl => ?_)
  refine lv_sipush (v := nI 128) hx hb dX1_keys_5 (by decide) ?_
  refine va_newa (atype := .boolean) (ty := .boolean) (N' := 128) (a0 := (128, .inl (fun _ => 0))) hx hb (hts _ q345) rfl hK hP hD hS hA (fun _ => rfl) (nI_pos (n := 128) (by omega)) (nI_clamp (n := 128) (by omega)) (Nat.le_of_ble_eq_true rfl) (Nat.le_of_ble_eq_true rfl) (Nat.le_of_ble_eq_true rfl) dX1_keys_8 (fun a_8 da_8 H hK hP hD hS => ?_)
  have hK : va_K D vwCl [(dk, .byte), (da_2, .int), (da_8, .boolean)] s := hK
  have hP : va_P D vwCl [(h0, .inr (1, [.ref hk, .ref h1, .ref h2])), (hk, .inl (dk, 32, .inl f)), (a_2, .inl (da_2, 52, .inl (fun _ => 0))), (a_8, .inl (da_8, 128, .inl (fun _ => 0)))] H := hP
  have hD : va_D A [(h0, .inr (1, [.ref hk, .ref h1, .ref h2])), (hk, .inl (dk, 32, .inl f)), (a_2, .inl (da_2, 52, .inl (fun _ => 0))), (a_8, .inl (da_8, 128, .inl (fun _ => 0)))] := hD
  refine lv_astore_n (lv' := [(2, .ref a_8), (1, .ref a_2), (0, .ref h0)]) hx hb dX1_keys_10 rfl hl (by decide) rfl (fun ls hl => ?_)
  refine lv_iconst (v := nI 0) hx hb dX1_keys_11 (by decide) ?_
  refine lv_istore_n (lv' := [(3, .int (nI 0)), (2, .ref a_8), (1, .ref a_2), (0, .ref h0)]) hx hb dX1_keys_12 rfl hl (by decide) rfl (fun ls hl => ?_)
  refine im_loop (fun n H locs ls => ∃ (k : Nat) (z : Nat → Int32), k + n = 128 ∧ (∀ j, j < k → z j = nI (bitS f j)) ∧ va_P D vwCl [(h0, .inr (1, [.ref hk, .ref h1, .ref h2])), (hk, .inl (dk, 32, .inl f)), (a_2, .inl (da_2, 52, .inl (fun _ => 0))), (a_8, .inl (da_8, 128, .inl z))] H ∧ va_D A [(h0, .inr (1, [.ref hk, .ref h1, .ref h2])), (hk, .inl (dk, 32, .inl f)), (a_2, .inl (da_2, 52, .inl (fun _ => 0))), (a_8, .inl (da_8, 128, .inl z))] ∧ va_S A s.heap H locs ∧ lv_has ls 6 [(0, .ref h0), (1, .ref a_2), (2, .ref a_8), (3, .int (nI k))]) ?_ ?_ (128) _ _ _ ⟨0, (fun _ => 0), rfl, (fun j h => absurd h (Nat.not_lt_zero j)), hP.sub [0, 1, 2, 3] rfl, hD.sub [0, 1, 2, 3] (by decide) rfl, hS, lv_sub hl [3, 2, 1, 0] rfl⟩
  · intro H locs ls hI
    obtain ⟨k, z, hkn, hz, hP, hD, hS, hl⟩ := hI
    refine lv_iload_n hx hb dX1_keys_13 rfl (lv_at hl 3 rfl) ?_
    refine lv_sipush (v := nI 128) hx hb dX1_keys_14 (by decide) ?_
    refine lv_icmp_ge (tgt := 57) hx hb dX1_keys_17 (by decide) (fun c_17 => ?_) (fun c_17 => ?_)
    · have c_17 : 128 ≤ k := (nI_leI (a := 128) (b := k) (by omega) (by omega)).mp c_17
      have hk8 : k = 128 := by omega
      subst hk8
      refine lv_iconst (v := nI 0) hx hb dX1_keys_57 (by decide) ?_
      refine lv_istore_n (lv' := [(3, .int (nI 0)), (0, .ref h0), (1, .ref a_2), (2, .ref a_8)]) hx hb dX1_keys_58 rfl hl (by decide) rfl (fun ls hl => ?_)
      refine im_loop (fun n H locs ls => ∃ (k : Nat) (u : Nat → Int32), k + n = 52 ∧ (∀ j, j < k → u j = nI (ks f j)) ∧ (∀ j, k ≤ j → u j = 0) ∧ va_P D vwCl [(h0, .inr (1, [.ref hk, .ref h1, .ref h2])), (hk, .inl (dk, 32, .inl f)), (a_2, .inl (da_2, 52, .inl u)), (a_8, .inl (da_8, 128, .inl z))] H ∧ va_D A [(h0, .inr (1, [.ref hk, .ref h1, .ref h2])), (hk, .inl (dk, 32, .inl f)), (a_2, .inl (da_2, 52, .inl u)), (a_8, .inl (da_8, 128, .inl z))] ∧ va_S A s.heap H locs ∧ lv_has ls 6 [(0, .ref h0), (1, .ref a_2), (2, .ref a_8), (3, .int (nI k))]) ?_ ?_ (52) _ _ _ ⟨0, (fun _ => 0), rfl, (fun j h => absurd h (Nat.not_lt_zero j)), (fun _ _ => rfl), hP.sub [0, 1, 2, 3] rfl, hD.sub [0, 1, 2, 3] (by decide) rfl, hS, lv_sub hl [1, 2, 3, 0] rfl⟩
      · intro H locs ls hI
        obtain ⟨k, u, hkn, hu, hu0, hP, hD, hS, hl⟩ := hI
        refine lv_iload_n hx hb dX1_keys_59 rfl (lv_at hl 3 rfl) ?_
        refine lv_bipush (v := nI 52) hx hb dX1_keys_60 (by decide) ?_
        refine lv_icmp_ge (tgt := 132) hx hb dX1_keys_62 (by decide) (fun c_62 => ?_) (fun c_62 => ?_)
        · have c_62 : 52 ≤ k := (nI_leI (a := 52) (b := k) (by omega) (by omega)).mp c_62
          have hk5 : k = 52 := by omega
          subst hk5
          refine lv_aload_n hx hb dX1_keys_132 rfl (lv_at hl 1 rfl) ?_
          have hP9 := hP.sub (ws' := [(h0, .inr (1, [.ref hk, .ref h1, .ref h2])), (hk, .inl (dk, 32, .inl f)), (a_2, .inl (da_2, 52, .inl u))]) [0, 1, 2] rfl
          have hD9 := hD.sub (ws' := [(h0, .inr (1, [.ref hk, .ref h1, .ref h2])), (hk, .inl (dk, 32, .inl f)), (a_2, .inl (da_2, 52, .inl u))]) [0, 1, 2] (by decide) rfl
          have hK9 := hK.sub (tys' := [(da_2, .int)]) [1] rfl
          refine W.widen (k := 2) (n := 180) (Nat.le_of_ble_eq_true rfl) (Nat.le_of_ble_eq_true rfl) ?_
          exact W.aret (v := .ref a_2) hx hb hr (Or.inr ⟨_, rfl⟩) (Or.inr ⟨_, rfl⟩) (fun t ht hW => ⟨⟨u, a_2, rfl, hu, _, by rw [ht]; exact hP9, va_K.moved hW.alike hK9, hD9⟩, hS.F ht⟩) hS.2.2 dX1_keys_133
        · have c_62 : ¬ (52 ≤ k) := fun z => c_62 ((nI_leI (a := 52) (b := k) (by omega) (by omega)).mpr z)
          exfalso
          omega
      · intro n ih H locs ls hI
        obtain ⟨k, u, hkn, hu, hu0, hP, hD, hS, hl⟩ := hI
        refine lv_iload_n hx hb dX1_keys_59 rfl (lv_at hl 3 rfl) ?_
        refine lv_bipush (v := nI 52) hx hb dX1_keys_60 (by decide) ?_
        refine lv_icmp_ge (tgt := 132) hx hb dX1_keys_62 (by decide) (fun c_62 => ?_) (fun c_62 => ?_)
        · have c_62 : 52 ≤ k := (nI_leI (a := 52) (b := k) (by omega) (by omega)).mp c_62
          exfalso
          omega
        · have c_62 : ¬ (52 ≤ k) := fun z => c_62 ((nI_leI (a := 52) (b := k) (by omega) (by omega)).mpr z)
          have hkb : kb k < 300 := by unfold kb; omega
          refine lv_bipush (v := nI 25) hx hb dX1_keys_65 (by decide) ?_
          refine lv_iload_n hx hb dX1_keys_67 rfl (lv_at hl 3 rfl) ?_
          refine lv_bipush (v := nI 8) hx hb dX1_keys_68 (by decide) ?_
          refine lv_idiv hx hb dX1_keys_70 (nI_ne0 (n := 8) (by omega) (by omega)) ?_
          refine im_top (y := nI (k / 8)) (pk_div (a := k) (d := 8) (by omega) (by omega) (by omega)) ?_
          refine lv_imul hx hb dX1_keys_71 ?_
          refine im_top (y := nI (25 * (k / 8))) (pk_mul 25 (k / 8)) ?_
          refine lv_bipush (v := nI 16) hx hb dX1_keys_72 (by decide) ?_
          refine lv_iload_n hx hb dX1_keys_74 rfl (lv_at hl 3 rfl) ?_
          refine lv_bipush (v := nI 8) hx hb dX1_keys_75 (by decide) ?_
          refine lv_irem hx hb dX1_keys_77 (nI_ne0 (n := 8) (by omega) (by omega)) ?_
          refine im_top (y := nI (k % 8)) (pk_rem (a := k) (d := 8) (by omega) (by omega) (by omega)) ?_
          refine lv_imul hx hb dX1_keys_78 ?_
          refine im_top (y := nI (16 * (k % 8))) (pk_mul 16 (k % 8)) ?_
          refine lv_iadd hx hb dX1_keys_79 ?_
          refine im_top (y := nI (kb k)) (nI_add (25 * (k / 8)) (16 * (k % 8))) ?_
          refine lv_istore (lv' := [(4, .int (nI (kb k))), (0, .ref h0), (1, .ref a_2), (2, .ref a_8), (3, .int (nI k))]) hx hb dX1_keys_80 hl (by decide) rfl (fun ls hl => ?_)
          refine lv_iconst (v := nI 0) hx hb dX1_keys_82 (by decide) ?_
          refine lv_istore (lv' := [(5, .int (nI 0)), (4, .int (nI (kb k))), (0, .ref h0), (1, .ref a_2), (2, .ref a_8), (3, .int (nI k))]) hx hb dX1_keys_83 hl (by decide) rfl (fun ls hl => ?_)
          refine im_loop (fun n H locs ls => ∃ (i : Nat) (v : Nat → Int32), i + n = 16 ∧ (∀ j, j < k → v j = nI (ks f j)) ∧ v k = nI (ksA f (kb k) i) ∧ (∀ j, k < j → v j = 0) ∧ va_P D vwCl [(h0, .inr (1, [.ref hk, .ref h1, .ref h2])), (hk, .inl (dk, 32, .inl f)), (a_2, .inl (da_2, 52, .inl v)), (a_8, .inl (da_8, 128, .inl z))] H ∧ va_D A [(h0, .inr (1, [.ref hk, .ref h1, .ref h2])), (hk, .inl (dk, 32, .inl f)), (a_2, .inl (da_2, 52, .inl v)), (a_8, .inl (da_8, 128, .inl z))] ∧ va_S A s.heap H locs ∧ lv_has ls 6 [(0, .ref h0), (1, .ref a_2), (2, .ref a_8), (3, .int (nI k)), (4, .int (nI (kb k))), (5, .int (nI i))]) ?_ ?_ (16) _ _ _ ⟨0, u, rfl, hu, hu0 k (Nat.le_refl k), (fun j h => hu0 j (by omega)), hP.sub [0, 1, 2, 3] rfl, hD.sub [0, 1, 2, 3] (by decide) rfl, hS, lv_sub hl [2, 3, 4, 5, 1, 0] rfl⟩
          · intro H locs ls hI
            obtain ⟨i, v, hin, hv, hvk, hv0, hP, hD, hS, hl⟩ := hI
            refine lv_iload hx hb dX1_keys_85 (lv_at hl 5 rfl) ?_
            refine lv_bipush (v := nI 16) hx hb dX1_keys_87 (by decide) ?_
            refine lv_icmp_ge (tgt := 126) hx hb dX1_keys_89 (by decide) (fun c_89 => ?_) (fun c_89 => ?_)
            · have c_89 : 16 ≤ i := (nI_leI (a := 16) (b := i) (by omega) (by omega)).mp c_89
              have hi16 : i = 16 := by omega
              subst hi16
              refine lv_iinc (v := nI (k + 1)) (lv' := [(3, .int (nI (k + 1))), (0, .ref h0), (1, .ref a_2), (2, .ref a_8), (4, .int (nI (kb k))), (5, .int (nI 16))]) hx hb dX1_keys_126 hl (k := 3) rfl (nI_1 k) (by decide) rfl (fun ls hl => ?_)
              refine lv_goto (tgt := 59) hx hb dX1_keys_129 (by decide) ?_
              exact ih _ _ _ ⟨k + 1, v, by omega, (fun j hj => (show j < k ∨ j = k by omega).elim (hv j) (fun e => by rw [e]; exact hvk)), (fun j hj => hv0 j (by omega)), hP.sub [0, 1, 2, 3] rfl, hD.sub [0, 1, 2, 3] (by decide) rfl, hS, lv_sub hl [1, 2, 3, 0] rfl⟩
            · have c_89 : ¬ (16 ≤ i) := fun z => c_89 ((nI_leI (a := 16) (b := i) (by omega) (by omega)).mpr z)
              exfalso
              omega
          · intro n ih H locs ls hI
            obtain ⟨i, v, hin, hv, hvk, hv0, hP, hD, hS, hl⟩ := hI
            refine lv_iload hx hb dX1_keys_85 (lv_at hl 5 rfl) ?_
            refine lv_bipush (v := nI 16) hx hb dX1_keys_87 (by decide) ?_
            refine lv_icmp_ge (tgt := 126) hx hb dX1_keys_89 (by decide) (fun c_89 => ?_) (fun c_89 => ?_)
            · have c_89 : 16 ≤ i := (nI_leI (a := 16) (b := i) (by omega) (by omega)).mp c_89
              exfalso
              omega
            · have c_89 : ¬ (16 ≤ i) := fun z => c_89 ((nI_leI (a := 16) (b := i) (by omega) (by omega)).mpr z)
              have hbit := bitS_lt f ((kb k + i) % 128)
              refine lv_aload_n hx hb dX1_keys_92 rfl (lv_at hl 1 rfl) ?_
              refine lv_iload_n hx hb dX1_keys_93 rfl (lv_at hl 3 rfl) ?_
              refine lv_aload_n hx hb dX1_keys_94 rfl (lv_at hl 1 rfl) ?_
              refine lv_iload_n hx hb dX1_keys_95 rfl (lv_at hl 3 rfl) ?_
              refine im_iald hx hb hK hP 2 1 rfl rfl (i := k) (by omega) (by omega) (v := nI (ksA f (kb k) i)) (hvk) dX1_keys_96 ?_
              refine lv_iconst (v := nI 1) hx hb dX1_keys_97 (by decide) ?_
              refine lv_ishl hx hb dX1_keys_98 ?_
              refine lv_aload_n hx hb dX1_keys_99 rfl (lv_at hl 2 rfl) ?_
              refine lv_iload hx hb dX1_keys_100 (lv_at hl 4 rfl) ?_
              refine lv_iload hx hb dX1_keys_102 (lv_at hl 5 rfl) ?_
              refine lv_iadd hx hb dX1_keys_104 ?_
              refine im_top (y := nI (kb k + i)) (nI_add (kb k) i) ?_
              refine lv_sipush (v := nI 128) hx hb dX1_keys_105 (by decide) ?_
              refine lv_irem hx hb dX1_keys_108 (nI_ne0 (n := 128) (by omega) (by omega)) ?_
              refine im_top (y := nI ((kb k + i) % 128)) (pk_rem (a := kb k + i) (d := 128) (by omega) (by omega) (by omega)) ?_
              refine im_zald hx hb hK hP 3 2 rfl rfl (i := (kb k + i) % 128) (by omega) (by omega) (v := nI (bitS f ((kb k + i) % 128))) (hz _ (by omega)) dX1_keys_109 ?_
              refine lv_if_eq (tgt := 117) hx hb dX1_keys_110 (by decide) (fun c_110 => ?_) (fun c_110 => ?_)
              · have c_110 : (bitS f ((kb k + i) % 128)) = 0 := (nI_eq (a := bitS f ((kb k + i) % 128)) (b := 0) (by omega) (by omega)).mp c_110
                refine lv_iconst (v := nI 0) hx hb dX1_keys_117 (by decide) ?_
                refine lv_ior hx hb dX1_keys_118 ?_
                refine im_top (y := nI (ksA f (kb k) (i + 1))) (im_kpush (x := 0) (by omega) (by omega)) ?_
                refine im_iast hx hb hK hP hD hS 2 1 rfl rfl (i := k) (by omega) (by omega) dX1_keys_119 (fun g_119 H locs eg_119 hP hD hS => ?_)
                have hP : va_P D vwCl [(h0, .inr (1, [.ref hk, .ref h1, .ref h2])), (hk, .inl (dk, 32, .inl f)), (a_2, .inl (da_2, 52, .inl g_119)), (a_8, .inl (da_8, 128, .inl z))] H := hP
                have hD : va_D A [(h0, .inr (1, [.ref hk, .ref h1, .ref h2])), (hk, .inl (dk, 32, .inl f)), (a_2, .inl (da_2, 52, .inl g_119)), (a_8, .inl (da_8, 128, .inl z))] := hD
                refine lv_iinc (v := nI (i + 1)) (lv' := [(5, .int (nI (i + 1))), (0, .ref h0), (1, .ref a_2), (2, .ref a_8), (3, .int (nI k)), (4, .int (nI (kb k)))]) hx hb dX1_keys_120 hl (k := 5) rfl (nI_1 i) (by decide) rfl (fun ls hl => ?_)
                refine lv_goto (tgt := 85) hx hb dX1_keys_123 (by decide) ?_
                exact ih _ _ _ ⟨i + 1, g_119, by omega, (fun j hj => by rw [eg_119, pk_un (by omega)]; exact hv j hj), by rw [eg_119, pk_us], (fun j hj => by rw [eg_119, pk_un (by omega)]; exact hv0 j hj), hP.sub [0, 1, 2, 3] rfl, hD.sub [0, 1, 2, 3] (by decide) rfl, hS, lv_sub hl [1, 2, 3, 4, 5, 0] rfl⟩
              · have c_110 : ¬ ((bitS f ((kb k + i) % 128)) = 0) := fun z => c_110 ((nI_eq (a := bitS f ((kb k + i) % 128)) (b := 0) (by omega) (by omega)).mpr z)
                refine lv_iconst (v := nI 1) hx hb dX1_keys_113 (by decide) ?_
                refine lv_goto (tgt := 118) hx hb dX1_keys_114 (by decide) ?_
                refine lv_ior hx hb dX1_keys_118 ?_
                refine im_top (y := nI (ksA f (kb k) (i + 1))) (im_kpush (x := 1) (by omega) (by omega)) ?_
                refine im_iast hx hb hK hP hD hS 2 1 rfl rfl (i := k) (by omega) (by omega) dX1_keys_119 (fun g_119 H locs eg_119 hP hD hS => ?_)
                have hP : va_P D vwCl [(h0, .inr (1, [.ref hk, .ref h1, .ref h2])), (hk, .inl (dk, 32, .inl f)), (a_2, .inl (da_2, 52, .inl g_119)), (a_8, .inl (da_8, 128, .inl z))] H := hP
                have hD : va_D A [(h0, .inr (1, [.ref hk, .ref h1, .ref h2])), (hk, .inl (dk, 32, .inl f)), (a_2, .inl (da_2, 52, .inl g_119)), (a_8, .inl (da_8, 128, .inl z))] := hD
                refine lv_iinc (v := nI (i + 1)) (lv' := [(5, .int (nI (i + 1))), (0, .ref h0), (1, .ref a_2), (2, .ref a_8), (3, .int (nI k)), (4, .int (nI (kb k)))]) hx hb dX1_keys_120 hl (k := 5) rfl (nI_1 i) (by decide) rfl (fun ls hl => ?_)
                refine lv_goto (tgt := 85) hx hb dX1_keys_123 (by decide) ?_
                exact ih _ _ _ ⟨i + 1, g_119, by omega, (fun j hj => by rw [eg_119, pk_un (by omega)]; exact hv j hj), by rw [eg_119, pk_us], (fun j hj => by rw [eg_119, pk_un (by omega)]; exact hv0 j hj), hP.sub [0, 1, 2, 3] rfl, hD.sub [0, 1, 2, 3] (by decide) rfl, hS, lv_sub hl [1, 2, 3, 4, 5, 0] rfl⟩
    · have c_17 : ¬ (128 ≤ k) := fun z => c_17 ((nI_leI (a := 128) (b := k) (by omega) (by omega)).mpr z)
      exfalso
      omega
  · intro n ih H locs ls hI
    obtain ⟨k, z, hkn, hz, hP, hD, hS, hl⟩ := hI
    refine lv_iload_n hx hb dX1_keys_13 rfl (lv_at hl 3 rfl) ?_
    refine lv_sipush (v := nI 128) hx hb dX1_keys_14 (by decide) ?_
    refine lv_icmp_ge (tgt := 57) hx hb dX1_keys_17 (by decide) (fun c_17 => ?_) (fun c_17 => ?_)
    · have c_17 : 128 ≤ k := (nI_leI (a := 128) (b := k) (by omega) (by omega)).mp c_17
      exfalso
      omega
    · have c_17 : ¬ (128 ≤ k) := fun z => c_17 ((nI_leI (a := 128) (b := k) (by omega) (by omega)).mpr z)
      have hbit := bitS_lt f k
      refine lv_aload_n hx hb dX1_keys_20 rfl (lv_at hl 2 rfl) ?_
      refine lv_iload_n hx hb dX1_keys_21 rfl (lv_at hl 3 rfl) ?_
      refine lv_aload_n hx hb dX1_keys_22 rfl (lv_at hl 0 rfl) ?_
      refine va_get (ci := 1) (v := .ref hk) (C := RX1) (T := TX1) (N := 3) hx hb hts in_X1 hown hK hP 0 rfl rfl 0 (by decide) (hts _ q303) (fun _ h9 => h9) rfl dX1_keys_23 ?_
      refine lv_iload_n hx hb dX1_keys_26 rfl (lv_at hl 3 rfl) ?_
      refine lv_bipush (v := nI 8) hx hb dX1_keys_27 (by decide) ?_
      refine lv_idiv hx hb dX1_keys_29 (nI_ne0 (n := 8) (by omega) (by omega)) ?_
      refine im_top (y := nI (k / 8)) (pk_div (a := k) (d := 8) (by omega) (by omega) (by omega)) ?_
      refine im_bald hx hb hK hP 1 0 rfl rfl (i := k / 8) (by omega) (by omega) (v := f (k / 8)) (rfl) dX1_keys_30 ?_
      refine lv_bipush (v := nI 7) hx hb dX1_keys_31 (by decide) ?_
      refine lv_iload_n hx hb dX1_keys_33 rfl (lv_at hl 3 rfl) ?_
      refine lv_bipush (v := nI 8) hx hb dX1_keys_34 (by decide) ?_
      refine lv_irem hx hb dX1_keys_36 (nI_ne0 (n := 8) (by omega) (by omega)) ?_
      refine im_top (y := nI (k % 8)) (pk_rem (a := k) (d := 8) (by omega) (by omega) (by omega)) ?_
      refine lv_isub hx hb dX1_keys_37 ?_
      refine im_top (y := nI (7 - (k % 8))) (pk_sub (a := 7) (b := k % 8) (by omega)) ?_
      refine lv_ishr hx hb dX1_keys_38 ?_
      refine lv_iconst (v := nI 1) hx hb dX1_keys_39 (by decide) ?_
      refine lv_iand hx hb dX1_keys_40 ?_
      refine im_top (y := nI (bitS f k)) (by8_bit (f (k / 8)) (s := 7 - k % 8) (by omega)) ?_
      refine lv_iconst (v := nI 1) hx hb dX1_keys_41 (by decide) ?_
      refine lv_icmp_ne (tgt := 49) hx hb dX1_keys_42 (by decide) (fun c_42 => ?_) (fun c_42 => ?_)
      · have c_42 : ¬ ((bitS f k) = 1) := fun z => c_42 ((nI_eq (a := bitS f k) (b := 1) (by omega) (by omega)).mpr z)
        refine lv_iconst (v := nI 0) hx hb dX1_keys_49 (by decide) ?_
        refine im_zast hx hb hK hP hD hS 3 2 rfl rfl (i := k) (by omega) (by omega) (y := nI 0) (rfl) dX1_keys_50 (fun g_50 H locs eg_50 hP hD hS => ?_)
        have hP : va_P D vwCl [(h0, .inr (1, [.ref hk, .ref h1, .ref h2])), (hk, .inl (dk, 32, .inl f)), (a_2, .inl (da_2, 52, .inl (fun _ => 0))), (a_8, .inl (da_8, 128, .inl g_50))] H := hP
        have hD : va_D A [(h0, .inr (1, [.ref hk, .ref h1, .ref h2])), (hk, .inl (dk, 32, .inl f)), (a_2, .inl (da_2, 52, .inl (fun _ => 0))), (a_8, .inl (da_8, 128, .inl g_50))] := hD
        refine lv_iinc (v := nI (k + 1)) (lv' := [(3, .int (nI (k + 1))), (0, .ref h0), (1, .ref a_2), (2, .ref a_8)]) hx hb dX1_keys_51 hl (k := 3) rfl (nI_1 k) (by decide) rfl (fun ls hl => ?_)
        refine lv_goto (tgt := 13) hx hb dX1_keys_54 (by decide) ?_
        exact ih _ _ _ ⟨k + 1, g_50, by omega, im_ext (F := fun j => nI (bitS f j)) hz eg_50 (congrArg nI (show 0 = bitS f k by omega)), hP.sub [0, 1, 2, 3] rfl, hD.sub [0, 1, 2, 3] (by decide) rfl, hS, lv_sub hl [1, 2, 3, 0] rfl⟩
      · have c_42 : (bitS f k) = 1 := (nI_eq (a := bitS f k) (b := 1) (by omega) (by omega)).mp c_42
        refine lv_iconst (v := nI 1) hx hb dX1_keys_45 (by decide) ?_
        refine lv_goto (tgt := 50) hx hb dX1_keys_46 (by decide) ?_
        refine im_zast hx hb hK hP hD hS 3 2 rfl rfl (i := k) (by omega) (by omega) (y := nI 1) (rfl) dX1_keys_50 (fun g_50 H locs eg_50 hP hD hS => ?_)
        have hP : va_P D vwCl [(h0, .inr (1, [.ref hk, .ref h1, .ref h2])), (hk, .inl (dk, 32, .inl f)), (a_2, .inl (da_2, 52, .inl (fun _ => 0))), (a_8, .inl (da_8, 128, .inl g_50))] H := hP
        have hD : va_D A [(h0, .inr (1, [.ref hk, .ref h1, .ref h2])), (hk, .inl (dk, 32, .inl f)), (a_2, .inl (da_2, 52, .inl (fun _ => 0))), (a_8, .inl (da_8, 128, .inl g_50))] := hD
        refine lv_iinc (v := nI (k + 1)) (lv' := [(3, .int (nI (k + 1))), (0, .ref h0), (1, .ref a_2), (2, .ref a_8)]) hx hb dX1_keys_51 hl (k := 3) rfl (nI_1 k) (by decide) rfl (fun ls hl => ?_)
        refine lv_goto (tgt := 13) hx hb dX1_keys_54 (by decide) ?_
        exact ih _ _ _ ⟨k + 1, g_50, by omega, im_ext (F := fun j => nI (bitS f j)) hz eg_50 (congrArg nI (show 1 = bitS f k by omega)), hP.sub [0, 1, 2, 3] rfl, hD.sub [0, 1, 2, 3] (by decide) rfl, hS, lv_sub hl [1, 2, 3, 0] rfl⟩
set_option maxHeartbeats 8000000 in
set_option maxRecDepth 100000 in
/-- IdeaDeskModel.undoing -/
theorem met_undoing (l : Launch) (D : va_G) (sz : Nat) (h1 : Nat) (d1 : ClassId) (f : Nat → Int32) (K : Nat → Nat) (hf : ∀ i, i < 52 → f i = nI (K i)) (hKl : ∀ i, K i < 65536) : Met l yX1_undoing (ws_ yX1_undoing cX1_undoing 5 (some (.array .int))) ({ frames := 2, cells := 1, slots := 52, locals := 47 }) (va_Pc [.ref h1] (im_Pw D vwCl [(h1, .inl (d1, 52, .inl f))] [(d1, .int)] sz)) (va_Qr (fun (u : Nat → Int32) => ∀ i, i < 52 → u i = nI (undo K i)) (im_Br D vwCl (va_A [(h1, .inl (d1, 52, .inl f))] sz) (fun (u : Nat → Int32) (ra : Nat) (cA : ClassId) => [(h1, .inl (d1, 52, .inl f)), (ra, .inl (cA, 52, .inl u))]) .int) (va_A [(h1, .inl (d1, 52, .inl f))] sz)) 1 52 (va_A [(h1, .inl (d1, 52, .inl f))] sz) := by
  refine Met.ofW (cc := cX1_undoing) (maxL := 5) (ret := (some (.array .int))) (by decide) rfl ?_
  intro p e s m args below meth c s₁ B hml hv
  obtain ⟨rfl, hsz, hP, hK, hD0⟩ := hv
  have hx := B.exec
  have hb := B.bytes
  have hr := B.returns
  have hts := atoms_spec (ws := (ws_ yX1_undoing cX1_undoing 5 (some (.array .int)))) B.pre
  have hts : ∀ w ∈ lw_all, w.before _ s = true := fun w h => hts w (List.mem_cons_of_mem _ h)
  have hown : s.vm.findClass RX1 = some m.cls := findClass_of_methodNamed B.named
  have hlocks := B.notSynchronized
  subst hsz
  have hD := hD0.self (sz := s.heap.size)
  generalize hAe : va_A [(h1, .inl (d1, 52, .inl f))] s.heap.size = A at hD ⊢
  have hA : ∀ q : Nat, s.heap.size ≤ q → A q := fun q h => by rw [← hAe]; exact Or.inr h
  have hS : va_S A s.heap s.heap [] := va_S.rf
  have hP : va_P D vwCl [(h1, .inl (d1, 52, .inl f))] s.heap := hP
  have hl := lv_entry ([.ref h1]) (n := 5) (Nat.le_of_ble_eq_true rfl)
  rw [lg_entry_eq]
  generalize (lg_sl ([.ref h1]) ++ List.replicate (5 - (lg_sl ([.ref h1])).length) Slot.unset).toArray = ls at hl ⊢
  have hl : lv_has ls 5 [(0, .ref h1)] := hl
  refine lv_bipush (v := nI 52) hx hb dX1_undoing_0 (by decide) ?_
  refine va_newa (atype := .int) (ty := .int) (N' := 52) (a0 := (52, .inl (fun _ => 0))) hx hb (hts _ q210) rfl hK hP hD hS hA (fun _ => rfl) (nI_pos (n := 52) (by omega)) (nI_clamp (n := 52) (by omega)) (Nat.le_of_ble_eq_true rfl) (Nat.le_of_ble_eq_true rfl) (Nat.le_of_ble_eq_true rfl) dX1_undoing_2 (fun a_2 da_2 H hK hP hD hS => ?_)
  have hK : va_K D vwCl [(d1, .int), (da_2, .int)] s := hK
  have hP : va_P D vwCl [(h1, .inl (d1, 52, .inl f)), (a_2, .inl (da_2, 52, .inl (fun _ => 0)))] H := hP
  have hD : va_D A [(h1, .inl (d1, 52, .inl f)), (a_2, .inl (da_2, 52, .inl (fun _ => 0)))] := hD
  refine lv_astore_n (lv' := [(1, .ref a_2), (0, .ref h1)]) hx hb dX1_undoing_4 rfl hl (by decide) rfl (fun ls hl => ?_)
  refine lv_iconst (v := nI 0) hx hb dX1_undoing_5 (by decide) ?_
  refine lv_istore_n (lv' := [(2, .int (nI 0)), (1, .ref a_2), (0, .ref h1)]) hx hb dX1_undoing_6 rfl hl (by decide) rfl (fun ls hl => ?_)
  refine im_loop (fun n H locs ls => ∃ (r : Nat) (z : Nat → Int32), r + n = 9 ∧ (∀ j, j < 6 * r → j < 52 → z j = nI (undo K j)) ∧ va_P D vwCl [(h1, .inl (d1, 52, .inl f)), (a_2, .inl (da_2, 52, .inl z))] H ∧ va_D A [(h1, .inl (d1, 52, .inl f)), (a_2, .inl (da_2, 52, .inl z))] ∧ va_S A s.heap H locs ∧ lv_has ls 5 [(0, .ref h1), (1, .ref a_2), (2, .int (nI r))]) ?_ ?_ (9) _ _ _ ⟨0, (fun _ => 0), rfl, (fun j h => absurd h (by omega)), hP.sub [0, 1] rfl, hD.sub [0, 1] (by decide) rfl, hS, lv_sub hl [2, 1, 0] rfl⟩
  · intro H locs ls hI
    obtain ⟨r, z, hrn, hz, hP, hD, hS, hl⟩ := hI
    refine lv_iload_n hx hb dX1_undoing_7 rfl (lv_at hl 2 rfl) ?_
    refine lv_bipush (v := nI 8) hx hb dX1_undoing_8 (by decide) ?_
    refine lv_icmp_gt (tgt := 154) hx hb dX1_undoing_10 (by decide) (fun c_10 => ?_) (fun c_10 => ?_)
    · have c_10 : 8 < r := (nI_ltI (a := 8) (b := r) (by omega) (by omega)).mp c_10
      refine lv_aload_n hx hb dX1_undoing_154 rfl (lv_at hl 1 rfl) ?_
      have hP9 := hP.sub (ws' := [(h1, .inl (d1, 52, .inl f)), (a_2, .inl (da_2, 52, .inl z))]) [0, 1] rfl
      have hD9 := hD.sub (ws' := [(h1, .inl (d1, 52, .inl f)), (a_2, .inl (da_2, 52, .inl z))]) [0, 1] (by decide) rfl
      have hK9 := hK.sub (tys' := [(da_2, .int)]) [1] rfl
      refine W.widen (k := 1) (n := 52) (Nat.le_of_ble_eq_true rfl) (Nat.le_of_ble_eq_true rfl) ?_
      exact W.aret (v := .ref a_2) hx hb hr (Or.inr ⟨_, rfl⟩) (Or.inr ⟨_, rfl⟩) (fun t ht hW => ⟨⟨z, a_2, rfl, (fun i hi => hz i (by omega) hi), _, by rw [ht]; exact hP9, va_K.moved hW.alike hK9, hD9⟩, hS.F ht⟩) hS.2.2 dX1_undoing_155
    · have c_10 : ¬ (8 < r) := fun z => c_10 ((nI_ltI (a := 8) (b := r) (by omega) (by omega)).mpr z)
      exfalso
      omega
  · intro n ih H locs ls hI
    obtain ⟨r, z, hrn, hz, hP, hD, hS, hl⟩ := hI
    refine lv_iload_n hx hb dX1_undoing_7 rfl (lv_at hl 2 rfl) ?_
    refine lv_bipush (v := nI 8) hx hb dX1_undoing_8 (by decide) ?_
    refine lv_icmp_gt (tgt := 154) hx hb dX1_undoing_10 (by decide) (fun c_10 => ?_) (fun c_10 => ?_)
    · have c_10 : 8 < r := (nI_ltI (a := 8) (b := r) (by omega) (by omega)).mp c_10
      exfalso
      omega
    · have c_10 : ¬ (8 < r) := fun z => c_10 ((nI_ltI (a := 8) (b := r) (by omega) (by omega)).mpr z)
      have hz6 : ∀ j, j < 6 * r → z j = nI (undo K j) := fun j hj => hz j hj (by omega)
      refine lv_bipush (v := nI 48) hx hb dX1_undoing_13 (by decide) ?_
      refine lv_bipush (v := nI 6) hx hb dX1_undoing_15 (by decide) ?_
      refine lv_iload_n hx hb dX1_undoing_17 rfl (lv_at hl 2 rfl) ?_
      refine lv_imul hx hb dX1_undoing_18 ?_
      refine im_top (y := nI (6 * r)) (pk_mul 6 r) ?_
      refine lv_isub hx hb dX1_undoing_19 ?_
      refine im_top (y := nI (48 - (6 * r))) (pk_sub (a := 48) (b := 6 * r) (by omega)) ?_
      refine lv_istore_n (lv' := [(3, .int (nI (48 - (6 * r)))), (0, .ref h1), (1, .ref a_2), (2, .int (nI r))]) hx hb dX1_undoing_20 rfl hl (by decide) rfl (fun ls hl => ?_)
      refine lv_iload_n hx hb dX1_undoing_21 rfl (lv_at hl 3 rfl) ?_
      refine lv_if_eq (tgt := 31) hx hb dX1_undoing_22 (by decide) (fun c_22 => ?_) (fun c_22 => ?_)
      · have c_22 : r = 0 := (nI_eq (a := r) (b := 0) (by omega) (by omega)).mp c_22
        refine lv_iconst (v := nI 1) hx hb dX1_undoing_31 (by decide) ?_
        refine lv_goto (tgt := 36) hx hb dX1_undoing_32 (by decide) ?_
        refine lv_istore (lv' := [(4, .int (nI 1)), (3, .int (nI (48 - (6 * r)))), (0, .ref h1), (1, .ref a_2), (2, .int (nI r))]) hx hb dX1_undoing_36 hl (by decide) rfl (fun ls hl => ?_)
        refine lv_aload_n hx hb dX1_undoing_38 rfl (lv_at hl 3 rfl) ?_
        refine lv_bipush (v := nI 6) hx hb dX1_undoing_39 (by decide) ?_
        refine lv_iload_n hx hb dX1_undoing_41 rfl (lv_at hl 4 rfl) ?_
        refine lv_imul hx hb dX1_undoing_42 ?_
        refine im_top (y := nI (6 * r)) (pk_mul 6 r) ?_
        refine lv_aload_n hx hb dX1_undoing_43 rfl (lv_at hl 2 rfl) ?_
        refine lv_iload_n hx hb dX1_undoing_44 rfl (lv_at hl 1 rfl) ?_
        refine im_iald hx hb hK hP 0 0 rfl rfl (i := 48 - (6 * r)) (by omega) (by omega) (v := nI (K (48 - 6 * r))) (hf _ (by omega)) dX1_undoing_45 ?_
        refine vp_callSi (W.runS (As := [.int (nI (K (48 - 6 * r)))]) (rest := [.int (nI (6 * r)), .ref a_2]) ⟨hx, hb, hml, hown, hts⟩ (met_inverse l (hKl _)) (va_cwS 1 hts (lw_S q353 q354 q14 q355) rfl rfl rfl (by decide +kernel) ⟨Nat.le_of_ble_eq_true rfl, Nat.le_of_ble_eq_true rfl⟩) ⟨im_P0.blind, im_P0.of⟩ rfl rfl hl.1 rfl (lv_room (Nat.le_of_ble_eq_true rfl)) dX1_undoing_46 ⟨Nat.le_of_ble_eq_true rfl, Nat.le_of_ble_eq_true rfl⟩) (fun r_46 hr_46 => ?_)
        have hr_46 : r_46 = nI (invS (K (48 - 6 * r))) := hr_46
        subst hr_46
        refine im_iast hx hb hK hP hD hS 1 1 rfl rfl (i := 6 * r) (by omega) (by omega) dX1_undoing_49 (fun g_49 H locs eg_49 hP hD hS => ?_)
        have hP : va_P D vwCl [(h1, .inl (d1, 52, .inl f)), (a_2, .inl (da_2, 52, .inl g_49))] H := hP
        have hD : va_D A [(h1, .inl (d1, 52, .inl f)), (a_2, .inl (da_2, 52, .inl g_49))] := hD
        refine lv_aload_n hx hb dX1_undoing_50 rfl (lv_at hl 3 rfl) ?_
        refine lv_bipush (v := nI 6) hx hb dX1_undoing_51 (by decide) ?_
        refine lv_iload_n hx hb dX1_undoing_53 rfl (lv_at hl 4 rfl) ?_
        refine lv_imul hx hb dX1_undoing_54 ?_
        refine im_top (y := nI (6 * r)) (pk_mul 6 r) ?_
        refine lv_iconst (v := nI 1) hx hb dX1_undoing_55 (by decide) ?_
        refine lv_iadd hx hb dX1_undoing_56 ?_
        refine im_top (y := nI (6 * r + 1)) (nI_add (6 * r) 1) ?_
        refine lv_aload_n hx hb dX1_undoing_57 rfl (lv_at hl 2 rfl) ?_
        refine lv_iload_n hx hb dX1_undoing_58 rfl (lv_at hl 1 rfl) ?_
        refine lv_iload hx hb dX1_undoing_59 (lv_at hl 0 rfl) ?_
        refine lv_if_eq (tgt := 68) hx hb dX1_undoing_61 (by decide) (fun c_61 => ?_) (fun c_61 => ?_)
        · have c_61 : 1 = 0 := (nI_eq (a := 1) (b := 0) (by omega) (by omega)).mp c_61
          exfalso
          omega
        · have c_61 : ¬ (1 = 0) := fun z => c_61 ((nI_eq (a := 1) (b := 0) (by omega) (by omega)).mpr z)
          refine lv_iconst (v := nI 1) hx hb dX1_undoing_64 (by decide) ?_
          refine lv_goto (tgt := 69) hx hb dX1_undoing_65 (by decide) ?_
          refine lv_iadd hx hb dX1_undoing_69 ?_
          refine im_top (y := nI ((48 - (6 * r)) + 1)) (nI_add (48 - (6 * r)) 1) ?_
          refine im_iald hx hb hK hP 0 0 rfl rfl (i := (48 - (6 * r)) + 1) (by omega) (by omega) (v := nI (K (48 - 6 * r + 1))) (hf _ (by omega)) dX1_undoing_70 ?_
          refine vp_callSi (W.runS (As := [.int (nI (K (48 - 6 * r + 1)))]) (rest := [.int (nI (6 * r + 1)), .ref a_2]) ⟨hx, hb, hml, hown, hts⟩ (met_less l (hKl _)) (va_cwS 1 hts (lw_S q356 q357 q14 q358) rfl rfl rfl (by decide +kernel) ⟨Nat.le_of_ble_eq_true rfl, Nat.le_of_ble_eq_true rfl⟩) ⟨im_P0.blind, im_P0.of⟩ rfl rfl hl.1 rfl (lv_room (Nat.le_of_ble_eq_true rfl)) dX1_undoing_71 ⟨Nat.le_of_ble_eq_true rfl, Nat.le_of_ble_eq_true rfl⟩) (fun r_71 hr_71 => ?_)
          have hr_71 : r_71 = nI (negS (K (48 - 6 * r + 1))) := hr_71
          subst hr_71
          refine im_iast hx hb hK hP hD hS 1 1 rfl rfl (i := 6 * r + 1) (by omega) (by omega) dX1_undoing_74 (fun g_74 H locs eg_74 hP hD hS => ?_)
          have hP : va_P D vwCl [(h1, .inl (d1, 52, .inl f)), (a_2, .inl (da_2, 52, .inl g_74))] H := hP
          have hD : va_D A [(h1, .inl (d1, 52, .inl f)), (a_2, .inl (da_2, 52, .inl g_74))] := hD
          refine lv_aload_n hx hb dX1_undoing_75 rfl (lv_at hl 3 rfl) ?_
          refine lv_bipush (v := nI 6) hx hb dX1_undoing_76 (by decide) ?_
          refine lv_iload_n hx hb dX1_undoing_78 rfl (lv_at hl 4 rfl) ?_
          refine lv_imul hx hb dX1_undoing_79 ?_
          refine im_top (y := nI (6 * r)) (pk_mul 6 r) ?_
          refine lv_iconst (v := nI 2) hx hb dX1_undoing_80 (by decide) ?_
          refine lv_iadd hx hb dX1_undoing_81 ?_
          refine im_top (y := nI (6 * r + 2)) (nI_add (6 * r) 2) ?_
          refine lv_aload_n hx hb dX1_undoing_82 rfl (lv_at hl 2 rfl) ?_
          refine lv_iload_n hx hb dX1_undoing_83 rfl (lv_at hl 1 rfl) ?_
          refine lv_iload hx hb dX1_undoing_84 (lv_at hl 0 rfl) ?_
          refine lv_if_eq (tgt := 93) hx hb dX1_undoing_86 (by decide) (fun c_86 => ?_) (fun c_86 => ?_)
          · have c_86 : 1 = 0 := (nI_eq (a := 1) (b := 0) (by omega) (by omega)).mp c_86
            exfalso
            omega
          · have c_86 : ¬ (1 = 0) := fun z => c_86 ((nI_eq (a := 1) (b := 0) (by omega) (by omega)).mpr z)
            refine lv_iconst (v := nI 2) hx hb dX1_undoing_89 (by decide) ?_
            refine lv_goto (tgt := 94) hx hb dX1_undoing_90 (by decide) ?_
            refine lv_iadd hx hb dX1_undoing_94 ?_
            refine im_top (y := nI ((48 - (6 * r)) + 2)) (nI_add (48 - (6 * r)) 2) ?_
            refine im_iald hx hb hK hP 0 0 rfl rfl (i := (48 - (6 * r)) + 2) (by omega) (by omega) (v := nI (K (48 - 6 * r + 2))) (hf _ (by omega)) dX1_undoing_95 ?_
            refine vp_callSi (W.runS (As := [.int (nI (K (48 - 6 * r + 2)))]) (rest := [.int (nI (6 * r + 2)), .ref a_2]) ⟨hx, hb, hml, hown, hts⟩ (met_less l (hKl _)) (va_cwS 1 hts (lw_S q356 q357 q14 q358) rfl rfl rfl (by decide +kernel) ⟨Nat.le_of_ble_eq_true rfl, Nat.le_of_ble_eq_true rfl⟩) ⟨im_P0.blind, im_P0.of⟩ rfl rfl hl.1 rfl (lv_room (Nat.le_of_ble_eq_true rfl)) dX1_undoing_96 ⟨Nat.le_of_ble_eq_true rfl, Nat.le_of_ble_eq_true rfl⟩) (fun r_96 hr_96 => ?_)
            have hr_96 : r_96 = nI (negS (K (48 - 6 * r + 2))) := hr_96
            subst hr_96
            refine im_iast hx hb hK hP hD hS 1 1 rfl rfl (i := 6 * r + 2) (by omega) (by omega) dX1_undoing_99 (fun g_99 H locs eg_99 hP hD hS => ?_)
            have hP : va_P D vwCl [(h1, .inl (d1, 52, .inl f)), (a_2, .inl (da_2, 52, .inl g_99))] H := hP
            have hD : va_D A [(h1, .inl (d1, 52, .inl f)), (a_2, .inl (da_2, 52, .inl g_99))] := hD
            refine lv_aload_n hx hb dX1_undoing_100 rfl (lv_at hl 3 rfl) ?_
            refine lv_bipush (v := nI 6) hx hb dX1_undoing_101 (by decide) ?_
            refine lv_iload_n hx hb dX1_undoing_103 rfl (lv_at hl 4 rfl) ?_
            refine lv_imul hx hb dX1_undoing_104 ?_
            refine im_top (y := nI (6 * r)) (pk_mul 6 r) ?_
            refine lv_iconst (v := nI 3) hx hb dX1_undoing_105 (by decide) ?_
            refine lv_iadd hx hb dX1_undoing_106 ?_
            refine im_top (y := nI (6 * r + 3)) (nI_add (6 * r) 3) ?_
            refine lv_aload_n hx hb dX1_undoing_107 rfl (lv_at hl 2 rfl) ?_
            refine lv_iload_n hx hb dX1_undoing_108 rfl (lv_at hl 1 rfl) ?_
            refine lv_iconst (v := nI 3) hx hb dX1_undoing_109 (by decide) ?_
            refine lv_iadd hx hb dX1_undoing_110 ?_
            refine im_top (y := nI ((48 - (6 * r)) + 3)) (nI_add (48 - (6 * r)) 3) ?_
            refine im_iald hx hb hK hP 0 0 rfl rfl (i := (48 - (6 * r)) + 3) (by omega) (by omega) (v := nI (K (48 - 6 * r + 3))) (hf _ (by omega)) dX1_undoing_111 ?_
            refine vp_callSi (W.runS (As := [.int (nI (K (48 - 6 * r + 3)))]) (rest := [.int (nI (6 * r + 3)), .ref a_2]) ⟨hx, hb, hml, hown, hts⟩ (met_inverse l (hKl _)) (va_cwS 1 hts (lw_S q353 q354 q14 q355) rfl rfl rfl (by decide +kernel) ⟨Nat.le_of_ble_eq_true rfl, Nat.le_of_ble_eq_true rfl⟩) ⟨im_P0.blind, im_P0.of⟩ rfl rfl hl.1 rfl (lv_room (Nat.le_of_ble_eq_true rfl)) dX1_undoing_112 ⟨Nat.le_of_ble_eq_true rfl, Nat.le_of_ble_eq_true rfl⟩) (fun r_112 hr_112 => ?_)
            have hr_112 : r_112 = nI (invS (K (48 - 6 * r + 3))) := hr_112
            subst hr_112
            refine im_iast hx hb hK hP hD hS 1 1 rfl rfl (i := 6 * r + 3) (by omega) (by omega) dX1_undoing_115 (fun g_115 H locs eg_115 hP hD hS => ?_)
            have hP : va_P D vwCl [(h1, .inl (d1, 52, .inl f)), (a_2, .inl (da_2, 52, .inl g_115))] H := hP
            have hD : va_D A [(h1, .inl (d1, 52, .inl f)), (a_2, .inl (da_2, 52, .inl g_115))] := hD
            refine lv_iload_n hx hb dX1_undoing_116 rfl (lv_at hl 4 rfl) ?_
            refine lv_bipush (v := nI 8) hx hb dX1_undoing_117 (by decide) ?_
            have k0 := im_ext (F := fun j => nI (undo K j)) hz6 eg_49 (congrArg nI (undo_0 K r).symm)
            have k1 := im_ext (F := fun j => nI (undo K j)) k0 eg_74 (congrArg nI (by rw [undo_1, if_pos (by omega)]))
            have k2 := im_ext (F := fun j => nI (undo K j)) k1 eg_99 (congrArg nI (by rw [show 6 * r + 1 + 1 = 6 * r + 2 from rfl, undo_2, if_pos (by omega)]))
            have k3 := im_ext (F := fun j => nI (undo K j)) k2 eg_115 (congrArg nI (by rw [show 6 * r + 1 + 1 + 1 = 6 * r + 3 from rfl, undo_3]))
            refine lv_icmp_ge (tgt := 148) hx hb dX1_undoing_119 (by decide) (fun c_119 => ?_) (fun c_119 => ?_)
            · have c_119 : 8 ≤ r := (nI_leI (a := 8) (b := r) (by omega) (by omega)).mp c_119
              exfalso
              omega
            · have c_119 : ¬ (8 ≤ r) := fun z => c_119 ((nI_leI (a := 8) (b := r) (by omega) (by omega)).mpr z)
              refine lv_aload_n hx hb dX1_undoing_122 rfl (lv_at hl 3 rfl) ?_
              refine lv_bipush (v := nI 6) hx hb dX1_undoing_123 (by decide) ?_
              refine lv_iload_n hx hb dX1_undoing_125 rfl (lv_at hl 4 rfl) ?_
              refine lv_imul hx hb dX1_undoing_126 ?_
              refine im_top (y := nI (6 * r)) (pk_mul 6 r) ?_
              refine lv_iconst (v := nI 4) hx hb dX1_undoing_127 (by decide) ?_
              refine lv_iadd hx hb dX1_undoing_128 ?_
              refine im_top (y := nI (6 * r + 4)) (nI_add (6 * r) 4) ?_
              refine lv_aload_n hx hb dX1_undoing_129 rfl (lv_at hl 2 rfl) ?_
              refine lv_iload_n hx hb dX1_undoing_130 rfl (lv_at hl 1 rfl) ?_
              refine lv_iconst (v := nI 2) hx hb dX1_undoing_131 (by decide) ?_
              refine lv_isub hx hb dX1_undoing_132 ?_
              refine im_top (y := nI ((48 - (6 * r)) - 2)) (pk_sub (a := 48 - (6 * r)) (b := 2) (by omega)) ?_
              refine im_iald hx hb hK hP 0 0 rfl rfl (i := (48 - (6 * r)) - 2) (by omega) (by omega) (v := nI (K (48 - 6 * r - 2))) (hf _ (by omega)) dX1_undoing_133 ?_
              refine im_iast hx hb hK hP hD hS 1 1 rfl rfl (i := 6 * r + 4) (by omega) (by omega) dX1_undoing_134 (fun g_134 H locs eg_134 hP hD hS => ?_)
              have hP : va_P D vwCl [(h1, .inl (d1, 52, .inl f)), (a_2, .inl (da_2, 52, .inl g_134))] H := hP
              have hD : va_D A [(h1, .inl (d1, 52, .inl f)), (a_2, .inl (da_2, 52, .inl g_134))] := hD
              refine lv_aload_n hx hb dX1_undoing_135 rfl (lv_at hl 3 rfl) ?_
              refine lv_bipush (v := nI 6) hx hb dX1_undoing_136 (by decide) ?_
              refine lv_iload_n hx hb dX1_undoing_138 rfl (lv_at hl 4 rfl) ?_
              refine lv_imul hx hb dX1_undoing_139 ?_
              refine im_top (y := nI (6 * r)) (pk_mul 6 r) ?_
              refine lv_iconst (v := nI 5) hx hb dX1_undoing_140 (by decide) ?_
              refine lv_iadd hx hb dX1_undoing_141 ?_
              refine im_top (y := nI (6 * r + 5)) (nI_add (6 * r) 5) ?_
              refine lv_aload_n hx hb dX1_undoing_142 rfl (lv_at hl 2 rfl) ?_
              refine lv_iload_n hx hb dX1_undoing_143 rfl (lv_at hl 1 rfl) ?_
              refine lv_iconst (v := nI 1) hx hb dX1_undoing_144 (by decide) ?_
              refine lv_isub hx hb dX1_undoing_145 ?_
              refine im_top (y := nI ((48 - (6 * r)) - 1)) (pk_sub (a := 48 - (6 * r)) (b := 1) (by omega)) ?_
              refine im_iald hx hb hK hP 0 0 rfl rfl (i := (48 - (6 * r)) - 1) (by omega) (by omega) (v := nI (K (48 - 6 * r - 1))) (hf _ (by omega)) dX1_undoing_146 ?_
              refine im_iast hx hb hK hP hD hS 1 1 rfl rfl (i := 6 * r + 5) (by omega) (by omega) dX1_undoing_147 (fun g_147 H locs eg_147 hP hD hS => ?_)
              have hP : va_P D vwCl [(h1, .inl (d1, 52, .inl f)), (a_2, .inl (da_2, 52, .inl g_147))] H := hP
              have hD : va_D A [(h1, .inl (d1, 52, .inl f)), (a_2, .inl (da_2, 52, .inl g_147))] := hD
              refine lv_iinc (v := nI (r + 1)) (lv' := [(2, .int (nI (r + 1))), (4, .int (nI 1)), (3, .int (nI (48 - (6 * r)))), (0, .ref h1), (1, .ref a_2)]) hx hb dX1_undoing_148 hl (k := 4) rfl (nI_1 r) (by decide) rfl (fun ls hl => ?_)
              refine lv_goto (tgt := 7) hx hb dX1_undoing_151 (by decide) ?_
              have k4 := im_ext (F := fun j => nI (undo K j)) k3 eg_134 (congrArg nI (by rw [show 6 * r + 1 + 1 + 1 + 1 = 6 * r + 4 from rfl, undo_4]))
              have k5 := im_ext (F := fun j => nI (undo K j)) k4 eg_147 (congrArg nI (by rw [show 6 * r + 1 + 1 + 1 + 1 + 1 = 6 * r + 5 from rfl, undo_5]))
              exact ih _ _ _ ⟨r + 1, g_147, by omega, (fun j h1 h2 => k5 j (by omega)), hP.sub [0, 1] rfl, hD.sub [0, 1] (by decide) rfl, hS, lv_sub hl [3, 4, 0] rfl⟩
      · have c_22 : ¬ (r = 0) := fun z => c_22 ((nI_eq (a := r) (b := 0) (by omega) (by omega)).mpr z)
        refine lv_iload_n hx hb dX1_undoing_25 rfl (lv_at hl 3 rfl) ?_
        refine lv_bipush (v := nI 8) hx hb dX1_undoing_26 (by decide) ?_
        refine lv_icmp_ne (tgt := 35) hx hb dX1_undoing_28 (by decide) (fun c_28 => ?_) (fun c_28 => ?_)
        · have c_28 : ¬ (r = 8) := fun z => c_28 ((nI_eq (a := r) (b := 8) (by omega) (by omega)).mpr z)
          refine lv_iconst (v := nI 0) hx hb dX1_undoing_35 (by decide) ?_
          refine lv_istore (lv' := [(4, .int (nI 0)), (3, .int (nI (48 - (6 * r)))), (0, .ref h1), (1, .ref a_2), (2, .int (nI r))]) hx hb dX1_undoing_36 hl (by decide) rfl (fun ls hl => ?_)
          refine lv_aload_n hx hb dX1_undoing_38 rfl (lv_at hl 3 rfl) ?_
          refine lv_bipush (v := nI 6) hx hb dX1_undoing_39 (by decide) ?_
          refine lv_iload_n hx hb dX1_undoing_41 rfl (lv_at hl 4 rfl) ?_
          refine lv_imul hx hb dX1_undoing_42 ?_
          refine im_top (y := nI (6 * r)) (pk_mul 6 r) ?_
          refine lv_aload_n hx hb dX1_undoing_43 rfl (lv_at hl 2 rfl) ?_
          refine lv_iload_n hx hb dX1_undoing_44 rfl (lv_at hl 1 rfl) ?_
          refine im_iald hx hb hK hP 0 0 rfl rfl (i := 48 - (6 * r)) (by omega) (by omega) (v := nI (K (48 - 6 * r))) (hf _ (by omega)) dX1_undoing_45 ?_
          refine vp_callSi (W.runS (As := [.int (nI (K (48 - 6 * r)))]) (rest := [.int (nI (6 * r)), .ref a_2]) ⟨hx, hb, hml, hown, hts⟩ (met_inverse l (hKl _)) (va_cwS 1 hts (lw_S q353 q354 q14 q355) rfl rfl rfl (by decide +kernel) ⟨Nat.le_of_ble_eq_true rfl, Nat.le_of_ble_eq_true rfl⟩) ⟨im_P0.blind, im_P0.of⟩ rfl rfl hl.1 rfl (lv_room (Nat.le_of_ble_eq_true rfl)) dX1_undoing_46 ⟨Nat.le_of_ble_eq_true rfl, Nat.le_of_ble_eq_true rfl⟩) (fun r_46 hr_46 => ?_)
          have hr_46 : r_46 = nI (invS (K (48 - 6 * r))) := hr_46
          subst hr_46
          refine im_iast hx hb hK hP hD hS 1 1 rfl rfl (i := 6 * r) (by omega) (by omega) dX1_undoing_49 (fun g_49 H locs eg_49 hP hD hS => ?_)
          have hP : va_P D vwCl [(h1, .inl (d1, 52, .inl f)), (a_2, .inl (da_2, 52, .inl g_49))] H := hP
          have hD : va_D A [(h1, .inl (d1, 52, .inl f)), (a_2, .inl (da_2, 52, .inl g_49))] := hD
          refine lv_aload_n hx hb dX1_undoing_50 rfl (lv_at hl 3 rfl) ?_
          refine lv_bipush (v := nI 6) hx hb dX1_undoing_51 (by decide) ?_
          refine lv_iload_n hx hb dX1_undoing_53 rfl (lv_at hl 4 rfl) ?_
          refine lv_imul hx hb dX1_undoing_54 ?_
          refine im_top (y := nI (6 * r)) (pk_mul 6 r) ?_
          refine lv_iconst (v := nI 1) hx hb dX1_undoing_55 (by decide) ?_
          refine lv_iadd hx hb dX1_undoing_56 ?_
          refine im_top (y := nI (6 * r + 1)) (nI_add (6 * r) 1) ?_
          refine lv_aload_n hx hb dX1_undoing_57 rfl (lv_at hl 2 rfl) ?_
          refine lv_iload_n hx hb dX1_undoing_58 rfl (lv_at hl 1 rfl) ?_
          refine lv_iload hx hb dX1_undoing_59 (lv_at hl 0 rfl) ?_
          refine lv_if_eq (tgt := 68) hx hb dX1_undoing_61 (by decide) (fun c_61 => ?_) (fun c_61 => ?_)
          · have c_61 : 0 = 0 := (nI_eq (a := 0) (b := 0) (by omega) (by omega)).mp c_61
            refine lv_iconst (v := nI 2) hx hb dX1_undoing_68 (by decide) ?_
            refine lv_iadd hx hb dX1_undoing_69 ?_
            refine im_top (y := nI ((48 - (6 * r)) + 2)) (nI_add (48 - (6 * r)) 2) ?_
            refine im_iald hx hb hK hP 0 0 rfl rfl (i := (48 - (6 * r)) + 2) (by omega) (by omega) (v := nI (K (48 - 6 * r + 2))) (hf _ (by omega)) dX1_undoing_70 ?_
            refine vp_callSi (W.runS (As := [.int (nI (K (48 - 6 * r + 2)))]) (rest := [.int (nI (6 * r + 1)), .ref a_2]) ⟨hx, hb, hml, hown, hts⟩ (met_less l (hKl _)) (va_cwS 1 hts (lw_S q356 q357 q14 q358) rfl rfl rfl (by decide +kernel) ⟨Nat.le_of_ble_eq_true rfl, Nat.le_of_ble_eq_true rfl⟩) ⟨im_P0.blind, im_P0.of⟩ rfl rfl hl.1 rfl (lv_room (Nat.le_of_ble_eq_true rfl)) dX1_undoing_71 ⟨Nat.le_of_ble_eq_true rfl, Nat.le_of_ble_eq_true rfl⟩) (fun r_71 hr_71 => ?_)
            have hr_71 : r_71 = nI (negS (K (48 - 6 * r + 2))) := hr_71
            subst hr_71
            refine im_iast hx hb hK hP hD hS 1 1 rfl rfl (i := 6 * r + 1) (by omega) (by omega) dX1_undoing_74 (fun g_74 H locs eg_74 hP hD hS => ?_)
            have hP : va_P D vwCl [(h1, .inl (d1, 52, .inl f)), (a_2, .inl (da_2, 52, .inl g_74))] H := hP
            have hD : va_D A [(h1, .inl (d1, 52, .inl f)), (a_2, .inl (da_2, 52, .inl g_74))] := hD
            refine lv_aload_n hx hb dX1_undoing_75 rfl (lv_at hl 3 rfl) ?_
            refine lv_bipush (v := nI 6) hx hb dX1_undoing_76 (by decide) ?_
            refine lv_iload_n hx hb dX1_undoing_78 rfl (lv_at hl 4 rfl) ?_
            refine lv_imul hx hb dX1_undoing_79 ?_
            refine im_top (y := nI (6 * r)) (pk_mul 6 r) ?_
            refine lv_iconst (v := nI 2) hx hb dX1_undoing_80 (by decide) ?_
            refine lv_iadd hx hb dX1_undoing_81 ?_
            refine im_top (y := nI (6 * r + 2)) (nI_add (6 * r) 2) ?_
            refine lv_aload_n hx hb dX1_undoing_82 rfl (lv_at hl 2 rfl) ?_
            refine lv_iload_n hx hb dX1_undoing_83 rfl (lv_at hl 1 rfl) ?_
            refine lv_iload hx hb dX1_undoing_84 (lv_at hl 0 rfl) ?_
            refine lv_if_eq (tgt := 93) hx hb dX1_undoing_86 (by decide) (fun c_86 => ?_) (fun c_86 => ?_)
            · have c_86 : 0 = 0 := (nI_eq (a := 0) (b := 0) (by omega) (by omega)).mp c_86
              refine lv_iconst (v := nI 1) hx hb dX1_undoing_93 (by decide) ?_
              refine lv_iadd hx hb dX1_undoing_94 ?_
              refine im_top (y := nI ((48 - (6 * r)) + 1)) (nI_add (48 - (6 * r)) 1) ?_
              refine im_iald hx hb hK hP 0 0 rfl rfl (i := (48 - (6 * r)) + 1) (by omega) (by omega) (v := nI (K (48 - 6 * r + 1))) (hf _ (by omega)) dX1_undoing_95 ?_
              refine vp_callSi (W.runS (As := [.int (nI (K (48 - 6 * r + 1)))]) (rest := [.int (nI (6 * r + 2)), .ref a_2]) ⟨hx, hb, hml, hown, hts⟩ (met_less l (hKl _)) (va_cwS 1 hts (lw_S q356 q357 q14 q358) rfl rfl rfl (by decide +kernel) ⟨Nat.le_of_ble_eq_true rfl, Nat.le_of_ble_eq_true rfl⟩) ⟨im_P0.blind, im_P0.of⟩ rfl rfl hl.1 rfl (lv_room (Nat.le_of_ble_eq_true rfl)) dX1_undoing_96 ⟨Nat.le_of_ble_eq_true rfl, Nat.le_of_ble_eq_true rfl⟩) (fun r_96 hr_96 => ?_)
              have hr_96 : r_96 = nI (negS (K (48 - 6 * r + 1))) := hr_96
              subst hr_96
              refine im_iast hx hb hK hP hD hS 1 1 rfl rfl (i := 6 * r + 2) (by omega) (by omega) dX1_undoing_99 (fun g_99 H locs eg_99 hP hD hS => ?_)
              have hP : va_P D vwCl [(h1, .inl (d1, 52, .inl f)), (a_2, .inl (da_2, 52, .inl g_99))] H := hP
              have hD : va_D A [(h1, .inl (d1, 52, .inl f)), (a_2, .inl (da_2, 52, .inl g_99))] := hD
              refine lv_aload_n hx hb dX1_undoing_100 rfl (lv_at hl 3 rfl) ?_
              refine lv_bipush (v := nI 6) hx hb dX1_undoing_101 (by decide) ?_
              refine lv_iload_n hx hb dX1_undoing_103 rfl (lv_at hl 4 rfl) ?_
              refine lv_imul hx hb dX1_undoing_104 ?_
              refine im_top (y := nI (6 * r)) (pk_mul 6 r) ?_
              refine lv_iconst (v := nI 3) hx hb dX1_undoing_105 (by decide) ?_
              refine lv_iadd hx hb dX1_undoing_106 ?_
              refine im_top (y := nI (6 * r + 3)) (nI_add (6 * r) 3) ?_
              refine lv_aload_n hx hb dX1_undoing_107 rfl (lv_at hl 2 rfl) ?_
              refine lv_iload_n hx hb dX1_undoing_108 rfl (lv_at hl 1 rfl) ?_
              refine lv_iconst (v := nI 3) hx hb dX1_undoing_109 (by decide) ?_
              refine lv_iadd hx hb dX1_undoing_110 ?_
              refine im_top (y := nI ((48 - (6 * r)) + 3)) (nI_add (48 - (6 * r)) 3) ?_
              refine im_iald hx hb hK hP 0 0 rfl rfl (i := (48 - (6 * r)) + 3) (by omega) (by omega) (v := nI (K (48 - 6 * r + 3))) (hf _ (by omega)) dX1_undoing_111 ?_
              refine vp_callSi (W.runS (As := [.int (nI (K (48 - 6 * r + 3)))]) (rest := [.int (nI (6 * r + 3)), .ref a_2]) ⟨hx, hb, hml, hown, hts⟩ (met_inverse l (hKl _)) (va_cwS 1 hts (lw_S q353 q354 q14 q355) rfl rfl rfl (by decide +kernel) ⟨Nat.le_of_ble_eq_true rfl, Nat.le_of_ble_eq_true rfl⟩) ⟨im_P0.blind, im_P0.of⟩ rfl rfl hl.1 rfl (lv_room (Nat.le_of_ble_eq_true rfl)) dX1_undoing_112 ⟨Nat.le_of_ble_eq_true rfl, Nat.le_of_ble_eq_true rfl⟩) (fun r_112 hr_112 => ?_)
              have hr_112 : r_112 = nI (invS (K (48 - 6 * r + 3))) := hr_112
              subst hr_112
              refine im_iast hx hb hK hP hD hS 1 1 rfl rfl (i := 6 * r + 3) (by omega) (by omega) dX1_undoing_115 (fun g_115 H locs eg_115 hP hD hS => ?_)
              have hP : va_P D vwCl [(h1, .inl (d1, 52, .inl f)), (a_2, .inl (da_2, 52, .inl g_115))] H := hP
              have hD : va_D A [(h1, .inl (d1, 52, .inl f)), (a_2, .inl (da_2, 52, .inl g_115))] := hD
              refine lv_iload_n hx hb dX1_undoing_116 rfl (lv_at hl 4 rfl) ?_
              refine lv_bipush (v := nI 8) hx hb dX1_undoing_117 (by decide) ?_
              have k0 := im_ext (F := fun j => nI (undo K j)) hz6 eg_49 (congrArg nI (undo_0 K r).symm)
              have k1 := im_ext (F := fun j => nI (undo K j)) k0 eg_74 (congrArg nI (by rw [undo_1, if_neg (by omega)]))
              have k2 := im_ext (F := fun j => nI (undo K j)) k1 eg_99 (congrArg nI (by rw [show 6 * r + 1 + 1 = 6 * r + 2 from rfl, undo_2, if_neg (by omega)]))
              have k3 := im_ext (F := fun j => nI (undo K j)) k2 eg_115 (congrArg nI (by rw [show 6 * r + 1 + 1 + 1 = 6 * r + 3 from rfl, undo_3]))
              refine lv_icmp_ge (tgt := 148) hx hb dX1_undoing_119 (by decide) (fun c_119 => ?_) (fun c_119 => ?_)
              · have c_119 : 8 ≤ r := (nI_leI (a := 8) (b := r) (by omega) (by omega)).mp c_119
                exfalso
                omega
              · have c_119 : ¬ (8 ≤ r) := fun z => c_119 ((nI_leI (a := 8) (b := r) (by omega) (by omega)).mpr z)
                refine lv_aload_n hx hb dX1_undoing_122 rfl (lv_at hl 3 rfl) ?_
                refine lv_bipush (v := nI 6) hx hb dX1_undoing_123 (by decide) ?_
                refine lv_iload_n hx hb dX1_undoing_125 rfl (lv_at hl 4 rfl) ?_
                refine lv_imul hx hb dX1_undoing_126 ?_
                refine im_top (y := nI (6 * r)) (pk_mul 6 r) ?_
                refine lv_iconst (v := nI 4) hx hb dX1_undoing_127 (by decide) ?_
                refine lv_iadd hx hb dX1_undoing_128 ?_
                refine im_top (y := nI (6 * r + 4)) (nI_add (6 * r) 4) ?_
                refine lv_aload_n hx hb dX1_undoing_129 rfl (lv_at hl 2 rfl) ?_
                refine lv_iload_n hx hb dX1_undoing_130 rfl (lv_at hl 1 rfl) ?_
                refine lv_iconst (v := nI 2) hx hb dX1_undoing_131 (by decide) ?_
                refine lv_isub hx hb dX1_undoing_132 ?_
                refine im_top (y := nI ((48 - (6 * r)) - 2)) (pk_sub (a := 48 - (6 * r)) (b := 2) (by omega)) ?_
                refine im_iald hx hb hK hP 0 0 rfl rfl (i := (48 - (6 * r)) - 2) (by omega) (by omega) (v := nI (K (48 - 6 * r - 2))) (hf _ (by omega)) dX1_undoing_133 ?_
                refine im_iast hx hb hK hP hD hS 1 1 rfl rfl (i := 6 * r + 4) (by omega) (by omega) dX1_undoing_134 (fun g_134 H locs eg_134 hP hD hS => ?_)
                have hP : va_P D vwCl [(h1, .inl (d1, 52, .inl f)), (a_2, .inl (da_2, 52, .inl g_134))] H := hP
                have hD : va_D A [(h1, .inl (d1, 52, .inl f)), (a_2, .inl (da_2, 52, .inl g_134))] := hD
                refine lv_aload_n hx hb dX1_undoing_135 rfl (lv_at hl 3 rfl) ?_
                refine lv_bipush (v := nI 6) hx hb dX1_undoing_136 (by decide) ?_
                refine lv_iload_n hx hb dX1_undoing_138 rfl (lv_at hl 4 rfl) ?_
                refine lv_imul hx hb dX1_undoing_139 ?_
                refine im_top (y := nI (6 * r)) (pk_mul 6 r) ?_
                refine lv_iconst (v := nI 5) hx hb dX1_undoing_140 (by decide) ?_
                refine lv_iadd hx hb dX1_undoing_141 ?_
                refine im_top (y := nI (6 * r + 5)) (nI_add (6 * r) 5) ?_
                refine lv_aload_n hx hb dX1_undoing_142 rfl (lv_at hl 2 rfl) ?_
                refine lv_iload_n hx hb dX1_undoing_143 rfl (lv_at hl 1 rfl) ?_
                refine lv_iconst (v := nI 1) hx hb dX1_undoing_144 (by decide) ?_
                refine lv_isub hx hb dX1_undoing_145 ?_
                refine im_top (y := nI ((48 - (6 * r)) - 1)) (pk_sub (a := 48 - (6 * r)) (b := 1) (by omega)) ?_
                refine im_iald hx hb hK hP 0 0 rfl rfl (i := (48 - (6 * r)) - 1) (by omega) (by omega) (v := nI (K (48 - 6 * r - 1))) (hf _ (by omega)) dX1_undoing_146 ?_
                refine im_iast hx hb hK hP hD hS 1 1 rfl rfl (i := 6 * r + 5) (by omega) (by omega) dX1_undoing_147 (fun g_147 H locs eg_147 hP hD hS => ?_)
                have hP : va_P D vwCl [(h1, .inl (d1, 52, .inl f)), (a_2, .inl (da_2, 52, .inl g_147))] H := hP
                have hD : va_D A [(h1, .inl (d1, 52, .inl f)), (a_2, .inl (da_2, 52, .inl g_147))] := hD
                refine lv_iinc (v := nI (r + 1)) (lv' := [(2, .int (nI (r + 1))), (4, .int (nI 0)), (3, .int (nI (48 - (6 * r)))), (0, .ref h1), (1, .ref a_2)]) hx hb dX1_undoing_148 hl (k := 4) rfl (nI_1 r) (by decide) rfl (fun ls hl => ?_)
                refine lv_goto (tgt := 7) hx hb dX1_undoing_151 (by decide) ?_
                have k4 := im_ext (F := fun j => nI (undo K j)) k3 eg_134 (congrArg nI (by rw [show 6 * r + 1 + 1 + 1 + 1 = 6 * r + 4 from rfl, undo_4]))
                have k5 := im_ext (F := fun j => nI (undo K j)) k4 eg_147 (congrArg nI (by rw [show 6 * r + 1 + 1 + 1 + 1 + 1 = 6 * r + 5 from rfl, undo_5]))
                exact ih _ _ _ ⟨r + 1, g_147, by omega, (fun j h1 h2 => k5 j (by omega)), hP.sub [0, 1] rfl, hD.sub [0, 1] (by decide) rfl, hS, lv_sub hl [3, 4, 0] rfl⟩
            · have c_86 : ¬ (0 = 0) := fun z => c_86 ((nI_eq (a := 0) (b := 0) (by omega) (by omega)).mpr z)
              exfalso
              omega
          · have c_61 : ¬ (0 = 0) := fun z => c_61 ((nI_eq (a := 0) (b := 0) (by omega) (by omega)).mpr z)
            exfalso
            omega
        · have c_28 : r = 8 := (nI_eq (a := r) (b := 8) (by omega) (by omega)).mp c_28
          refine lv_iconst (v := nI 1) hx hb dX1_undoing_31 (by decide) ?_
          refine lv_goto (tgt := 36) hx hb dX1_undoing_32 (by decide) ?_
          refine lv_istore (lv' := [(4, .int (nI 1)), (3, .int (nI (48 - (6 * r)))), (0, .ref h1), (1, .ref a_2), (2, .int (nI r))]) hx hb dX1_undoing_36 hl (by decide) rfl (fun ls hl => ?_)
          refine lv_aload_n hx hb dX1_undoing_38 rfl (lv_at hl 3 rfl) ?_
          refine lv_bipush (v := nI 6) hx hb dX1_undoing_39 (by decide) ?_
          refine lv_iload_n hx hb dX1_undoing_41 rfl (lv_at hl 4 rfl) ?_
          refine lv_imul hx hb dX1_undoing_42 ?_
          refine im_top (y := nI (6 * r)) (pk_mul 6 r) ?_
          refine lv_aload_n hx hb dX1_undoing_43 rfl (lv_at hl 2 rfl) ?_
          refine lv_iload_n hx hb dX1_undoing_44 rfl (lv_at hl 1 rfl) ?_
          refine im_iald hx hb hK hP 0 0 rfl rfl (i := 48 - (6 * r)) (by omega) (by omega) (v := nI (K (48 - 6 * r))) (hf _ (by omega)) dX1_undoing_45 ?_
          refine vp_callSi (W.runS (As := [.int (nI (K (48 - 6 * r)))]) (rest := [.int (nI (6 * r)), .ref a_2]) ⟨hx, hb, hml, hown, hts⟩ (met_inverse l (hKl _)) (va_cwS 1 hts (lw_S q353 q354 q14 q355) rfl rfl rfl (by decide +kernel) ⟨Nat.le_of_ble_eq_true rfl, Nat.le_of_ble_eq_true rfl⟩) ⟨im_P0.blind, im_P0.of⟩ rfl rfl hl.1 rfl (lv_room (Nat.le_of_ble_eq_true rfl)) dX1_undoing_46 ⟨Nat.le_of_ble_eq_true rfl, Nat.le_of_ble_eq_true rfl⟩) (fun r_46 hr_46 => ?_)
          have hr_46 : r_46 = nI (invS (K (48 - 6 * r))) := hr_46
          subst hr_46
          refine im_iast hx hb hK hP hD hS 1 1 rfl rfl (i := 6 * r) (by omega) (by omega) dX1_undoing_49 (fun g_49 H locs eg_49 hP hD hS => ?_)
          have hP : va_P D vwCl [(h1, .inl (d1, 52, .inl f)), (a_2, .inl (da_2, 52, .inl g_49))] H := hP
          have hD : va_D A [(h1, .inl (d1, 52, .inl f)), (a_2, .inl (da_2, 52, .inl g_49))] := hD
          refine lv_aload_n hx hb dX1_undoing_50 rfl (lv_at hl 3 rfl) ?_
          refine lv_bipush (v := nI 6) hx hb dX1_undoing_51 (by decide) ?_
          refine lv_iload_n hx hb dX1_undoing_53 rfl (lv_at hl 4 rfl) ?_
          refine lv_imul hx hb dX1_undoing_54 ?_
          refine im_top (y := nI (6 * r)) (pk_mul 6 r) ?_
          refine lv_iconst (v := nI 1) hx hb dX1_undoing_55 (by decide) ?_
          refine lv_iadd hx hb dX1_undoing_56 ?_
          refine im_top (y := nI (6 * r + 1)) (nI_add (6 * r) 1) ?_
          refine lv_aload_n hx hb dX1_undoing_57 rfl (lv_at hl 2 rfl) ?_
          refine lv_iload_n hx hb dX1_undoing_58 rfl (lv_at hl 1 rfl) ?_
          refine lv_iload hx hb dX1_undoing_59 (lv_at hl 0 rfl) ?_
          refine lv_if_eq (tgt := 68) hx hb dX1_undoing_61 (by decide) (fun c_61 => ?_) (fun c_61 => ?_)
          · have c_61 : 1 = 0 := (nI_eq (a := 1) (b := 0) (by omega) (by omega)).mp c_61
            exfalso
            omega
          · have c_61 : ¬ (1 = 0) := fun z => c_61 ((nI_eq (a := 1) (b := 0) (by omega) (by omega)).mpr z)
            refine lv_iconst (v := nI 1) hx hb dX1_undoing_64 (by decide) ?_
            refine lv_goto (tgt := 69) hx hb dX1_undoing_65 (by decide) ?_
            refine lv_iadd hx hb dX1_undoing_69 ?_
            refine im_top (y := nI ((48 - (6 * r)) + 1)) (nI_add (48 - (6 * r)) 1) ?_
            refine im_iald hx hb hK hP 0 0 rfl rfl (i := (48 - (6 * r)) + 1) (by omega) (by omega) (v := nI (K (48 - 6 * r + 1))) (hf _ (by omega)) dX1_undoing_70 ?_
            refine vp_callSi (W.runS (As := [.int (nI (K (48 - 6 * r + 1)))]) (rest := [.int (nI (6 * r + 1)), .ref a_2]) ⟨hx, hb, hml, hown, hts⟩ (met_less l (hKl _)) (va_cwS 1 hts (lw_S q356 q357 q14 q358) rfl rfl rfl (by decide +kernel) ⟨Nat.le_of_ble_eq_true rfl, Nat.le_of_ble_eq_true rfl⟩) ⟨im_P0.blind, im_P0.of⟩ rfl rfl hl.1 rfl (lv_room (Nat.le_of_ble_eq_true rfl)) dX1_undoing_71 ⟨Nat.le_of_ble_eq_true rfl, Nat.le_of_ble_eq_true rfl⟩) (fun r_71 hr_71 => ?_)
            have hr_71 : r_71 = nI (negS (K (48 - 6 * r + 1))) := hr_71
            subst hr_71
            refine im_iast hx hb hK hP hD hS 1 1 rfl rfl (i := 6 * r + 1) (by omega) (by omega) dX1_undoing_74 (fun g_74 H locs eg_74 hP hD hS => ?_)
            have hP : va_P D vwCl [(h1, .inl (d1, 52, .inl f)), (a_2, .inl (da_2, 52, .inl g_74))] H := hP
            have hD : va_D A [(h1, .inl (d1, 52, .inl f)), (a_2, .inl (da_2, 52, .inl g_74))] := hD
            refine lv_aload_n hx hb dX1_undoing_75 rfl (lv_at hl 3 rfl) ?_
            refine lv_bipush (v := nI 6) hx hb dX1_undoing_76 (by decide) ?_
            refine lv_iload_n hx hb dX1_undoing_78 rfl (lv_at hl 4 rfl) ?_
            refine lv_imul hx hb dX1_undoing_79 ?_
            refine im_top (y := nI (6 * r)) (pk_mul 6 r) ?_
            refine lv_iconst (v := nI 2) hx hb dX1_undoing_80 (by decide) ?_
            refine lv_iadd hx hb dX1_undoing_81 ?_
            refine im_top (y := nI (6 * r + 2)) (nI_add (6 * r) 2) ?_
            refine lv_aload_n hx hb dX1_undoing_82 rfl (lv_at hl 2 rfl) ?_
            refine lv_iload_n hx hb dX1_undoing_83 rfl (lv_at hl 1 rfl) ?_
            refine lv_iload hx hb dX1_undoing_84 (lv_at hl 0 rfl) ?_
            refine lv_if_eq (tgt := 93) hx hb dX1_undoing_86 (by decide) (fun c_86 => ?_) (fun c_86 => ?_)
            · have c_86 : 1 = 0 := (nI_eq (a := 1) (b := 0) (by omega) (by omega)).mp c_86
              exfalso
              omega
            · have c_86 : ¬ (1 = 0) := fun z => c_86 ((nI_eq (a := 1) (b := 0) (by omega) (by omega)).mpr z)
              refine lv_iconst (v := nI 2) hx hb dX1_undoing_89 (by decide) ?_
              refine lv_goto (tgt := 94) hx hb dX1_undoing_90 (by decide) ?_
              refine lv_iadd hx hb dX1_undoing_94 ?_
              refine im_top (y := nI ((48 - (6 * r)) + 2)) (nI_add (48 - (6 * r)) 2) ?_
              refine im_iald hx hb hK hP 0 0 rfl rfl (i := (48 - (6 * r)) + 2) (by omega) (by omega) (v := nI (K (48 - 6 * r + 2))) (hf _ (by omega)) dX1_undoing_95 ?_
              refine vp_callSi (W.runS (As := [.int (nI (K (48 - 6 * r + 2)))]) (rest := [.int (nI (6 * r + 2)), .ref a_2]) ⟨hx, hb, hml, hown, hts⟩ (met_less l (hKl _)) (va_cwS 1 hts (lw_S q356 q357 q14 q358) rfl rfl rfl (by decide +kernel) ⟨Nat.le_of_ble_eq_true rfl, Nat.le_of_ble_eq_true rfl⟩) ⟨im_P0.blind, im_P0.of⟩ rfl rfl hl.1 rfl (lv_room (Nat.le_of_ble_eq_true rfl)) dX1_undoing_96 ⟨Nat.le_of_ble_eq_true rfl, Nat.le_of_ble_eq_true rfl⟩) (fun r_96 hr_96 => ?_)
              have hr_96 : r_96 = nI (negS (K (48 - 6 * r + 2))) := hr_96
              subst hr_96
              refine im_iast hx hb hK hP hD hS 1 1 rfl rfl (i := 6 * r + 2) (by omega) (by omega) dX1_undoing_99 (fun g_99 H locs eg_99 hP hD hS => ?_)
              have hP : va_P D vwCl [(h1, .inl (d1, 52, .inl f)), (a_2, .inl (da_2, 52, .inl g_99))] H := hP
              have hD : va_D A [(h1, .inl (d1, 52, .inl f)), (a_2, .inl (da_2, 52, .inl g_99))] := hD
              refine lv_aload_n hx hb dX1_undoing_100 rfl (lv_at hl 3 rfl) ?_
              refine lv_bipush (v := nI 6) hx hb dX1_undoing_101 (by decide) ?_
              refine lv_iload_n hx hb dX1_undoing_103 rfl (lv_at hl 4 rfl) ?_
              refine lv_imul hx hb dX1_undoing_104 ?_
              refine im_top (y := nI (6 * r)) (pk_mul 6 r) ?_
              refine lv_iconst (v := nI 3) hx hb dX1_undoing_105 (by decide) ?_
              refine lv_iadd hx hb dX1_undoing_106 ?_
              refine im_top (y := nI (6 * r + 3)) (nI_add (6 * r) 3) ?_
              refine lv_aload_n hx hb dX1_undoing_107 rfl (lv_at hl 2 rfl) ?_
              refine lv_iload_n hx hb dX1_undoing_108 rfl (lv_at hl 1 rfl) ?_
              refine lv_iconst (v := nI 3) hx hb dX1_undoing_109 (by decide) ?_
              refine lv_iadd hx hb dX1_undoing_110 ?_
              refine im_top (y := nI ((48 - (6 * r)) + 3)) (nI_add (48 - (6 * r)) 3) ?_
              refine im_iald hx hb hK hP 0 0 rfl rfl (i := (48 - (6 * r)) + 3) (by omega) (by omega) (v := nI (K (48 - 6 * r + 3))) (hf _ (by omega)) dX1_undoing_111 ?_
              refine vp_callSi (W.runS (As := [.int (nI (K (48 - 6 * r + 3)))]) (rest := [.int (nI (6 * r + 3)), .ref a_2]) ⟨hx, hb, hml, hown, hts⟩ (met_inverse l (hKl _)) (va_cwS 1 hts (lw_S q353 q354 q14 q355) rfl rfl rfl (by decide +kernel) ⟨Nat.le_of_ble_eq_true rfl, Nat.le_of_ble_eq_true rfl⟩) ⟨im_P0.blind, im_P0.of⟩ rfl rfl hl.1 rfl (lv_room (Nat.le_of_ble_eq_true rfl)) dX1_undoing_112 ⟨Nat.le_of_ble_eq_true rfl, Nat.le_of_ble_eq_true rfl⟩) (fun r_112 hr_112 => ?_)
              have hr_112 : r_112 = nI (invS (K (48 - 6 * r + 3))) := hr_112
              subst hr_112
              refine im_iast hx hb hK hP hD hS 1 1 rfl rfl (i := 6 * r + 3) (by omega) (by omega) dX1_undoing_115 (fun g_115 H locs eg_115 hP hD hS => ?_)
              have hP : va_P D vwCl [(h1, .inl (d1, 52, .inl f)), (a_2, .inl (da_2, 52, .inl g_115))] H := hP
              have hD : va_D A [(h1, .inl (d1, 52, .inl f)), (a_2, .inl (da_2, 52, .inl g_115))] := hD
              refine lv_iload_n hx hb dX1_undoing_116 rfl (lv_at hl 4 rfl) ?_
              refine lv_bipush (v := nI 8) hx hb dX1_undoing_117 (by decide) ?_
              have k0 := im_ext (F := fun j => nI (undo K j)) hz6 eg_49 (congrArg nI (undo_0 K r).symm)
              have k1 := im_ext (F := fun j => nI (undo K j)) k0 eg_74 (congrArg nI (by rw [undo_1, if_pos (by omega)]))
              have k2 := im_ext (F := fun j => nI (undo K j)) k1 eg_99 (congrArg nI (by rw [show 6 * r + 1 + 1 = 6 * r + 2 from rfl, undo_2, if_pos (by omega)]))
              have k3 := im_ext (F := fun j => nI (undo K j)) k2 eg_115 (congrArg nI (by rw [show 6 * r + 1 + 1 + 1 = 6 * r + 3 from rfl, undo_3]))
              refine lv_icmp_ge (tgt := 148) hx hb dX1_undoing_119 (by decide) (fun c_119 => ?_) (fun c_119 => ?_)
              · have c_119 : 8 ≤ r := (nI_leI (a := 8) (b := r) (by omega) (by omega)).mp c_119
                refine lv_iinc (v := nI (r + 1)) (lv' := [(2, .int (nI (r + 1))), (4, .int (nI 1)), (3, .int (nI (48 - (6 * r)))), (0, .ref h1), (1, .ref a_2)]) hx hb dX1_undoing_148 hl (k := 4) rfl (nI_1 r) (by decide) rfl (fun ls hl => ?_)
                refine lv_goto (tgt := 7) hx hb dX1_undoing_151 (by decide) ?_
                exact ih _ _ _ ⟨r + 1, g_115, by omega, (fun j h1 h2 => k3 j (by omega)), hP.sub [0, 1] rfl, hD.sub [0, 1] (by decide) rfl, hS, lv_sub hl [3, 4, 0] rfl⟩
              · have c_119 : ¬ (8 ≤ r) := fun z => c_119 ((nI_leI (a := 8) (b := r) (by omega) (by omega)).mpr z)
                exfalso
                omega
set_option maxHeartbeats 8000000 in
set_option maxRecDepth 100000 in
/-- IDEAEngine.expandKey -/
theorem met_expand (l : Launch) (D : va_G) (sz : Nat) (h0 h1 : Nat) (v1 v2 : Value) (d1 : ClassId) (f : Nat → Int32) : Met l yX2_expandKey (ws_ yX2_expandKey cX2_expandKey 4 (some (.array .int))) ({ frames := 1, cells := 1, slots := 52, locals := 22 }) (va_Pc [.ref h0, .ref h1] (im_Pw D vwCl [(h0, .inr (2, [v1, v2])), (h1, .inl (d1, 16, .inl f))] [(d1, .byte)] sz)) (va_Qr (fun (u : Nat → Int32) => ∀ i, i < 52 → u i = nI (ks f i)) (im_Br D vwCl (va_A [(h0, .inr (2, [v1, v2])), (h1, .inl (d1, 16, .inl f))] sz) (fun (u : Nat → Int32) (ra : Nat) (cA : ClassId) => [(h0, .inr (2, [v1, v2])), (h1, .inl (d1, 16, .inl f)), (ra, .inl (cA, 52, .inl u))]) .int) (va_A [(h0, .inr (2, [v1, v2])), (h1, .inl (d1, 16, .inl f))] sz)) 1 52 (va_A [(h0, .inr (2, [v1, v2])), (h1, .inl (d1, 16, .inl f))] sz) := by
  refine Met.ofW (cc := cX2_expandKey) (maxL := 4) (ret := (some (.array .int))) (by decide) rfl ?_
  intro p e s m args below meth c s₁ B hml hv
  obtain ⟨rfl, hsz, hP, hK, hD0⟩ := hv
  have hx := B.exec
  have hb := B.bytes
  have hr := B.returns
  have hts := atoms_spec (ws := (ws_ yX2_expandKey cX2_expandKey 4 (some (.array .int)))) B.pre
  have hts : ∀ w ∈ lw_all, w.before _ s = true := fun w h => hts w (List.mem_cons_of_mem _ h)
  have hown : s.vm.findClass RX2 = some m.cls := findClass_of_methodNamed B.named
  have hlocks := B.notSynchronized
  subst hsz
  have hD := hD0.self (sz := s.heap.size)
  generalize hAe : va_A [(h0, .inr (2, [v1, v2])), (h1, .inl (d1, 16, .inl f))] s.heap.size = A at hD ⊢
  have hA : ∀ q : Nat, s.heap.size ≤ q → A q := fun q h => by rw [← hAe]; exact Or.inr h
  have hS : va_S A s.heap s.heap [] := va_S.rf
  have hP : va_P D vwCl [(h0, .inr (2, [v1, v2])), (h1, .inl (d1, 16, .inl f))] s.heap := hP
  have hl := lv_entry ([.ref h0, .ref h1]) (n := 4) (Nat.le_of_ble_eq_true rfl)
  rw [lg_entry_eq]
  generalize (lg_sl ([.ref h0, .ref h1]) ++ List.replicate (4 - (lg_sl ([.ref h0, .ref h1])).length) Slot.unset).toArray = ls at hl ⊢
  have hl : lv_has ls 4 [(0, .ref h0), (1, .ref h1)] := hl
  refine lv_bipush (v := nI 52) hx hb dX2_expandKey_0 (by decide) ?_
  refine va_newa (atype := .int) (ty := .int) (N' := 52) (a0 := (52, .inl (fun _ => 0))) hx hb (hts _ q210) rfl hK hP hD hS hA (fun _ => rfl) (nI_pos (n := 52) (by omega)) (nI_clamp (n := 52) (by omega)) (Nat.le_of_ble_eq_true rfl) (Nat.le_of_ble_eq_true rfl) (Nat.le_of_ble_eq_true rfl) dX2_expandKey_2 (fun a_2 da_2 H hK hP hD hS => ?_)
  have hK : va_K D vwCl [(d1, .byte), (da_2, .int)] s := hK
  have hP : va_P D vwCl [(h0, .inr (2, [v1, v2])), (h1, .inl (d1, 16, .inl f)), (a_2, .inl (da_2, 52, .inl (fun _ => 0)))] H := hP
  have hD : va_D A [(h0, .inr (2, [v1, v2])), (h1, .inl (d1, 16, .inl f)), (a_2, .inl (da_2, 52, .inl (fun _ => 0)))] := hD
  refine lv_astore_n (lv' := [(2, .ref a_2), (0, .ref h0), (1, .ref h1)]) hx hb dX2_expandKey_4 rfl hl (by decide) rfl (fun ls hl => ?_)
  refine lv_aload_n hx hb dX2_expandKey_5 rfl (lv_at hl 2 rfl) ?_
  refine va_alen (v := nI 16) hx hb hK hP 1 0 rfl rfl rfl dX2_expandKey_6 ?_
  refine lv_bipush (v := nI 16) hx hb dX2_expandKey_7 (by decide) ?_
  refine lv_icmp_ge (tgt := 32) hx hb dX2_expandKey_9 (by decide) (fun c_9 => ?_) (fun c_9 => ?_)
  · have c_9 : 16 ≤ 16 := (nI_leI (a := 16) (b := 16) (by omega) (by omega)).mp c_9
    refine lv_iconst (v := nI 0) hx hb dX2_expandKey_32 (by decide) ?_
    refine lv_istore_n (lv' := [(3, .int (nI 0)), (2, .ref a_2), (0, .ref h0), (1, .ref h1)]) hx hb dX2_expandKey_33 rfl hl (by decide) rfl (fun ls hl => ?_)
    refine im_loop (fun n H locs ls => ∃ (i : Nat) (z : Nat → Int32), i + n = 8 ∧ (∀ j, j < i → z j = nI (ks f j)) ∧ va_P D vwCl [(h0, .inr (2, [v1, v2])), (h1, .inl (d1, 16, .inl f)), (a_2, .inl (da_2, 52, .inl z))] H ∧ va_D A [(h0, .inr (2, [v1, v2])), (h1, .inl (d1, 16, .inl f)), (a_2, .inl (da_2, 52, .inl z))] ∧ va_S A s.heap H locs ∧ lv_has ls 4 [(0, .ref h0), (1, .ref h1), (2, .ref a_2), (3, .int (nI i))]) ?_ ?_ (8) _ _ _ ⟨0, (fun _ => 0), rfl, (fun j h => absurd h (Nat.not_lt_zero j)), hP.sub [0, 1, 2] rfl, hD.sub [0, 1, 2] (by decide) rfl, hS, lv_sub hl [2, 3, 1, 0] rfl⟩
    · intro H locs ls hI
      obtain ⟨i, z, hin, hz, hP, hD, hS, hl⟩ := hI
      refine lv_iload_n hx hb dX2_expandKey_34 rfl (lv_at hl 3 rfl) ?_
      refine lv_bipush (v := nI 8) hx hb dX2_expandKey_35 (by decide) ?_
      refine lv_icmp_ge (tgt := 57) hx hb dX2_expandKey_37 (by decide) (fun c_37 => ?_) (fun c_37 => ?_)
      · have c_37 : 8 ≤ i := (nI_leI (a := 8) (b := i) (by omega) (by omega)).mp c_37
        have hi8 : i = 8 := by omega
        subst hi8
        refine lv_bipush (v := nI 8) hx hb dX2_expandKey_57 (by decide) ?_
        refine lv_istore_n (lv' := [(3, .int (nI 8)), (0, .ref h0), (1, .ref h1), (2, .ref a_2)]) hx hb dX2_expandKey_59 rfl hl (by decide) rfl (fun ls hl => ?_)
        refine im_loop (fun n H locs ls => ∃ (i : Nat) (u : Nat → Int32), i + n = 52 ∧ 8 ≤ i ∧ (∀ j, j < i → u j = nI (ks f j)) ∧ va_P D vwCl [(h0, .inr (2, [v1, v2])), (h1, .inl (d1, 16, .inl f)), (a_2, .inl (da_2, 52, .inl u))] H ∧ va_D A [(h0, .inr (2, [v1, v2])), (h1, .inl (d1, 16, .inl f)), (a_2, .inl (da_2, 52, .inl u))] ∧ va_S A s.heap H locs ∧ lv_has ls 4 [(0, .ref h0), (1, .ref h1), (2, .ref a_2), (3, .int (nI i))]) ?_ ?_ (44) _ _ _ ⟨8, z, rfl, Nat.le_refl 8, hz, hP.sub [0, 1, 2] rfl, hD.sub [0, 1, 2] (by decide) rfl, hS, lv_sub hl [1, 2, 3, 0] rfl⟩
        · intro H locs ls hI
          obtain ⟨i, u, hin, h8, hu, hP, hD, hS, hl⟩ := hI
          refine lv_iload_n hx hb dX2_expandKey_60 rfl (lv_at hl 3 rfl) ?_
          refine lv_bipush (v := nI 52) hx hb dX2_expandKey_61 (by decide) ?_
          refine lv_icmp_ge (tgt := 180) hx hb dX2_expandKey_63 (by decide) (fun c_63 => ?_) (fun c_63 => ?_)
          · have c_63 : 52 ≤ i := (nI_leI (a := 52) (b := i) (by omega) (by omega)).mp c_63
            have hi5 : i = 52 := by omega
            subst hi5
            refine lv_aload_n hx hb dX2_expandKey_180 rfl (lv_at hl 2 rfl) ?_
            have hP9 := hP.sub (ws' := [(h0, .inr (2, [v1, v2])), (h1, .inl (d1, 16, .inl f)), (a_2, .inl (da_2, 52, .inl u))]) [0, 1, 2] rfl
            have hD9 := hD.sub (ws' := [(h0, .inr (2, [v1, v2])), (h1, .inl (d1, 16, .inl f)), (a_2, .inl (da_2, 52, .inl u))]) [0, 1, 2] (by decide) rfl
            have hK9 := hK.sub (tys' := [(da_2, .int)]) [1] rfl
            refine W.widen (k := 1) (n := 52) (Nat.le_of_ble_eq_true rfl) (Nat.le_of_ble_eq_true rfl) ?_
            exact W.aret (v := .ref a_2) hx hb hr (Or.inr ⟨_, rfl⟩) (Or.inr ⟨_, rfl⟩) (fun t ht hW => ⟨⟨u, a_2, rfl, hu, _, by rw [ht]; exact hP9, va_K.moved hW.alike hK9, hD9⟩, hS.F ht⟩) hS.2.2 dX2_expandKey_181
          · have c_63 : ¬ (52 ≤ i) := fun z => c_63 ((nI_leI (a := 52) (b := i) (by omega) (by omega)).mpr z)
            exfalso
            omega
        · intro n ih H locs ls hI
          obtain ⟨i, u, hin, h8, hu, hP, hD, hS, hl⟩ := hI
          refine lv_iload_n hx hb dX2_expandKey_60 rfl (lv_at hl 3 rfl) ?_
          refine lv_bipush (v := nI 52) hx hb dX2_expandKey_61 (by decide) ?_
          refine lv_icmp_ge (tgt := 180) hx hb dX2_expandKey_63 (by decide) (fun c_63 => ?_) (fun c_63 => ?_)
          · have c_63 : 52 ≤ i := (nI_leI (a := 52) (b := i) (by omega) (by omega)).mp c_63
            exfalso
            omega
          · have c_63 : ¬ (52 ≤ i) := fun z => c_63 ((nI_leI (a := 52) (b := i) (by omega) (by omega)).mpr z)
            refine lv_iload_n hx hb dX2_expandKey_66 rfl (lv_at hl 3 rfl) ?_
            refine lv_bipush (v := nI 7) hx hb dX2_expandKey_67 (by decide) ?_
            refine lv_iand hx hb dX2_expandKey_69 ?_
            refine im_top (y := nI (i % 8)) (pk_andN (n := i) (by omega) (m := nI 7) 3 (by decide)) ?_
            refine lv_bipush (v := nI 6) hx hb dX2_expandKey_70 (by decide) ?_
            refine lv_icmp_ge (tgt := 106) hx hb dX2_expandKey_72 (by decide) (fun c_72 => ?_) (fun c_72 => ?_)
            · have c_72 : 6 ≤ (i % 8) := (nI_leI (a := 6) (b := i % 8) (by omega) (by omega)).mp c_72
              refine lv_iload_n hx hb dX2_expandKey_106 rfl (lv_at hl 3 rfl) ?_
              refine lv_bipush (v := nI 7) hx hb dX2_expandKey_107 (by decide) ?_
              refine lv_iand hx hb dX2_expandKey_109 ?_
              refine im_top (y := nI (i % 8)) (pk_andN (n := i) (by omega) (m := nI 7) 3 (by decide)) ?_
              refine lv_bipush (v := nI 6) hx hb dX2_expandKey_110 (by decide) ?_
              refine lv_icmp_ne (tgt := 146) hx hb dX2_expandKey_112 (by decide) (fun c_112 => ?_) (fun c_112 => ?_)
              · have c_112 : ¬ ((i % 8) = 6) := fun z => c_112 ((nI_eq (a := i % 8) (b := 6) (by omega) (by omega)).mpr z)
                refine lv_aload_n hx hb dX2_expandKey_146 rfl (lv_at hl 2 rfl) ?_
                refine lv_iload_n hx hb dX2_expandKey_147 rfl (lv_at hl 3 rfl) ?_
                refine lv_aload_n hx hb dX2_expandKey_148 rfl (lv_at hl 2 rfl) ?_
                refine lv_iload_n hx hb dX2_expandKey_149 rfl (lv_at hl 3 rfl) ?_
                refine lv_bipush (v := nI 15) hx hb dX2_expandKey_150 (by decide) ?_
                refine lv_isub hx hb dX2_expandKey_152 ?_
                refine im_top (y := nI (i - 15)) (pk_sub (a := i) (b := 15) (by omega)) ?_
                refine im_iald hx hb hK hP 2 1 rfl rfl (i := i - 15) (by omega) (by omega) (v := nI (ks f (i - 15))) (hu _ (by omega)) dX2_expandKey_153 ?_
                refine lv_bipush (v := nI 127) hx hb dX2_expandKey_154 (by decide) ?_
                refine lv_iand hx hb dX2_expandKey_156 ?_
                refine lv_bipush (v := nI 9) hx hb dX2_expandKey_157 (by decide) ?_
                refine lv_ishl hx hb dX2_expandKey_159 ?_
                refine lv_aload_n hx hb dX2_expandKey_160 rfl (lv_at hl 2 rfl) ?_
                refine lv_iload_n hx hb dX2_expandKey_161 rfl (lv_at hl 3 rfl) ?_
                refine lv_bipush (v := nI 14) hx hb dX2_expandKey_162 (by decide) ?_
                refine lv_isub hx hb dX2_expandKey_164 ?_
                refine im_top (y := nI (i - 14)) (pk_sub (a := i) (b := 14) (by omega)) ?_
                refine im_iald hx hb hK hP 2 1 rfl rfl (i := i - 14) (by omega) (by omega) (v := nI (ks f (i - 14))) (hu _ (by omega)) dX2_expandKey_165 ?_
                refine lv_bipush (v := nI 7) hx hb dX2_expandKey_166 (by decide) ?_
                refine lv_ishr hx hb dX2_expandKey_168 ?_
                refine lv_ior hx hb dX2_expandKey_169 ?_
                refine lv_ldc hx hb hown (hts _ q128) dX2_expandKey_170 ?_
                refine lv_iand hx hb dX2_expandKey_172 ?_
                refine im_top (y := nI (ks f i)) (by rw [im_join (ks_lt f (i - 15)) (ks_lt f (i - 14)), ← ks_r7 f (by omega) (by omega)]) ?_
                refine im_iast hx hb hK hP hD hS 2 1 rfl rfl (i := i) (by omega) (by omega) dX2_expandKey_173 (fun g_173 H locs eg_173 hP hD hS => ?_)
                have hP : va_P D vwCl [(h0, .inr (2, [v1, v2])), (h1, .inl (d1, 16, .inl f)), (a_2, .inl (da_2, 52, .inl g_173))] H := hP
                have hD : va_D A [(h0, .inr (2, [v1, v2])), (h1, .inl (d1, 16, .inl f)), (a_2, .inl (da_2, 52, .inl g_173))] := hD
                refine lv_iinc (v := nI (i + 1)) (lv' := [(3, .int (nI (i + 1))), (0, .ref h0), (1, .ref h1), (2, .ref a_2)]) hx hb dX2_expandKey_174 hl (k := 3) rfl (nI_1 i) (by decide) rfl (fun ls hl => ?_)
                refine lv_goto (tgt := 60) hx hb dX2_expandKey_177 (by decide) ?_
                exact ih _ _ _ ⟨i + 1, g_173, by omega, by omega, im_ext (F := fun j => nI (ks f j)) hu eg_173 rfl, hP.sub [0, 1, 2] rfl, hD.sub [0, 1, 2] (by decide) rfl, hS, lv_sub hl [1, 2, 3, 0] rfl⟩
              · have c_112 : (i % 8) = 6 := (nI_eq (a := i % 8) (b := 6) (by omega) (by omega)).mp c_112
                refine lv_aload_n hx hb dX2_expandKey_115 rfl (lv_at hl 2 rfl) ?_
                refine lv_iload_n hx hb dX2_expandKey_116 rfl (lv_at hl 3 rfl) ?_
                refine lv_aload_n hx hb dX2_expandKey_117 rfl (lv_at hl 2 rfl) ?_
                refine lv_iload_n hx hb dX2_expandKey_118 rfl (lv_at hl 3 rfl) ?_
                refine lv_bipush (v := nI 7) hx hb dX2_expandKey_119 (by decide) ?_
                refine lv_isub hx hb dX2_expandKey_121 ?_
                refine im_top (y := nI (i - 7)) (pk_sub (a := i) (b := 7) (by omega)) ?_
                refine im_iald hx hb hK hP 2 1 rfl rfl (i := i - 7) (by omega) (by omega) (v := nI (ks f (i - 7))) (hu _ (by omega)) dX2_expandKey_122 ?_
                refine lv_bipush (v := nI 127) hx hb dX2_expandKey_123 (by decide) ?_
                refine lv_iand hx hb dX2_expandKey_125 ?_
                refine lv_bipush (v := nI 9) hx hb dX2_expandKey_126 (by decide) ?_
                refine lv_ishl hx hb dX2_expandKey_128 ?_
                refine lv_aload_n hx hb dX2_expandKey_129 rfl (lv_at hl 2 rfl) ?_
                refine lv_iload_n hx hb dX2_expandKey_130 rfl (lv_at hl 3 rfl) ?_
                refine lv_bipush (v := nI 14) hx hb dX2_expandKey_131 (by decide) ?_
                refine lv_isub hx hb dX2_expandKey_133 ?_
                refine im_top (y := nI (i - 14)) (pk_sub (a := i) (b := 14) (by omega)) ?_
                refine im_iald hx hb hK hP 2 1 rfl rfl (i := i - 14) (by omega) (by omega) (v := nI (ks f (i - 14))) (hu _ (by omega)) dX2_expandKey_134 ?_
                refine lv_bipush (v := nI 7) hx hb dX2_expandKey_135 (by decide) ?_
                refine lv_ishr hx hb dX2_expandKey_137 ?_
                refine lv_ior hx hb dX2_expandKey_138 ?_
                refine lv_ldc hx hb hown (hts _ q128) dX2_expandKey_139 ?_
                refine lv_iand hx hb dX2_expandKey_141 ?_
                refine im_top (y := nI (ks f i)) (by rw [im_join (ks_lt f (i - 7)) (ks_lt f (i - 14)), ← ks_r6 f (by omega) (by omega)]) ?_
                refine im_iast hx hb hK hP hD hS 2 1 rfl rfl (i := i) (by omega) (by omega) dX2_expandKey_142 (fun g_142 H locs eg_142 hP hD hS => ?_)
                have hP : va_P D vwCl [(h0, .inr (2, [v1, v2])), (h1, .inl (d1, 16, .inl f)), (a_2, .inl (da_2, 52, .inl g_142))] H := hP
                have hD : va_D A [(h0, .inr (2, [v1, v2])), (h1, .inl (d1, 16, .inl f)), (a_2, .inl (da_2, 52, .inl g_142))] := hD
                refine lv_goto (tgt := 174) hx hb dX2_expandKey_143 (by decide) ?_
                refine lv_iinc (v := nI (i + 1)) (lv' := [(3, .int (nI (i + 1))), (0, .ref h0), (1, .ref h1), (2, .ref a_2)]) hx hb dX2_expandKey_174 hl (k := 3) rfl (nI_1 i) (by decide) rfl (fun ls hl => ?_)
                refine lv_goto (tgt := 60) hx hb dX2_expandKey_177 (by decide) ?_
                exact ih _ _ _ ⟨i + 1, g_142, by omega, by omega, im_ext (F := fun j => nI (ks f j)) hu eg_142 rfl, hP.sub [0, 1, 2] rfl, hD.sub [0, 1, 2] (by decide) rfl, hS, lv_sub hl [1, 2, 3, 0] rfl⟩
            · have c_72 : ¬ (6 ≤ (i % 8)) := fun z => c_72 ((nI_leI (a := 6) (b := i % 8) (by omega) (by omega)).mpr z)
              refine lv_aload_n hx hb dX2_expandKey_75 rfl (lv_at hl 2 rfl) ?_
              refine lv_iload_n hx hb dX2_expandKey_76 rfl (lv_at hl 3 rfl) ?_
              refine lv_aload_n hx hb dX2_expandKey_77 rfl (lv_at hl 2 rfl) ?_
              refine lv_iload_n hx hb dX2_expandKey_78 rfl (lv_at hl 3 rfl) ?_
              refine lv_bipush (v := nI 7) hx hb dX2_expandKey_79 (by decide) ?_
              refine lv_isub hx hb dX2_expandKey_81 ?_
              refine im_top (y := nI (i - 7)) (pk_sub (a := i) (b := 7) (by omega)) ?_
              refine im_iald hx hb hK hP 2 1 rfl rfl (i := i - 7) (by omega) (by omega) (v := nI (ks f (i - 7))) (hu _ (by omega)) dX2_expandKey_82 ?_
              refine lv_bipush (v := nI 127) hx hb dX2_expandKey_83 (by decide) ?_
              refine lv_iand hx hb dX2_expandKey_85 ?_
              refine lv_bipush (v := nI 9) hx hb dX2_expandKey_86 (by decide) ?_
              refine lv_ishl hx hb dX2_expandKey_88 ?_
              refine lv_aload_n hx hb dX2_expandKey_89 rfl (lv_at hl 2 rfl) ?_
              refine lv_iload_n hx hb dX2_expandKey_90 rfl (lv_at hl 3 rfl) ?_
              refine lv_bipush (v := nI 6) hx hb dX2_expandKey_91 (by decide) ?_
              refine lv_isub hx hb dX2_expandKey_93 ?_
              refine im_top (y := nI (i - 6)) (pk_sub (a := i) (b := 6) (by omega)) ?_
              refine im_iald hx hb hK hP 2 1 rfl rfl (i := i - 6) (by omega) (by omega) (v := nI (ks f (i - 6))) (hu _ (by omega)) dX2_expandKey_94 ?_
              refine lv_bipush (v := nI 7) hx hb dX2_expandKey_95 (by decide) ?_
              refine lv_ishr hx hb dX2_expandKey_97 ?_
              refine lv_ior hx hb dX2_expandKey_98 ?_
              refine lv_ldc hx hb hown (hts _ q128) dX2_expandKey_99 ?_
              refine lv_iand hx hb dX2_expandKey_101 ?_
              refine im_top (y := nI (ks f i)) (by rw [im_join (ks_lt f (i - 7)) (ks_lt f (i - 6)), ← ks_r5 f (by omega) (by omega)]) ?_
              refine im_iast hx hb hK hP hD hS 2 1 rfl rfl (i := i) (by omega) (by omega) dX2_expandKey_102 (fun g_102 H locs eg_102 hP hD hS => ?_)
              have hP : va_P D vwCl [(h0, .inr (2, [v1, v2])), (h1, .inl (d1, 16, .inl f)), (a_2, .inl (da_2, 52, .inl g_102))] H := hP
              have hD : va_D A [(h0, .inr (2, [v1, v2])), (h1, .inl (d1, 16, .inl f)), (a_2, .inl (da_2, 52, .inl g_102))] := hD
              refine lv_goto (tgt := 174) hx hb dX2_expandKey_103 (by decide) ?_
              refine lv_iinc (v := nI (i + 1)) (lv' := [(3, .int (nI (i + 1))), (0, .ref h0), (1, .ref h1), (2, .ref a_2)]) hx hb dX2_expandKey_174 hl (k := 3) rfl (nI_1 i) (by decide) rfl (fun ls hl => ?_)
              refine lv_goto (tgt := 60) hx hb dX2_expandKey_177 (by decide) ?_
              exact ih _ _ _ ⟨i + 1, g_102, by omega, by omega, im_ext (F := fun j => nI (ks f j)) hu eg_102 rfl, hP.sub [0, 1, 2] rfl, hD.sub [0, 1, 2] (by decide) rfl, hS, lv_sub hl [1, 2, 3, 0] rfl⟩
      · have c_37 : ¬ (8 ≤ i) := fun z => c_37 ((nI_leI (a := 8) (b := i) (by omega) (by omega)).mpr z)
        exfalso
        omega
    · intro n ih H locs ls hI
      obtain ⟨i, z, hin, hz, hP, hD, hS, hl⟩ := hI
      refine lv_iload_n hx hb dX2_expandKey_34 rfl (lv_at hl 3 rfl) ?_
      refine lv_bipush (v := nI 8) hx hb dX2_expandKey_35 (by decide) ?_
      refine lv_icmp_ge (tgt := 57) hx hb dX2_expandKey_37 (by decide) (fun c_37 => ?_) (fun c_37 => ?_)
      · have c_37 : 8 ≤ i := (nI_leI (a := 8) (b := i) (by omega) (by omega)).mp c_37
        exfalso
        omega
      · have c_37 : ¬ (8 ≤ i) := fun z => c_37 ((nI_leI (a := 8) (b := i) (by omega) (by omega)).mpr z)
        refine lv_aload_n hx hb dX2_expandKey_40 rfl (lv_at hl 2 rfl) ?_
        refine lv_iload_n hx hb dX2_expandKey_41 rfl (lv_at hl 3 rfl) ?_
        refine lv_aload_n hx hb dX2_expandKey_42 rfl (lv_at hl 0 rfl) ?_
        refine lv_aload_n hx hb dX2_expandKey_43 rfl (lv_at hl 1 rfl) ?_
        refine lv_iload_n hx hb dX2_expandKey_44 rfl (lv_at hl 3 rfl) ?_
        refine lv_iconst (v := nI 2) hx hb dX2_expandKey_45 (by decide) ?_
        refine lv_imul hx hb dX2_expandKey_46 ?_
        refine im_top (y := nI (i * 2)) (pk_mul i 2) ?_
        have hPc := hP.sub (ws' := [(h1, .inl (d1, 16, .inl f))]) [1] rfl
        have hKc := hK.sub (tys' := [(d1, .byte)]) [0] rfl
        refine vp_callSi (W.runV (As := [.ref h1, .int (nI (i * 2))]) (rest := [.int (nI i), .ref a_2]) ⟨hx, hb, hml, hown, hts⟩ (met_b2w l D h0 h1 d1 16 f (i * 2) (by omega) (by omega)) (cwV 2 hts (lw_V q123 q125 qs3 q15 q126) rfl rfl rfl (by decide +kernel) ⟨Nat.le_of_ble_eq_true rfl, Nat.le_of_ble_eq_true rfl⟩) ⟨im_Pr.blind, va_recv hK hP (ci := 2) (q0 := 0) rfl rfl, im_Pr.of hPc hKc⟩ rfl rfl hl.1 rfl (lv_room (Nat.le_of_ble_eq_true rfl)) dX2_expandKey_47 ⟨Nat.le_of_ble_eq_true rfl, Nat.le_of_ble_eq_true rfl⟩) (fun r_47 hr_47 => ?_)
        have hr_47 : r_47 = nI (wd f (i * 2)) := hr_47
        subst hr_47
        refine im_iast hx hb hK hP hD hS 2 1 rfl rfl (i := i) (by omega) (by omega) dX2_expandKey_50 (fun g_50 H locs eg_50 hP hD hS => ?_)
        have hP : va_P D vwCl [(h0, .inr (2, [v1, v2])), (h1, .inl (d1, 16, .inl f)), (a_2, .inl (da_2, 52, .inl g_50))] H := hP
        have hD : va_D A [(h0, .inr (2, [v1, v2])), (h1, .inl (d1, 16, .inl f)), (a_2, .inl (da_2, 52, .inl g_50))] := hD
        refine lv_iinc (v := nI (i + 1)) (lv' := [(3, .int (nI (i + 1))), (0, .ref h0), (1, .ref h1), (2, .ref a_2)]) hx hb dX2_expandKey_51 hl (k := 3) rfl (nI_1 i) (by decide) rfl (fun ls hl => ?_)
        refine lv_goto (tgt := 34) hx hb dX2_expandKey_54 (by decide) ?_
        exact ih _ _ _ ⟨i + 1, g_50, by omega, im_ext (F := fun j => nI (ks f j)) hz eg_50 (congrArg nI (by rw [ks_8 f (by omega), Nat.mul_comm])), hP.sub [0, 1, 2] rfl, hD.sub [0, 1, 2] (by decide) rfl, hS, lv_sub hl [1, 2, 3, 0] rfl⟩
  · have c_9 : ¬ (16 ≤ 16) := fun z => c_9 ((nI_leI (a := 16) (b := 16) (by omega) (by omega)).mpr z)
    exfalso
    omega
end
section
/-! THE CIPHER: the keys that undo (engine), the rounds on both sides -/
theorem im_m1 {p p2 : Nat} (h : p = p2 + 1) : nI p + Int32.ofInt (-1) = nI p2 := by
  rw [show Int32.ofInt (-1) = (-1 : Int32) from by decide, h]
  exact pk_m1 p2
set_option maxHeartbeats 8000000 in
set_option maxRecDepth 100000 in
/-- IDEAEngine.invertKey -/
theorem met_invert (l : Launch) (D : va_G) (sz : Nat) (h0 h1 : Nat) (v1 v2 : Value) (d1 : ClassId) (f : Nat → Int32) (K : Nat → Nat) (hf : ∀ i, i < 52 → f i = nI (K i)) (hKl : ∀ i, K i < 65536) : Met l yX2_invertKey (ws_ yX2_invertKey cX2_invertKey 10 (some (.array .int))) ({ frames := 1, cells := 1, slots := 52, locals := 25 }) (va_Pc [.ref h0, .ref h1] (im_Pw D vwCl [(h0, .inr (2, [v1, v2])), (h1, .inl (d1, 52, .inl f))] [(d1, .int)] sz)) (va_Qr (fun (u : Nat → Int32) => ∀ i, i < 52 → u i = nI (undo K i)) (im_Br D vwCl (va_A [(h0, .inr (2, [v1, v2])), (h1, .inl (d1, 52, .inl f))] sz) (fun (u : Nat → Int32) (ra : Nat) (cA : ClassId) => [(h0, .inr (2, [v1, v2])), (h1, .inl (d1, 52, .inl f)), (ra, .inl (cA, 52, .inl u))]) .int) (va_A [(h0, .inr (2, [v1, v2])), (h1, .inl (d1, 52, .inl f))] sz)) 1 52 (va_A [(h0, .inr (2, [v1, v2])), (h1, .inl (d1, 52, .inl f))] sz) := by
  refine Met.ofW (cc := cX2_invertKey) (maxL := 10) (ret := (some (.array .int))) (by decide) rfl ?_
  intro p e s m args below meth c s₁ B hml hv
  obtain ⟨rfl, hsz, hP, hK, hD0⟩ := hv
  have hx := B.exec
  have hb := B.bytes
  have hr := B.returns
  have hts := atoms_spec (ws := (ws_ yX2_invertKey cX2_invertKey 10 (some (.array .int)))) B.pre
  have hts : ∀ w ∈ lw_all, w.before _ s = true := fun w h => hts w (List.mem_cons_of_mem _ h)
  have hown : s.vm.findClass RX2 = some m.cls := findClass_of_methodNamed B.named
  have hlocks := B.notSynchronized
  subst hsz
  have hD := hD0.self (sz := s.heap.size)
  generalize hAe : va_A [(h0, .inr (2, [v1, v2])), (h1, .inl (d1, 52, .inl f))] s.heap.size = A at hD ⊢
  have hA : ∀ q : Nat, s.heap.size ≤ q → A q := fun q h => by rw [← hAe]; exact Or.inr h
  have hS : va_S A s.heap s.heap [] := va_S.rf
  have hP : va_P D vwCl [(h0, .inr (2, [v1, v2])), (h1, .inl (d1, 52, .inl f))] s.heap := hP
  have hl := lv_entry ([.ref h0, .ref h1]) (n := 10) (Nat.le_of_ble_eq_true rfl)
  rw [lg_entry_eq]
  generalize (lg_sl ([.ref h0, .ref h1]) ++ List.replicate (10 - (lg_sl ([.ref h0, .ref h1])).length) Slot.unset).toArray = ls at hl ⊢
  have hl : lv_has ls 10 [(0, .ref h0), (1, .ref h1)] := hl
  refine lv_bipush (v := nI 52) hx hb dX2_invertKey_0 (by decide) ?_
  refine lv_istore (lv' := [(6, .int (nI 52)), (0, .ref h0), (1, .ref h1)]) hx hb dX2_invertKey_2 hl (by decide) rfl (fun ls hl => ?_)
  refine lv_bipush (v := nI 52) hx hb dX2_invertKey_4 (by decide) ?_
  refine va_newa (atype := .int) (ty := .int) (N' := 52) (a0 := (52, .inl (fun _ => 0))) hx hb (hts _ q210) rfl hK hP hD hS hA (fun _ => rfl) (nI_pos (n := 52) (by omega)) (nI_clamp (n := 52) (by omega)) (Nat.le_of_ble_eq_true rfl) (Nat.le_of_ble_eq_true rfl) (Nat.le_of_ble_eq_true rfl) dX2_invertKey_6 (fun a_6 da_6 H hK hP hD hS => ?_)
  have hK : va_K D vwCl [(d1, .int), (da_6, .int)] s := hK
  have hP : va_P D vwCl [(h0, .inr (2, [v1, v2])), (h1, .inl (d1, 52, .inl f)), (a_6, .inl (da_6, 52, .inl (fun _ => 0)))] H := hP
  have hD : va_D A [(h0, .inr (2, [v1, v2])), (h1, .inl (d1, 52, .inl f)), (a_6, .inl (da_6, 52, .inl (fun _ => 0)))] := hD
  refine lv_astore (lv' := [(7, .ref a_6), (6, .int (nI 52)), (0, .ref h0), (1, .ref h1)]) hx hb dX2_invertKey_8 hl (by decide) rfl (fun ls hl => ?_)
  refine lv_iconst (v := nI 0) hx hb dX2_invertKey_10 (by decide) ?_
  refine lv_istore (lv' := [(8, .int (nI 0)), (7, .ref a_6), (6, .int (nI 52)), (0, .ref h0), (1, .ref h1)]) hx hb dX2_invertKey_11 hl (by decide) rfl (fun ls hl => ?_)
  refine lv_aload_n hx hb dX2_invertKey_13 rfl (lv_at hl 3 rfl) ?_
  refine lv_aload_n hx hb dX2_invertKey_14 rfl (lv_at hl 4 rfl) ?_
  refine lv_iload hx hb dX2_invertKey_15 (lv_at hl 0 rfl) ?_
  refine lv_iinc (v := nI 1) (lv' := [(8, .int (nI 1)), (7, .ref a_6), (6, .int (nI 52)), (0, .ref h0), (1, .ref h1)]) hx hb dX2_invertKey_17 hl (k := 0) rfl (by decide) (by decide) rfl (fun ls hl => ?_)
  refine im_iald hx hb hK hP 1 0 rfl rfl (i := 0) (by omega) (by omega) (v := nI (K 0)) (hf _ (by omega)) dX2_invertKey_20 ?_
  refine vp_callSi (W.runV (As := [.int (nI (K 0))]) (rest := []) ⟨hx, hb, hml, hown, hts⟩ (met_mulInv l h0 (hKl _)) (cwV 1 hts (lw_V q133 q135 qs5 q15 q136) rfl rfl rfl (by decide +kernel) ⟨Nat.le_of_ble_eq_true rfl, Nat.le_of_ble_eq_true rfl⟩) ⟨im_P0.blind, va_recv hK hP (ci := 2) (q0 := 0) rfl rfl, im_P0.of⟩ rfl rfl hl.1 rfl (lv_room (Nat.le_of_ble_eq_true rfl)) dX2_invertKey_21 ⟨Nat.le_of_ble_eq_true rfl, Nat.le_of_ble_eq_true rfl⟩) (fun r_21 hr_21 => ?_)
  have hr_21 : r_21 = nI (invS (K 0)) := hr_21
  subst hr_21
  refine lv_istore_n (lv' := [(2, .int (nI (invS (K 0)))), (8, .int (nI 1)), (7, .ref a_6), (6, .int (nI 52)), (0, .ref h0), (1, .ref h1)]) hx hb dX2_invertKey_24 rfl hl (by decide) rfl (fun ls hl => ?_)
  refine lv_aload_n hx hb dX2_invertKey_25 rfl (lv_at hl 4 rfl) ?_
  refine lv_aload_n hx hb dX2_invertKey_26 rfl (lv_at hl 5 rfl) ?_
  refine lv_iload hx hb dX2_invertKey_27 (lv_at hl 1 rfl) ?_
  refine lv_iinc (v := nI 2) (lv' := [(8, .int (nI 2)), (2, .int (nI (invS (K 0)))), (7, .ref a_6), (6, .int (nI 52)), (0, .ref h0), (1, .ref h1)]) hx hb dX2_invertKey_29 hl (k := 1) rfl (by decide) (by decide) rfl (fun ls hl => ?_)
  refine im_iald hx hb hK hP 1 0 rfl rfl (i := 1) (by omega) (by omega) (v := nI (K 1)) (hf _ (by omega)) dX2_invertKey_32 ?_
  refine vp_callSi (W.runV (As := [.int (nI (K 1))]) (rest := []) ⟨hx, hb, hml, hown, hts⟩ (met_addInv l h0 (hKl _)) (cwV 1 hts (lw_V q138 q139 q140 q15 q141) rfl rfl rfl (by decide +kernel) ⟨Nat.le_of_ble_eq_true rfl, Nat.le_of_ble_eq_true rfl⟩) ⟨im_P0.blind, va_recv hK hP (ci := 2) (q0 := 0) rfl rfl, im_P0.of⟩ rfl rfl hl.1 rfl (lv_room (Nat.le_of_ble_eq_true rfl)) dX2_invertKey_33 ⟨Nat.le_of_ble_eq_true rfl, Nat.le_of_ble_eq_true rfl⟩) (fun r_33 hr_33 => ?_)
  have hr_33 : r_33 = nI (negS (K 1)) := hr_33
  subst hr_33
  refine lv_istore_n (lv' := [(3, .int (nI (negS (K 1)))), (8, .int (nI 2)), (2, .int (nI (invS (K 0)))), (7, .ref a_6), (6, .int (nI 52)), (0, .ref h0), (1, .ref h1)]) hx hb dX2_invertKey_36 rfl hl (by decide) rfl (fun ls hl => ?_)
  refine lv_aload_n hx hb dX2_invertKey_37 rfl (lv_at hl 5 rfl) ?_
  refine lv_aload_n hx hb dX2_invertKey_38 rfl (lv_at hl 6 rfl) ?_
  refine lv_iload hx hb dX2_invertKey_39 (lv_at hl 1 rfl) ?_
  refine lv_iinc (v := nI 3) (lv' := [(8, .int (nI 3)), (3, .int (nI (negS (K 1)))), (2, .int (nI (invS (K 0)))), (7, .ref a_6), (6, .int (nI 52)), (0, .ref h0), (1, .ref h1)]) hx hb dX2_invertKey_41 hl (k := 1) rfl (by decide) (by decide) rfl (fun ls hl => ?_)
  refine im_iald hx hb hK hP 1 0 rfl rfl (i := 2) (by omega) (by omega) (v := nI (K 2)) (hf _ (by omega)) dX2_invertKey_44 ?_
  refine vp_callSi (W.runV (As := [.int (nI (K 2))]) (rest := []) ⟨hx, hb, hml, hown, hts⟩ (met_addInv l h0 (hKl _)) (cwV 1 hts (lw_V q138 q139 q140 q15 q141) rfl rfl rfl (by decide +kernel) ⟨Nat.le_of_ble_eq_true rfl, Nat.le_of_ble_eq_true rfl⟩) ⟨im_P0.blind, va_recv hK hP (ci := 2) (q0 := 0) rfl rfl, im_P0.of⟩ rfl rfl hl.1 rfl (lv_room (Nat.le_of_ble_eq_true rfl)) dX2_invertKey_45 ⟨Nat.le_of_ble_eq_true rfl, Nat.le_of_ble_eq_true rfl⟩) (fun r_45 hr_45 => ?_)
  have hr_45 : r_45 = nI (negS (K 2)) := hr_45
  subst hr_45
  refine lv_istore (lv' := [(4, .int (nI (negS (K 2)))), (8, .int (nI 3)), (3, .int (nI (negS (K 1)))), (2, .int (nI (invS (K 0)))), (7, .ref a_6), (6, .int (nI 52)), (0, .ref h0), (1, .ref h1)]) hx hb dX2_invertKey_48 hl (by decide) rfl (fun ls hl => ?_)
  refine lv_aload_n hx hb dX2_invertKey_50 rfl (lv_at hl 6 rfl) ?_
  refine lv_aload_n hx hb dX2_invertKey_51 rfl (lv_at hl 7 rfl) ?_
  refine lv_iload hx hb dX2_invertKey_52 (lv_at hl 1 rfl) ?_
  refine lv_iinc (v := nI 4) (lv' := [(8, .int (nI 4)), (4, .int (nI (negS (K 2)))), (3, .int (nI (negS (K 1)))), (2, .int (nI (invS (K 0)))), (7, .ref a_6), (6, .int (nI 52)), (0, .ref h0), (1, .ref h1)]) hx hb dX2_invertKey_54 hl (k := 1) rfl (by decide) (by decide) rfl (fun ls hl => ?_)
  refine im_iald hx hb hK hP 1 0 rfl rfl (i := 3) (by omega) (by omega) (v := nI (K 3)) (hf _ (by omega)) dX2_invertKey_57 ?_
  refine vp_callSi (W.runV (As := [.int (nI (K 3))]) (rest := []) ⟨hx, hb, hml, hown, hts⟩ (met_mulInv l h0 (hKl _)) (cwV 1 hts (lw_V q133 q135 qs5 q15 q136) rfl rfl rfl (by decide +kernel) ⟨Nat.le_of_ble_eq_true rfl, Nat.le_of_ble_eq_true rfl⟩) ⟨im_P0.blind, va_recv hK hP (ci := 2) (q0 := 0) rfl rfl, im_P0.of⟩ rfl rfl hl.1 rfl (lv_room (Nat.le_of_ble_eq_true rfl)) dX2_invertKey_58 ⟨Nat.le_of_ble_eq_true rfl, Nat.le_of_ble_eq_true rfl⟩) (fun r_58 hr_58 => ?_)
  have hr_58 : r_58 = nI (invS (K 3)) := hr_58
  subst hr_58
  refine lv_istore (lv' := [(5, .int (nI (invS (K 3)))), (8, .int (nI 4)), (4, .int (nI (negS (K 2)))), (3, .int (nI (negS (K 1)))), (2, .int (nI (invS (K 0)))), (7, .ref a_6), (6, .int (nI 52)), (0, .ref h0), (1, .ref h1)]) hx hb dX2_invertKey_61 hl (by decide) rfl (fun ls hl => ?_)
  refine lv_aload hx hb dX2_invertKey_63 (lv_at hl 5 rfl) ?_
  refine lv_iinc (v := nI 51) (lv' := [(6, .int (nI 51)), (5, .int (nI (invS (K 3)))), (8, .int (nI 4)), (4, .int (nI (negS (K 2)))), (3, .int (nI (negS (K 1)))), (2, .int (nI (invS (K 0)))), (7, .ref a_6), (0, .ref h0), (1, .ref h1)]) hx hb dX2_invertKey_65 hl (k := 6) rfl (by decide) (by decide) rfl (fun ls hl => ?_)
  refine lv_iload hx hb dX2_invertKey_68 (lv_at hl 0 rfl) ?_
  refine lv_iload hx hb dX2_invertKey_70 (lv_at hl 1 rfl) ?_
  refine im_iast hx hb hK hP hD hS 2 1 rfl rfl (i := 51) (by omega) (by omega) dX2_invertKey_72 (fun g_72 H locs eg_72 hP hD hS => ?_)
  have hP : va_P D vwCl [(h0, .inr (2, [v1, v2])), (h1, .inl (d1, 52, .inl f)), (a_6, .inl (da_6, 52, .inl g_72))] H := hP
  have hD : va_D A [(h0, .inr (2, [v1, v2])), (h1, .inl (d1, 52, .inl f)), (a_6, .inl (da_6, 52, .inl g_72))] := hD
  refine lv_aload hx hb dX2_invertKey_73 (lv_at hl 6 rfl) ?_
  refine lv_iinc (v := nI 50) (lv' := [(6, .int (nI 50)), (5, .int (nI (invS (K 3)))), (8, .int (nI 4)), (4, .int (nI (negS (K 2)))), (3, .int (nI (negS (K 1)))), (2, .int (nI (invS (K 0)))), (7, .ref a_6), (0, .ref h0), (1, .ref h1)]) hx hb dX2_invertKey_75 hl (k := 0) rfl (by decide) (by decide) rfl (fun ls hl => ?_)
  refine lv_iload hx hb dX2_invertKey_78 (lv_at hl 0 rfl) ?_
  refine lv_iload hx hb dX2_invertKey_80 (lv_at hl 3 rfl) ?_
  refine im_iast hx hb hK hP hD hS 2 1 rfl rfl (i := 50) (by omega) (by omega) dX2_invertKey_82 (fun g_82 H locs eg_82 hP hD hS => ?_)
  have hP : va_P D vwCl [(h0, .inr (2, [v1, v2])), (h1, .inl (d1, 52, .inl f)), (a_6, .inl (da_6, 52, .inl g_82))] H := hP
  have hD : va_D A [(h0, .inr (2, [v1, v2])), (h1, .inl (d1, 52, .inl f)), (a_6, .inl (da_6, 52, .inl g_82))] := hD
  refine lv_aload hx hb dX2_invertKey_83 (lv_at hl 6 rfl) ?_
  refine lv_iinc (v := nI 49) (lv' := [(6, .int (nI 49)), (5, .int (nI (invS (K 3)))), (8, .int (nI 4)), (4, .int (nI (negS (K 2)))), (3, .int (nI (negS (K 1)))), (2, .int (nI (invS (K 0)))), (7, .ref a_6), (0, .ref h0), (1, .ref h1)]) hx hb dX2_invertKey_85 hl (k := 0) rfl (by decide) (by decide) rfl (fun ls hl => ?_)
  refine lv_iload hx hb dX2_invertKey_88 (lv_at hl 0 rfl) ?_
  refine lv_iload_n hx hb dX2_invertKey_90 rfl (lv_at hl 4 rfl) ?_
  refine im_iast hx hb hK hP hD hS 2 1 rfl rfl (i := 49) (by omega) (by omega) dX2_invertKey_91 (fun g_91 H locs eg_91 hP hD hS => ?_)
  have hP : va_P D vwCl [(h0, .inr (2, [v1, v2])), (h1, .inl (d1, 52, .inl f)), (a_6, .inl (da_6, 52, .inl g_91))] H := hP
  have hD : va_D A [(h0, .inr (2, [v1, v2])), (h1, .inl (d1, 52, .inl f)), (a_6, .inl (da_6, 52, .inl g_91))] := hD
  refine lv_aload hx hb dX2_invertKey_92 (lv_at hl 6 rfl) ?_
  refine lv_iinc (v := nI 48) (lv' := [(6, .int (nI 48)), (5, .int (nI (invS (K 3)))), (8, .int (nI 4)), (4, .int (nI (negS (K 2)))), (3, .int (nI (negS (K 1)))), (2, .int (nI (invS (K 0)))), (7, .ref a_6), (0, .ref h0), (1, .ref h1)]) hx hb dX2_invertKey_94 hl (k := 0) rfl (by decide) (by decide) rfl (fun ls hl => ?_)
  refine lv_iload hx hb dX2_invertKey_97 (lv_at hl 0 rfl) ?_
  refine lv_iload_n hx hb dX2_invertKey_99 rfl (lv_at hl 5 rfl) ?_
  refine im_iast hx hb hK hP hD hS 2 1 rfl rfl (i := 48) (by omega) (by omega) dX2_invertKey_100 (fun g_100 H locs eg_100 hP hD hS => ?_)
  have hP : va_P D vwCl [(h0, .inr (2, [v1, v2])), (h1, .inl (d1, 52, .inl f)), (a_6, .inl (da_6, 52, .inl g_100))] H := hP
  have hD : va_D A [(h0, .inr (2, [v1, v2])), (h1, .inl (d1, 52, .inl f)), (a_6, .inl (da_6, 52, .inl g_100))] := hD
  refine lv_iconst (v := nI 1) hx hb dX2_invertKey_101 (by decide) ?_
  refine lv_istore (lv' := [(9, .int (nI 1)), (6, .int (nI 48)), (5, .int (nI (invS (K 3)))), (8, .int (nI 4)), (4, .int (nI (negS (K 2)))), (3, .int (nI (negS (K 1)))), (2, .int (nI (invS (K 0)))), (7, .ref a_6), (0, .ref h0), (1, .ref h1)]) hx hb dX2_invertKey_102 hl (by decide) rfl (fun ls hl => ?_)
  have k0 : ∀ j, 52 ≤ j → j < 52 → (fun _ => (0 : Int32)) j = (fun j => nI (undo K j)) j := fun j h1 h2 => absurd h2 (by omega)
  have k1 := im_down (F := fun j => nI (undo K j)) (k := 51) k0 rfl eg_72 (congrArg nI (undo_3 K 8).symm)
  have k2 := im_down (F := fun j => nI (undo K j)) (k := 50) k1 rfl eg_82 (congrArg nI (undo_2 K 8).symm)
  have k3 := im_down (F := fun j => nI (undo K j)) (k := 49) k2 rfl eg_91 (congrArg nI (undo_1 K 8).symm)
  have k4 := im_down (F := fun j => nI (undo K j)) (k := 48) k3 rfl eg_100 (congrArg nI (undo_0 K 8).symm)
  refine im_loop (fun n H locs ls => ∃ (q o r : Nat) (z : Nat → Int32), q = n + 1 ∧ o + 6 * q = 52 ∧ r + q = 9 ∧ (∀ j, 6 * q ≤ j → j < 52 → z j = nI (undo K j)) ∧ va_P D vwCl [(h0, .inr (2, [v1, v2])), (h1, .inl (d1, 52, .inl f)), (a_6, .inl (da_6, 52, .inl z))] H ∧ va_D A [(h0, .inr (2, [v1, v2])), (h1, .inl (d1, 52, .inl f)), (a_6, .inl (da_6, 52, .inl z))] ∧ va_S A s.heap H locs ∧ lv_has ls 10 [(0, .ref h0), (1, .ref h1), (6, .int (nI (6 * q))), (7, .ref a_6), (8, .int (nI o)), (9, .int (nI r))]) ?_ ?_ (7) _ _ _ ⟨8, 4, 1, g_100, rfl, rfl, rfl, k4, hP.sub [0, 1, 2] rfl, hD.sub [0, 1, 2] (by decide) rfl, hS, lv_sub hl [8, 9, 1, 7, 3, 0] rfl⟩
  · intro H locs ls hI
    obtain ⟨q, o, r, z, hq, ho, hrq, hz, hP, hD, hS, hl⟩ := hI
    refine lv_iload hx hb dX2_invertKey_104 (lv_at hl 5 rfl) ?_
    refine lv_bipush (v := nI 8) hx hb dX2_invertKey_106 (by decide) ?_
    refine lv_icmp_ge (tgt := 239) hx hb dX2_invertKey_108 (by decide) (fun c_108 => ?_) (fun c_108 => ?_)
    · have c_108 : 8 ≤ r := (nI_leI (a := 8) (b := r) (by omega) (by omega)).mp c_108
      obtain rfl : q = 1 := by omega
      obtain rfl : o = 46 := by omega
      obtain rfl : r = 8 := by omega
      have hl : lv_has ls 10 [(0, .ref h0), (1, .ref h1), (6, .int (nI 6)), (7, .ref a_6), (8, .int (nI 46)), (9, .int (nI 8))] := hl
      refine lv_aload_n hx hb dX2_invertKey_239 rfl (lv_at hl 1 rfl) ?_
      refine lv_iload hx hb dX2_invertKey_240 (lv_at hl 4 rfl) ?_
      refine lv_iinc (v := nI 47) (lv' := [(8, .int (nI 47)), (0, .ref h0), (1, .ref h1), (6, .int (nI 6)), (7, .ref a_6), (9, .int (nI 8))]) hx hb dX2_invertKey_242 hl (k := 4) rfl (by decide) (by decide) rfl (fun ls hl => ?_)
      refine im_iald hx hb hK hP 1 0 rfl rfl (i := 46) (by omega) (by omega) (v := nI (K 46)) (hf _ (by omega)) dX2_invertKey_245 ?_
      refine lv_istore_n (lv' := [(2, .int (nI (K 46))), (8, .int (nI 47)), (0, .ref h0), (1, .ref h1), (6, .int (nI 6)), (7, .ref a_6), (9, .int (nI 8))]) hx hb dX2_invertKey_246 rfl hl (by decide) rfl (fun ls hl => ?_)
      refine lv_aload_n hx hb dX2_invertKey_247 rfl (lv_at hl 3 rfl) ?_
      refine lv_iload hx hb dX2_invertKey_248 (lv_at hl 1 rfl) ?_
      refine lv_iinc (v := nI 48) (lv' := [(8, .int (nI 48)), (2, .int (nI (K 46))), (0, .ref h0), (1, .ref h1), (6, .int (nI 6)), (7, .ref a_6), (9, .int (nI 8))]) hx hb dX2_invertKey_250 hl (k := 1) rfl (by decide) (by decide) rfl (fun ls hl => ?_)
      refine im_iald hx hb hK hP 1 0 rfl rfl (i := 47) (by omega) (by omega) (v := nI (K 47)) (hf _ (by omega)) dX2_invertKey_253 ?_
      refine lv_istore_n (lv' := [(3, .int (nI (K 47))), (8, .int (nI 48)), (2, .int (nI (K 46))), (0, .ref h0), (1, .ref h1), (6, .int (nI 6)), (7, .ref a_6), (9, .int (nI 8))]) hx hb dX2_invertKey_254 rfl hl (by decide) rfl (fun ls hl => ?_)
      refine lv_aload hx hb dX2_invertKey_255 (lv_at hl 6 rfl) ?_
      refine lv_iinc (v := nI 5) (lv' := [(6, .int (nI 5)), (3, .int (nI (K 47))), (8, .int (nI 48)), (2, .int (nI (K 46))), (0, .ref h0), (1, .ref h1), (7, .ref a_6), (9, .int (nI 8))]) hx hb dX2_invertKey_257 hl (k := 5) rfl (by decide) (by decide) rfl (fun ls hl => ?_)
      refine lv_iload hx hb dX2_invertKey_260 (lv_at hl 0 rfl) ?_
      refine lv_iload_n hx hb dX2_invertKey_262 rfl (lv_at hl 1 rfl) ?_
      refine im_iast hx hb hK hP hD hS 2 1 rfl rfl (i := 5) (by omega) (by omega) dX2_invertKey_263 (fun g_263 H locs eg_263 hP hD hS => ?_)
      have hP : va_P D vwCl [(h0, .inr (2, [v1, v2])), (h1, .inl (d1, 52, .inl f)), (a_6, .inl (da_6, 52, .inl g_263))] H := hP
      have hD : va_D A [(h0, .inr (2, [v1, v2])), (h1, .inl (d1, 52, .inl f)), (a_6, .inl (da_6, 52, .inl g_263))] := hD
      refine lv_aload hx hb dX2_invertKey_264 (lv_at hl 6 rfl) ?_
      refine lv_iinc (v := nI 4) (lv' := [(6, .int (nI 4)), (3, .int (nI (K 47))), (8, .int (nI 48)), (2, .int (nI (K 46))), (0, .ref h0), (1, .ref h1), (7, .ref a_6), (9, .int (nI 8))]) hx hb dX2_invertKey_266 hl (k := 0) rfl (by decide) (by decide) rfl (fun ls hl => ?_)
      refine lv_iload hx hb dX2_invertKey_269 (lv_at hl 0 rfl) ?_
      refine lv_iload_n hx hb dX2_invertKey_271 rfl (lv_at hl 3 rfl) ?_
      refine im_iast hx hb hK hP hD hS 2 1 rfl rfl (i := 4) (by omega) (by omega) dX2_invertKey_272 (fun g_272 H locs eg_272 hP hD hS => ?_)
      have hP : va_P D vwCl [(h0, .inr (2, [v1, v2])), (h1, .inl (d1, 52, .inl f)), (a_6, .inl (da_6, 52, .inl g_272))] H := hP
      have hD : va_D A [(h0, .inr (2, [v1, v2])), (h1, .inl (d1, 52, .inl f)), (a_6, .inl (da_6, 52, .inl g_272))] := hD
      refine lv_aload_n hx hb dX2_invertKey_273 rfl (lv_at hl 4 rfl) ?_
      refine lv_aload_n hx hb dX2_invertKey_274 rfl (lv_at hl 5 rfl) ?_
      refine lv_iload hx hb dX2_invertKey_275 (lv_at hl 2 rfl) ?_
      refine lv_iinc (v := nI 49) (lv' := [(8, .int (nI 49)), (6, .int (nI 4)), (3, .int (nI (K 47))), (2, .int (nI (K 46))), (0, .ref h0), (1, .ref h1), (7, .ref a_6), (9, .int (nI 8))]) hx hb dX2_invertKey_277 hl (k := 2) rfl (by decide) (by decide) rfl (fun ls hl => ?_)
      refine im_iald hx hb hK hP 1 0 rfl rfl (i := 48) (by omega) (by omega) (v := nI (K 48)) (hf _ (by omega)) dX2_invertKey_280 ?_
      refine vp_callSi (W.runV (As := [.int (nI (K 48))]) (rest := []) ⟨hx, hb, hml, hown, hts⟩ (met_mulInv l h0 (hKl _)) (cwV 1 hts (lw_V q133 q135 qs5 q15 q136) rfl rfl rfl (by decide +kernel) ⟨Nat.le_of_ble_eq_true rfl, Nat.le_of_ble_eq_true rfl⟩) ⟨im_P0.blind, va_recv hK hP (ci := 2) (q0 := 0) rfl rfl, im_P0.of⟩ rfl rfl hl.1 rfl (lv_room (Nat.le_of_ble_eq_true rfl)) dX2_invertKey_281 ⟨Nat.le_of_ble_eq_true rfl, Nat.le_of_ble_eq_true rfl⟩) (fun r_281 hr_281 => ?_)
      have hr_281 : r_281 = nI (invS (K 48)) := hr_281
      subst hr_281
      refine lv_istore_n (lv' := [(2, .int (nI (invS (K 48)))), (8, .int (nI 49)), (6, .int (nI 4)), (3, .int (nI (K 47))), (0, .ref h0), (1, .ref h1), (7, .ref a_6), (9, .int (nI 8))]) hx hb dX2_invertKey_284 rfl hl (by decide) rfl (fun ls hl => ?_)
      refine lv_aload_n hx hb dX2_invertKey_285 rfl (lv_at hl 4 rfl) ?_
      refine lv_aload_n hx hb dX2_invertKey_286 rfl (lv_at hl 5 rfl) ?_
      refine lv_iload hx hb dX2_invertKey_287 (lv_at hl 1 rfl) ?_
      refine lv_iinc (v := nI 50) (lv' := [(8, .int (nI 50)), (2, .int (nI (invS (K 48)))), (6, .int (nI 4)), (3, .int (nI (K 47))), (0, .ref h0), (1, .ref h1), (7, .ref a_6), (9, .int (nI 8))]) hx hb dX2_invertKey_289 hl (k := 1) rfl (by decide) (by decide) rfl (fun ls hl => ?_)
      refine im_iald hx hb hK hP 1 0 rfl rfl (i := 49) (by omega) (by omega) (v := nI (K 49)) (hf _ (by omega)) dX2_invertKey_292 ?_
      refine vp_callSi (W.runV (As := [.int (nI (K 49))]) (rest := []) ⟨hx, hb, hml, hown, hts⟩ (met_addInv l h0 (hKl _)) (cwV 1 hts (lw_V q138 q139 q140 q15 q141) rfl rfl rfl (by decide +kernel) ⟨Nat.le_of_ble_eq_true rfl, Nat.le_of_ble_eq_true rfl⟩) ⟨im_P0.blind, va_recv hK hP (ci := 2) (q0 := 0) rfl rfl, im_P0.of⟩ rfl rfl hl.1 rfl (lv_room (Nat.le_of_ble_eq_true rfl)) dX2_invertKey_293 ⟨Nat.le_of_ble_eq_true rfl, Nat.le_of_ble_eq_true rfl⟩) (fun r_293 hr_293 => ?_)
      have hr_293 : r_293 = nI (negS (K 49)) := hr_293
      subst hr_293
      refine lv_istore_n (lv' := [(3, .int (nI (negS (K 49)))), (8, .int (nI 50)), (2, .int (nI (invS (K 48)))), (6, .int (nI 4)), (0, .ref h0), (1, .ref h1), (7, .ref a_6), (9, .int (nI 8))]) hx hb dX2_invertKey_296 rfl hl (by decide) rfl (fun ls hl => ?_)
      refine lv_aload_n hx hb dX2_invertKey_297 rfl (lv_at hl 4 rfl) ?_
      refine lv_aload_n hx hb dX2_invertKey_298 rfl (lv_at hl 5 rfl) ?_
      refine lv_iload hx hb dX2_invertKey_299 (lv_at hl 1 rfl) ?_
      refine lv_iinc (v := nI 51) (lv' := [(8, .int (nI 51)), (3, .int (nI (negS (K 49)))), (2, .int (nI (invS (K 48)))), (6, .int (nI 4)), (0, .ref h0), (1, .ref h1), (7, .ref a_6), (9, .int (nI 8))]) hx hb dX2_invertKey_301 hl (k := 1) rfl (by decide) (by decide) rfl (fun ls hl => ?_)
      refine im_iald hx hb hK hP 1 0 rfl rfl (i := 50) (by omega) (by omega) (v := nI (K 50)) (hf _ (by omega)) dX2_invertKey_304 ?_
      refine vp_callSi (W.runV (As := [.int (nI (K 50))]) (rest := []) ⟨hx, hb, hml, hown, hts⟩ (met_addInv l h0 (hKl _)) (cwV 1 hts (lw_V q138 q139 q140 q15 q141) rfl rfl rfl (by decide +kernel) ⟨Nat.le_of_ble_eq_true rfl, Nat.le_of_ble_eq_true rfl⟩) ⟨im_P0.blind, va_recv hK hP (ci := 2) (q0 := 0) rfl rfl, im_P0.of⟩ rfl rfl hl.1 rfl (lv_room (Nat.le_of_ble_eq_true rfl)) dX2_invertKey_305 ⟨Nat.le_of_ble_eq_true rfl, Nat.le_of_ble_eq_true rfl⟩) (fun r_305 hr_305 => ?_)
      have hr_305 : r_305 = nI (negS (K 50)) := hr_305
      subst hr_305
      refine lv_istore (lv' := [(4, .int (nI (negS (K 50)))), (8, .int (nI 51)), (3, .int (nI (negS (K 49)))), (2, .int (nI (invS (K 48)))), (6, .int (nI 4)), (0, .ref h0), (1, .ref h1), (7, .ref a_6), (9, .int (nI 8))]) hx hb dX2_invertKey_308 hl (by decide) rfl (fun ls hl => ?_)
      refine lv_aload_n hx hb dX2_invertKey_310 rfl (lv_at hl 5 rfl) ?_
      refine lv_aload_n hx hb dX2_invertKey_311 rfl (lv_at hl 6 rfl) ?_
      refine lv_iload hx hb dX2_invertKey_312 (lv_at hl 1 rfl) ?_
      refine im_iald hx hb hK hP 1 0 rfl rfl (i := 51) (by omega) (by omega) (v := nI (K 51)) (hf _ (by omega)) dX2_invertKey_314 ?_
      refine vp_callSi (W.runV (As := [.int (nI (K 51))]) (rest := []) ⟨hx, hb, hml, hown, hts⟩ (met_mulInv l h0 (hKl _)) (cwV 1 hts (lw_V q133 q135 qs5 q15 q136) rfl rfl rfl (by decide +kernel) ⟨Nat.le_of_ble_eq_true rfl, Nat.le_of_ble_eq_true rfl⟩) ⟨im_P0.blind, va_recv hK hP (ci := 2) (q0 := 0) rfl rfl, im_P0.of⟩ rfl rfl hl.1 rfl (lv_room (Nat.le_of_ble_eq_true rfl)) dX2_invertKey_315 ⟨Nat.le_of_ble_eq_true rfl, Nat.le_of_ble_eq_true rfl⟩) (fun r_315 hr_315 => ?_)
      have hr_315 : r_315 = nI (invS (K 51)) := hr_315
      subst hr_315
      refine lv_istore (lv' := [(5, .int (nI (invS (K 51)))), (4, .int (nI (negS (K 50)))), (8, .int (nI 51)), (3, .int (nI (negS (K 49)))), (2, .int (nI (invS (K 48)))), (6, .int (nI 4)), (0, .ref h0), (1, .ref h1), (7, .ref a_6), (9, .int (nI 8))]) hx hb dX2_invertKey_318 hl (by decide) rfl (fun ls hl => ?_)
      refine lv_aload hx hb dX2_invertKey_320 (lv_at hl 8 rfl) ?_
      refine lv_iinc (v := nI 3) (lv' := [(6, .int (nI 3)), (5, .int (nI (invS (K 51)))), (4, .int (nI (negS (K 50)))), (8, .int (nI 51)), (3, .int (nI (negS (K 49)))), (2, .int (nI (invS (K 48)))), (0, .ref h0), (1, .ref h1), (7, .ref a_6), (9, .int (nI 8))]) hx hb dX2_invertKey_322 hl (k := 5) rfl (by decide) (by decide) rfl (fun ls hl => ?_)
      refine lv_iload hx hb dX2_invertKey_325 (lv_at hl 0 rfl) ?_
      refine lv_iload hx hb dX2_invertKey_327 (lv_at hl 1 rfl) ?_
      refine im_iast hx hb hK hP hD hS 2 1 rfl rfl (i := 3) (by omega) (by omega) dX2_invertKey_329 (fun g_329 H locs eg_329 hP hD hS => ?_)
      have hP : va_P D vwCl [(h0, .inr (2, [v1, v2])), (h1, .inl (d1, 52, .inl f)), (a_6, .inl (da_6, 52, .inl g_329))] H := hP
      have hD : va_D A [(h0, .inr (2, [v1, v2])), (h1, .inl (d1, 52, .inl f)), (a_6, .inl (da_6, 52, .inl g_329))] := hD
      refine lv_aload hx hb dX2_invertKey_330 (lv_at hl 8 rfl) ?_
      refine lv_iinc (v := nI 2) (lv' := [(6, .int (nI 2)), (5, .int (nI (invS (K 51)))), (4, .int (nI (negS (K 50)))), (8, .int (nI 51)), (3, .int (nI (negS (K 49)))), (2, .int (nI (invS (K 48)))), (0, .ref h0), (1, .ref h1), (7, .ref a_6), (9, .int (nI 8))]) hx hb dX2_invertKey_332 hl (k := 0) rfl (by decide) (by decide) rfl (fun ls hl => ?_)
      refine lv_iload hx hb dX2_invertKey_335 (lv_at hl 0 rfl) ?_
      refine lv_iload hx hb dX2_invertKey_337 (lv_at hl 2 rfl) ?_
      refine im_iast hx hb hK hP hD hS 2 1 rfl rfl (i := 2) (by omega) (by omega) dX2_invertKey_339 (fun g_339 H locs eg_339 hP hD hS => ?_)
      have hP : va_P D vwCl [(h0, .inr (2, [v1, v2])), (h1, .inl (d1, 52, .inl f)), (a_6, .inl (da_6, 52, .inl g_339))] H := hP
      have hD : va_D A [(h0, .inr (2, [v1, v2])), (h1, .inl (d1, 52, .inl f)), (a_6, .inl (da_6, 52, .inl g_339))] := hD
      refine lv_aload hx hb dX2_invertKey_340 (lv_at hl 8 rfl) ?_
      refine lv_iinc (v := nI 1) (lv' := [(6, .int (nI 1)), (5, .int (nI (invS (K 51)))), (4, .int (nI (negS (K 50)))), (8, .int (nI 51)), (3, .int (nI (negS (K 49)))), (2, .int (nI (invS (K 48)))), (0, .ref h0), (1, .ref h1), (7, .ref a_6), (9, .int (nI 8))]) hx hb dX2_invertKey_342 hl (k := 0) rfl (by decide) (by decide) rfl (fun ls hl => ?_)
      refine lv_iload hx hb dX2_invertKey_345 (lv_at hl 0 rfl) ?_
      refine lv_iload_n hx hb dX2_invertKey_347 rfl (lv_at hl 4 rfl) ?_
      refine im_iast hx hb hK hP hD hS 2 1 rfl rfl (i := 1) (by omega) (by omega) dX2_invertKey_348 (fun g_348 H locs eg_348 hP hD hS => ?_)
      have hP : va_P D vwCl [(h0, .inr (2, [v1, v2])), (h1, .inl (d1, 52, .inl f)), (a_6, .inl (da_6, 52, .inl g_348))] H := hP
      have hD : va_D A [(h0, .inr (2, [v1, v2])), (h1, .inl (d1, 52, .inl f)), (a_6, .inl (da_6, 52, .inl g_348))] := hD
      refine lv_aload hx hb dX2_invertKey_349 (lv_at hl 8 rfl) ?_
      refine lv_iinc (v := nI 0) (lv' := [(6, .int (nI 0)), (5, .int (nI (invS (K 51)))), (4, .int (nI (negS (K 50)))), (8, .int (nI 51)), (3, .int (nI (negS (K 49)))), (2, .int (nI (invS (K 48)))), (0, .ref h0), (1, .ref h1), (7, .ref a_6), (9, .int (nI 8))]) hx hb dX2_invertKey_351 hl (k := 0) rfl (by decide) (by decide) rfl (fun ls hl => ?_)
      refine lv_iload hx hb dX2_invertKey_354 (lv_at hl 0 rfl) ?_
      refine lv_iload_n hx hb dX2_invertKey_356 rfl (lv_at hl 5 rfl) ?_
      refine im_iast hx hb hK hP hD hS 2 1 rfl rfl (i := 0) (by omega) (by omega) dX2_invertKey_357 (fun g_357 H locs eg_357 hP hD hS => ?_)
      have hP : va_P D vwCl [(h0, .inr (2, [v1, v2])), (h1, .inl (d1, 52, .inl f)), (a_6, .inl (da_6, 52, .inl g_357))] H := hP
      have hD : va_D A [(h0, .inr (2, [v1, v2])), (h1, .inl (d1, 52, .inl f)), (a_6, .inl (da_6, 52, .inl g_357))] := hD
      refine lv_aload hx hb dX2_invertKey_358 (lv_at hl 8 rfl) ?_
      have k263 := im_down (F := fun j => nI (undo K j)) (k := 5) hz rfl eg_263 (congrArg nI (undo_5 K 0).symm)
      have k272 := im_down (F := fun j => nI (undo K j)) (k := 4) k263 rfl eg_272 (congrArg nI (undo_4 K 0).symm)
      have k329 := im_down (F := fun j => nI (undo K j)) (k := 3) k272 rfl eg_329 (congrArg nI (undo_3 K 0).symm)
      have k339 := im_down (F := fun j => nI (undo K j)) (k := 2) k329 rfl eg_339 (congrArg nI (undo_2 K 0).symm)
      have k348 := im_down (F := fun j => nI (undo K j)) (k := 1) k339 rfl eg_348 (congrArg nI (undo_1 K 0).symm)
      have k357 := im_down (F := fun j => nI (undo K j)) (k := 0) k348 rfl eg_357 (congrArg nI (undo_0 K 0).symm)
      have hP9 := hP.sub (ws' := [(h0, .inr (2, [v1, v2])), (h1, .inl (d1, 52, .inl f)), (a_6, .inl (da_6, 52, .inl g_357))]) [0, 1, 2] rfl
      have hD9 := hD.sub (ws' := [(h0, .inr (2, [v1, v2])), (h1, .inl (d1, 52, .inl f)), (a_6, .inl (da_6, 52, .inl g_357))]) [0, 1, 2] (by decide) rfl
      have hK9 := hK.sub (tys' := [(da_6, .int)]) [1] rfl
      refine W.widen (k := 1) (n := 52) (Nat.le_of_ble_eq_true rfl) (Nat.le_of_ble_eq_true rfl) ?_
      exact W.aret (v := .ref a_6) hx hb hr (Or.inr ⟨_, rfl⟩) (Or.inr ⟨_, rfl⟩) (fun t ht hW => ⟨⟨g_357, a_6, rfl, (fun i hi => k357 i (Nat.zero_le i) hi), _, by rw [ht]; exact hP9, va_K.moved hW.alike hK9, hD9⟩, hS.F ht⟩) hS.2.2 dX2_invertKey_360
    · have c_108 : ¬ (8 ≤ r) := fun z => c_108 ((nI_leI (a := 8) (b := r) (by omega) (by omega)).mpr z)
      exfalso
      omega
  · intro n ih H locs ls hI
    obtain ⟨q, o, r, z, hq, ho, hrq, hz, hP, hD, hS, hl⟩ := hI
    refine lv_iload hx hb dX2_invertKey_104 (lv_at hl 5 rfl) ?_
    refine lv_bipush (v := nI 8) hx hb dX2_invertKey_106 (by decide) ?_
    refine lv_icmp_ge (tgt := 239) hx hb dX2_invertKey_108 (by decide) (fun c_108 => ?_) (fun c_108 => ?_)
    · have c_108 : 8 ≤ r := (nI_leI (a := 8) (b := r) (by omega) (by omega)).mp c_108
      exfalso
      omega
    · have c_108 : ¬ (8 ≤ r) := fun z => c_108 ((nI_leI (a := 8) (b := r) (by omega) (by omega)).mpr z)
      refine lv_aload_n hx hb dX2_invertKey_111 rfl (lv_at hl 1 rfl) ?_
      refine lv_iload hx hb dX2_invertKey_112 (lv_at hl 4 rfl) ?_
      refine lv_iinc (v := nI (o + 1)) (lv' := [(8, .int (nI (o + 1))), (0, .ref h0), (1, .ref h1), (6, .int (nI (6 * q))), (7, .ref a_6), (9, .int (nI r))]) hx hb dX2_invertKey_114 hl (k := 4) rfl (nI_1 o) (by decide) rfl (fun ls hl => ?_)
      refine im_iald hx hb hK hP 1 0 rfl rfl (i := o) (by omega) (by omega) (v := nI (K o)) (hf _ (by omega)) dX2_invertKey_117 ?_
      refine lv_istore_n (lv' := [(2, .int (nI (K o))), (8, .int (nI (o + 1))), (0, .ref h0), (1, .ref h1), (6, .int (nI (6 * q))), (7, .ref a_6), (9, .int (nI r))]) hx hb dX2_invertKey_118 rfl hl (by decide) rfl (fun ls hl => ?_)
      refine lv_aload_n hx hb dX2_invertKey_119 rfl (lv_at hl 3 rfl) ?_
      refine lv_iload hx hb dX2_invertKey_120 (lv_at hl 1 rfl) ?_
      refine lv_iinc (v := nI (o + 2)) (lv' := [(8, .int (nI (o + 2))), (2, .int (nI (K o))), (0, .ref h0), (1, .ref h1), (6, .int (nI (6 * q))), (7, .ref a_6), (9, .int (nI r))]) hx hb dX2_invertKey_122 hl (k := 1) rfl (nI_1 (o + 1)) (by decide) rfl (fun ls hl => ?_)
      refine im_iald hx hb hK hP 1 0 rfl rfl (i := o + 1) (by omega) (by omega) (v := nI (K (o + 1))) (hf _ (by omega)) dX2_invertKey_125 ?_
      refine lv_istore_n (lv' := [(3, .int (nI (K (o + 1)))), (8, .int (nI (o + 2))), (2, .int (nI (K o))), (0, .ref h0), (1, .ref h1), (6, .int (nI (6 * q))), (7, .ref a_6), (9, .int (nI r))]) hx hb dX2_invertKey_126 rfl hl (by decide) rfl (fun ls hl => ?_)
      refine lv_aload hx hb dX2_invertKey_127 (lv_at hl 6 rfl) ?_
      refine lv_iinc (v := nI (6 * q - 1)) (lv' := [(6, .int (nI (6 * q - 1))), (3, .int (nI (K (o + 1)))), (8, .int (nI (o + 2))), (2, .int (nI (K o))), (0, .ref h0), (1, .ref h1), (7, .ref a_6), (9, .int (nI r))]) hx hb dX2_invertKey_129 hl (k := 5) rfl (im_m1 (by omega)) (by decide) rfl (fun ls hl => ?_)
      refine lv_iload hx hb dX2_invertKey_132 (lv_at hl 0 rfl) ?_
      refine lv_iload_n hx hb dX2_invertKey_134 rfl (lv_at hl 1 rfl) ?_
      refine im_iast hx hb hK hP hD hS 2 1 rfl rfl (i := 6 * q - 1) (by omega) (by omega) dX2_invertKey_135 (fun g_135 H locs eg_135 hP hD hS => ?_)
      have hP : va_P D vwCl [(h0, .inr (2, [v1, v2])), (h1, .inl (d1, 52, .inl f)), (a_6, .inl (da_6, 52, .inl g_135))] H := hP
      have hD : va_D A [(h0, .inr (2, [v1, v2])), (h1, .inl (d1, 52, .inl f)), (a_6, .inl (da_6, 52, .inl g_135))] := hD
      refine lv_aload hx hb dX2_invertKey_136 (lv_at hl 6 rfl) ?_
      refine lv_iinc (v := nI (6 * q - 2)) (lv' := [(6, .int (nI (6 * q - 2))), (3, .int (nI (K (o + 1)))), (8, .int (nI (o + 2))), (2, .int (nI (K o))), (0, .ref h0), (1, .ref h1), (7, .ref a_6), (9, .int (nI r))]) hx hb dX2_invertKey_138 hl (k := 0) rfl (im_m1 (by omega)) (by decide) rfl (fun ls hl => ?_)
      refine lv_iload hx hb dX2_invertKey_141 (lv_at hl 0 rfl) ?_
      refine lv_iload_n hx hb dX2_invertKey_143 rfl (lv_at hl 3 rfl) ?_
      refine im_iast hx hb hK hP hD hS 2 1 rfl rfl (i := 6 * q - 2) (by omega) (by omega) dX2_invertKey_144 (fun g_144 H locs eg_144 hP hD hS => ?_)
      have hP : va_P D vwCl [(h0, .inr (2, [v1, v2])), (h1, .inl (d1, 52, .inl f)), (a_6, .inl (da_6, 52, .inl g_144))] H := hP
      have hD : va_D A [(h0, .inr (2, [v1, v2])), (h1, .inl (d1, 52, .inl f)), (a_6, .inl (da_6, 52, .inl g_144))] := hD
      refine lv_aload_n hx hb dX2_invertKey_145 rfl (lv_at hl 4 rfl) ?_
      refine lv_aload_n hx hb dX2_invertKey_146 rfl (lv_at hl 5 rfl) ?_
      refine lv_iload hx hb dX2_invertKey_147 (lv_at hl 2 rfl) ?_
      refine lv_iinc (v := nI (o + 3)) (lv' := [(8, .int (nI (o + 3))), (6, .int (nI (6 * q - 2))), (3, .int (nI (K (o + 1)))), (2, .int (nI (K o))), (0, .ref h0), (1, .ref h1), (7, .ref a_6), (9, .int (nI r))]) hx hb dX2_invertKey_149 hl (k := 2) rfl (nI_1 (o + 2)) (by decide) rfl (fun ls hl => ?_)
      refine im_iald hx hb hK hP 1 0 rfl rfl (i := o + 2) (by omega) (by omega) (v := nI (K (o + 2))) (hf _ (by omega)) dX2_invertKey_152 ?_
      refine vp_callSi (W.runV (As := [.int (nI (K (o + 2)))]) (rest := []) ⟨hx, hb, hml, hown, hts⟩ (met_mulInv l h0 (hKl _)) (cwV 1 hts (lw_V q133 q135 qs5 q15 q136) rfl rfl rfl (by decide +kernel) ⟨Nat.le_of_ble_eq_true rfl, Nat.le_of_ble_eq_true rfl⟩) ⟨im_P0.blind, va_recv hK hP (ci := 2) (q0 := 0) rfl rfl, im_P0.of⟩ rfl rfl hl.1 rfl (lv_room (Nat.le_of_ble_eq_true rfl)) dX2_invertKey_153 ⟨Nat.le_of_ble_eq_true rfl, Nat.le_of_ble_eq_true rfl⟩) (fun r_153 hr_153 => ?_)
      have hr_153 : r_153 = nI (invS (K (o + 2))) := hr_153
      subst hr_153
      refine lv_istore_n (lv' := [(2, .int (nI (invS (K (o + 2))))), (8, .int (nI (o + 3))), (6, .int (nI (6 * q - 2))), (3, .int (nI (K (o + 1)))), (0, .ref h0), (1, .ref h1), (7, .ref a_6), (9, .int (nI r))]) hx hb dX2_invertKey_156 rfl hl (by decide) rfl (fun ls hl => ?_)
      refine lv_aload_n hx hb dX2_invertKey_157 rfl (lv_at hl 4 rfl) ?_
      refine lv_aload_n hx hb dX2_invertKey_158 rfl (lv_at hl 5 rfl) ?_
      refine lv_iload hx hb dX2_invertKey_159 (lv_at hl 1 rfl) ?_
      refine lv_iinc (v := nI (o + 4)) (lv' := [(8, .int (nI (o + 4))), (2, .int (nI (invS (K (o + 2))))), (6, .int (nI (6 * q - 2))), (3, .int (nI (K (o + 1)))), (0, .ref h0), (1, .ref h1), (7, .ref a_6), (9, .int (nI r))]) hx hb dX2_invertKey_161 hl (k := 1) rfl (nI_1 (o + 3)) (by decide) rfl (fun ls hl => ?_)
      refine im_iald hx hb hK hP 1 0 rfl rfl (i := o + 3) (by omega) (by omega) (v := nI (K (o + 3))) (hf _ (by omega)) dX2_invertKey_164 ?_
      refine vp_callSi (W.runV (As := [.int (nI (K (o + 3)))]) (rest := []) ⟨hx, hb, hml, hown, hts⟩ (met_addInv l h0 (hKl _)) (cwV 1 hts (lw_V q138 q139 q140 q15 q141) rfl rfl rfl (by decide +kernel) ⟨Nat.le_of_ble_eq_true rfl, Nat.le_of_ble_eq_true rfl⟩) ⟨im_P0.blind, va_recv hK hP (ci := 2) (q0 := 0) rfl rfl, im_P0.of⟩ rfl rfl hl.1 rfl (lv_room (Nat.le_of_ble_eq_true rfl)) dX2_invertKey_165 ⟨Nat.le_of_ble_eq_true rfl, Nat.le_of_ble_eq_true rfl⟩) (fun r_165 hr_165 => ?_)
      have hr_165 : r_165 = nI (negS (K (o + 3))) := hr_165
      subst hr_165
      refine lv_istore_n (lv' := [(3, .int (nI (negS (K (o + 3))))), (8, .int (nI (o + 4))), (2, .int (nI (invS (K (o + 2))))), (6, .int (nI (6 * q - 2))), (0, .ref h0), (1, .ref h1), (7, .ref a_6), (9, .int (nI r))]) hx hb dX2_invertKey_168 rfl hl (by decide) rfl (fun ls hl => ?_)
      refine lv_aload_n hx hb dX2_invertKey_169 rfl (lv_at hl 4 rfl) ?_
      refine lv_aload_n hx hb dX2_invertKey_170 rfl (lv_at hl 5 rfl) ?_
      refine lv_iload hx hb dX2_invertKey_171 (lv_at hl 1 rfl) ?_
      refine lv_iinc (v := nI (o + 5)) (lv' := [(8, .int (nI (o + 5))), (3, .int (nI (negS (K (o + 3))))), (2, .int (nI (invS (K (o + 2))))), (6, .int (nI (6 * q - 2))), (0, .ref h0), (1, .ref h1), (7, .ref a_6), (9, .int (nI r))]) hx hb dX2_invertKey_173 hl (k := 1) rfl (nI_1 (o + 4)) (by decide) rfl (fun ls hl => ?_)
      refine im_iald hx hb hK hP 1 0 rfl rfl (i := o + 4) (by omega) (by omega) (v := nI (K (o + 4))) (hf _ (by omega)) dX2_invertKey_176 ?_
      refine vp_callSi (W.runV (As := [.int (nI (K (o + 4)))]) (rest := []) ⟨hx, hb, hml, hown, hts⟩ (met_addInv l h0 (hKl _)) (cwV 1 hts (lw_V q138 q139 q140 q15 q141) rfl rfl rfl (by decide +kernel) ⟨Nat.le_of_ble_eq_true rfl, Nat.le_of_ble_eq_true rfl⟩) ⟨im_P0.blind, va_recv hK hP (ci := 2) (q0 := 0) rfl rfl, im_P0.of⟩ rfl rfl hl.1 rfl (lv_room (Nat.le_of_ble_eq_true rfl)) dX2_invertKey_177 ⟨Nat.le_of_ble_eq_true rfl, Nat.le_of_ble_eq_true rfl⟩) (fun r_177 hr_177 => ?_)
      have hr_177 : r_177 = nI (negS (K (o + 4))) := hr_177
      subst hr_177
      refine lv_istore (lv' := [(4, .int (nI (negS (K (o + 4))))), (8, .int (nI (o + 5))), (3, .int (nI (negS (K (o + 3))))), (2, .int (nI (invS (K (o + 2))))), (6, .int (nI (6 * q - 2))), (0, .ref h0), (1, .ref h1), (7, .ref a_6), (9, .int (nI r))]) hx hb dX2_invertKey_180 hl (by decide) rfl (fun ls hl => ?_)
      refine lv_aload_n hx hb dX2_invertKey_182 rfl (lv_at hl 5 rfl) ?_
      refine lv_aload_n hx hb dX2_invertKey_183 rfl (lv_at hl 6 rfl) ?_
      refine lv_iload hx hb dX2_invertKey_184 (lv_at hl 1 rfl) ?_
      refine lv_iinc (v := nI (o + 6)) (lv' := [(8, .int (nI (o + 6))), (4, .int (nI (negS (K (o + 4))))), (3, .int (nI (negS (K (o + 3))))), (2, .int (nI (invS (K (o + 2))))), (6, .int (nI (6 * q - 2))), (0, .ref h0), (1, .ref h1), (7, .ref a_6), (9, .int (nI r))]) hx hb dX2_invertKey_186 hl (k := 1) rfl (nI_1 (o + 5)) (by decide) rfl (fun ls hl => ?_)
      refine im_iald hx hb hK hP 1 0 rfl rfl (i := o + 5) (by omega) (by omega) (v := nI (K (o + 5))) (hf _ (by omega)) dX2_invertKey_189 ?_
      refine vp_callSi (W.runV (As := [.int (nI (K (o + 5)))]) (rest := []) ⟨hx, hb, hml, hown, hts⟩ (met_mulInv l h0 (hKl _)) (cwV 1 hts (lw_V q133 q135 qs5 q15 q136) rfl rfl rfl (by decide +kernel) ⟨Nat.le_of_ble_eq_true rfl, Nat.le_of_ble_eq_true rfl⟩) ⟨im_P0.blind, va_recv hK hP (ci := 2) (q0 := 0) rfl rfl, im_P0.of⟩ rfl rfl hl.1 rfl (lv_room (Nat.le_of_ble_eq_true rfl)) dX2_invertKey_190 ⟨Nat.le_of_ble_eq_true rfl, Nat.le_of_ble_eq_true rfl⟩) (fun r_190 hr_190 => ?_)
      have hr_190 : r_190 = nI (invS (K (o + 5))) := hr_190
      subst hr_190
      refine lv_istore (lv' := [(5, .int (nI (invS (K (o + 5))))), (8, .int (nI (o + 6))), (4, .int (nI (negS (K (o + 4))))), (3, .int (nI (negS (K (o + 3))))), (2, .int (nI (invS (K (o + 2))))), (6, .int (nI (6 * q - 2))), (0, .ref h0), (1, .ref h1), (7, .ref a_6), (9, .int (nI r))]) hx hb dX2_invertKey_193 hl (by decide) rfl (fun ls hl => ?_)
      refine lv_aload hx hb dX2_invertKey_195 (lv_at hl 8 rfl) ?_
      refine lv_iinc (v := nI (6 * q - 3)) (lv' := [(6, .int (nI (6 * q - 3))), (5, .int (nI (invS (K (o + 5))))), (8, .int (nI (o + 6))), (4, .int (nI (negS (K (o + 4))))), (3, .int (nI (negS (K (o + 3))))), (2, .int (nI (invS (K (o + 2))))), (0, .ref h0), (1, .ref h1), (7, .ref a_6), (9, .int (nI r))]) hx hb dX2_invertKey_197 hl (k := 5) rfl (im_m1 (by omega)) (by decide) rfl (fun ls hl => ?_)
      refine lv_iload hx hb dX2_invertKey_200 (lv_at hl 0 rfl) ?_
      refine lv_iload hx hb dX2_invertKey_202 (lv_at hl 1 rfl) ?_
      refine im_iast hx hb hK hP hD hS 2 1 rfl rfl (i := 6 * q - 3) (by omega) (by omega) dX2_invertKey_204 (fun g_204 H locs eg_204 hP hD hS => ?_)
      have hP : va_P D vwCl [(h0, .inr (2, [v1, v2])), (h1, .inl (d1, 52, .inl f)), (a_6, .inl (da_6, 52, .inl g_204))] H := hP
      have hD : va_D A [(h0, .inr (2, [v1, v2])), (h1, .inl (d1, 52, .inl f)), (a_6, .inl (da_6, 52, .inl g_204))] := hD
      refine lv_aload hx hb dX2_invertKey_205 (lv_at hl 8 rfl) ?_
      refine lv_iinc (v := nI (6 * q - 4)) (lv' := [(6, .int (nI (6 * q - 4))), (5, .int (nI (invS (K (o + 5))))), (8, .int (nI (o + 6))), (4, .int (nI (negS (K (o + 4))))), (3, .int (nI (negS (K (o + 3))))), (2, .int (nI (invS (K (o + 2))))), (0, .ref h0), (1, .ref h1), (7, .ref a_6), (9, .int (nI r))]) hx hb dX2_invertKey_207 hl (k := 0) rfl (im_m1 (by omega)) (by decide) rfl (fun ls hl => ?_)
      refine lv_iload hx hb dX2_invertKey_210 (lv_at hl 0 rfl) ?_
      refine lv_iload_n hx hb dX2_invertKey_212 rfl (lv_at hl 4 rfl) ?_
      refine im_iast hx hb hK hP hD hS 2 1 rfl rfl (i := 6 * q - 4) (by omega) (by omega) dX2_invertKey_213 (fun g_213 H locs eg_213 hP hD hS => ?_)
      have hP : va_P D vwCl [(h0, .inr (2, [v1, v2])), (h1, .inl (d1, 52, .inl f)), (a_6, .inl (da_6, 52, .inl g_213))] H := hP
      have hD : va_D A [(h0, .inr (2, [v1, v2])), (h1, .inl (d1, 52, .inl f)), (a_6, .inl (da_6, 52, .inl g_213))] := hD
      refine lv_aload hx hb dX2_invertKey_214 (lv_at hl 8 rfl) ?_
      refine lv_iinc (v := nI (6 * q - 5)) (lv' := [(6, .int (nI (6 * q - 5))), (5, .int (nI (invS (K (o + 5))))), (8, .int (nI (o + 6))), (4, .int (nI (negS (K (o + 4))))), (3, .int (nI (negS (K (o + 3))))), (2, .int (nI (invS (K (o + 2))))), (0, .ref h0), (1, .ref h1), (7, .ref a_6), (9, .int (nI r))]) hx hb dX2_invertKey_216 hl (k := 0) rfl (im_m1 (by omega)) (by decide) rfl (fun ls hl => ?_)
      refine lv_iload hx hb dX2_invertKey_219 (lv_at hl 0 rfl) ?_
      refine lv_iload hx hb dX2_invertKey_221 (lv_at hl 3 rfl) ?_
      refine im_iast hx hb hK hP hD hS 2 1 rfl rfl (i := 6 * q - 5) (by omega) (by omega) dX2_invertKey_223 (fun g_223 H locs eg_223 hP hD hS => ?_)
      have hP : va_P D vwCl [(h0, .inr (2, [v1, v2])), (h1, .inl (d1, 52, .inl f)), (a_6, .inl (da_6, 52, .inl g_223))] H := hP
      have hD : va_D A [(h0, .inr (2, [v1, v2])), (h1, .inl (d1, 52, .inl f)), (a_6, .inl (da_6, 52, .inl g_223))] := hD
      refine lv_aload hx hb dX2_invertKey_224 (lv_at hl 8 rfl) ?_
      refine lv_iinc (v := nI (6 * q - 6)) (lv' := [(6, .int (nI (6 * q - 6))), (5, .int (nI (invS (K (o + 5))))), (8, .int (nI (o + 6))), (4, .int (nI (negS (K (o + 4))))), (3, .int (nI (negS (K (o + 3))))), (2, .int (nI (invS (K (o + 2))))), (0, .ref h0), (1, .ref h1), (7, .ref a_6), (9, .int (nI r))]) hx hb dX2_invertKey_226 hl (k := 0) rfl (im_m1 (by omega)) (by decide) rfl (fun ls hl => ?_)
      refine lv_iload hx hb dX2_invertKey_229 (lv_at hl 0 rfl) ?_
      refine lv_iload_n hx hb dX2_invertKey_231 rfl (lv_at hl 5 rfl) ?_
      refine im_iast hx hb hK hP hD hS 2 1 rfl rfl (i := 6 * q - 6) (by omega) (by omega) dX2_invertKey_232 (fun g_232 H locs eg_232 hP hD hS => ?_)
      have hP : va_P D vwCl [(h0, .inr (2, [v1, v2])), (h1, .inl (d1, 52, .inl f)), (a_6, .inl (da_6, 52, .inl g_232))] H := hP
      have hD : va_D A [(h0, .inr (2, [v1, v2])), (h1, .inl (d1, 52, .inl f)), (a_6, .inl (da_6, 52, .inl g_232))] := hD
      refine lv_iinc (v := nI (r + 1)) (lv' := [(9, .int (nI (r + 1))), (6, .int (nI (6 * q - 6))), (5, .int (nI (invS (K (o + 5))))), (8, .int (nI (o + 6))), (4, .int (nI (negS (K (o + 4))))), (3, .int (nI (negS (K (o + 3))))), (2, .int (nI (invS (K (o + 2))))), (0, .ref h0), (1, .ref h1), (7, .ref a_6)]) hx hb dX2_invertKey_233 hl (k := 9) rfl (nI_1 r) (by decide) rfl (fun ls hl => ?_)
      refine lv_goto (tgt := 104) hx hb dX2_invertKey_236 (by decide) ?_
      have k135 := im_down (F := fun j => nI (undo K j)) (k := 6 * q - 1) hz (by omega) eg_135 (congrArg nI (by rw [show 6 * q - 1 = 6 * (q - 1) + 5 by omega, undo_5, show 48 - 6 * (q - 1) - 1 = o + 1 by omega]))
      have k144 := im_down (F := fun j => nI (undo K j)) (k := 6 * q - 2) k135 (by omega) eg_144 (congrArg nI (by rw [show 6 * q - 2 = 6 * (q - 1) + 4 by omega, undo_4, show 48 - 6 * (q - 1) - 2 = o by omega]))
      have k204 := im_down (F := fun j => nI (undo K j)) (k := 6 * q - 3) k144 (by omega) eg_204 (congrArg nI (by rw [show 6 * q - 3 = 6 * (q - 1) + 3 by omega, undo_3, show 48 - 6 * (q - 1) + 3 = o + 5 by omega]))
      have k213 := im_down (F := fun j => nI (undo K j)) (k := 6 * q - 4) k204 (by omega) eg_213 (congrArg nI (by rw [show 6 * q - 4 = 6 * (q - 1) + 2 by omega, undo_2, if_neg (by omega), show 48 - 6 * (q - 1) + 1 = o + 3 by omega]))
      have k223 := im_down (F := fun j => nI (undo K j)) (k := 6 * q - 5) k213 (by omega) eg_223 (congrArg nI (by rw [show 6 * q - 5 = 6 * (q - 1) + 1 by omega, undo_1, if_neg (by omega), show 48 - 6 * (q - 1) + 2 = o + 4 by omega]))
      have k232 := im_down (F := fun j => nI (undo K j)) (k := 6 * q - 6) k223 (by omega) eg_232 (congrArg nI (by rw [show 6 * q - 6 = 6 * (q - 1) by omega, undo_0, show 48 - 6 * (q - 1) = o + 2 by omega]))
      rw [show 6 * q - 6 = 6 * (q - 1) by omega] at hl
      exact ih _ _ _ ⟨q - 1, o + 6, r + 1, g_232, by omega, by omega, by omega, (fun j h1 h2 => k232 j (by omega) h2), hP.sub [0, 1, 2] rfl, hD.sub [0, 1, 2] (by decide) rfl, hS, lv_sub hl [7, 8, 1, 9, 3, 0] rfl⟩
end
section
/-! THE ROUNDS, both sides -/
set_option maxHeartbeats 4000000 in
set_option maxRecDepth 100000 in
/-- IdeaDeskModel.runs -/
theorem met_runs (l : Launch) (D : va_G) (sz : Nat) (h0 hk h1 h2 h3 : Nat) (d1 d2 d3 : ClassId) (b g f : Nat → Int32) (K : Nat → Nat) (hf : ∀ i, i < 52 → f i = nI (K i)) (hKl : ∀ i, K i < 65536) : Met l yX1_runs (ws_ yX1_runs cX1_runs 10 none) ({ frames := 1, cells := 1, slots := 4, locals := 25 }) (va_Pc [.ref h0, .ref h3] (im_Pw D vwCl [(h0, .inr (1, [.ref hk, .ref h1, .ref h2])), (h1, .inl (d1, 8, .inl b)), (h2, .inl (d2, 8, .inl g)), (h3, .inl (d3, 52, .inl f))] [(d1, .byte), (d2, .byte), (d3, .int)] sz)) (va_Qv (fun (u : Nat → Int32) => u = outS K b g) (im_B D vwCl (va_A [(h0, .inr (1, [.ref hk, .ref h1, .ref h2])), (h1, .inl (d1, 8, .inl b)), (h2, .inl (d2, 8, .inl g)), (h3, .inl (d3, 52, .inl f))] sz) (fun (u : Nat → Int32) => [(h0, .inr (1, [.ref hk, .ref h1, .ref h2])), (h1, .inl (d1, 8, .inl b)), (h2, .inl (d2, 8, .inl u)), (h3, .inl (d3, 52, .inl f))])) (va_A [(h0, .inr (1, [.ref hk, .ref h1, .ref h2])), (h1, .inl (d1, 8, .inl b)), (h2, .inl (d2, 8, .inl g)), (h3, .inl (d3, 52, .inl f))] sz)) 1 4 (va_A [(h0, .inr (1, [.ref hk, .ref h1, .ref h2])), (h1, .inl (d1, 8, .inl b)), (h2, .inl (d2, 8, .inl g)), (h3, .inl (d3, 52, .inl f))] sz) := by
  refine Met.ofW (cc := cX1_runs) (maxL := 10) (ret := none) (by decide) rfl ?_
  intro p e s m args below meth c s₁ B hml hv
  obtain ⟨rfl, hsz, hP, hK, hD0⟩ := hv
  have hx := B.exec
  have hb := B.bytes
  have hr := B.returns
  have hts := atoms_spec (ws := (ws_ yX1_runs cX1_runs 10 none)) B.pre
  have hts : ∀ w ∈ lw_all, w.before _ s = true := fun w h => hts w (List.mem_cons_of_mem _ h)
  have hown : s.vm.findClass RX1 = some m.cls := findClass_of_methodNamed B.named
  have hlocks := B.notSynchronized
  subst hsz
  have hD := hD0.self (sz := s.heap.size)
  generalize hAe : va_A [(h0, .inr (1, [.ref hk, .ref h1, .ref h2])), (h1, .inl (d1, 8, .inl b)), (h2, .inl (d2, 8, .inl g)), (h3, .inl (d3, 52, .inl f))] s.heap.size = A at hD ⊢
  have hA : ∀ q : Nat, s.heap.size ≤ q → A q := fun q h => by rw [← hAe]; exact Or.inr h
  have hS : va_S A s.heap s.heap [] := va_S.rf
  have hP : va_P D vwCl [(h0, .inr (1, [.ref hk, .ref h1, .ref h2])), (h1, .inl (d1, 8, .inl b)), (h2, .inl (d2, 8, .inl g)), (h3, .inl (d3, 52, .inl f))] s.heap := hP
  have hl := lv_entry ([.ref h0, .ref h3]) (n := 10) (Nat.le_of_ble_eq_true rfl)
  rw [lg_entry_eq]
  generalize (lg_sl ([.ref h0, .ref h3]) ++ List.replicate (10 - (lg_sl ([.ref h0, .ref h3])).length) Slot.unset).toArray = ls at hl ⊢
  have hl : lv_has ls 10 [(0, .ref h0), (1, .ref h3)] := hl
  refine lv_aload_n hx hb dX1_runs_0 rfl (lv_at hl 0 rfl) ?_
  refine va_get (ci := 1) (v := .ref h1) (C := RX1) (T := TX1) (N := 3) hx hb hts in_X1 hown hK hP 0 rfl rfl 1 (by decide) (hts _ q304) (fun _ h9 => h9) rfl dX1_runs_1 ?_
  refine lv_iconst (v := nI 0) hx hb dX1_runs_4 (by decide) ?_
  have hPc := hP.sub (ws' := [(h1, .inl (d1, 8, .inl b))]) [1] rfl
  have hKc := hK.sub (tys' := [(d1, .byte)]) [0] rfl
  refine vp_callSi (W.runS (As := [.ref h1, .int (nI 0)]) (rest := []) ⟨hx, hb, hml, hown, hts⟩ (met_half l D h1 d1 8 b 0 (by omega) (by omega)) (va_cwS 2 hts (lw_S q336 q337 q14 q338) rfl rfl rfl (by decide +kernel) ⟨Nat.le_of_ble_eq_true rfl, Nat.le_of_ble_eq_true rfl⟩) ⟨im_Pr.blind, im_Pr.of hPc hKc⟩ rfl rfl hl.1 rfl (lv_room (Nat.le_of_ble_eq_true rfl)) dX1_runs_5 ⟨Nat.le_of_ble_eq_true rfl, Nat.le_of_ble_eq_true rfl⟩) (fun r_5 hr_5 => ?_)
  have hr_5 : r_5 = nI (wd b 0) := hr_5
  subst hr_5
  refine lv_istore_n (lv' := [(2, .int (nI (wd b 0))), (0, .ref h0), (1, .ref h3)]) hx hb dX1_runs_8 rfl hl (by decide) rfl (fun ls hl => ?_)
  refine lv_aload_n hx hb dX1_runs_9 rfl (lv_at hl 1 rfl) ?_
  refine va_get (ci := 1) (v := .ref h1) (C := RX1) (T := TX1) (N := 3) hx hb hts in_X1 hown hK hP 0 rfl rfl 1 (by decide) (hts _ q304) (fun _ h9 => h9) rfl dX1_runs_10 ?_
  refine lv_iconst (v := nI 2) hx hb dX1_runs_13 (by decide) ?_
  have hPc := hP.sub (ws' := [(h1, .inl (d1, 8, .inl b))]) [1] rfl
  have hKc := hK.sub (tys' := [(d1, .byte)]) [0] rfl
  refine vp_callSi (W.runS (As := [.ref h1, .int (nI 2)]) (rest := []) ⟨hx, hb, hml, hown, hts⟩ (met_half l D h1 d1 8 b 2 (by omega) (by omega)) (va_cwS 2 hts (lw_S q336 q337 q14 q338) rfl rfl rfl (by decide +kernel) ⟨Nat.le_of_ble_eq_true rfl, Nat.le_of_ble_eq_true rfl⟩) ⟨im_Pr.blind, im_Pr.of hPc hKc⟩ rfl rfl hl.1 rfl (lv_room (Nat.le_of_ble_eq_true rfl)) dX1_runs_14 ⟨Nat.le_of_ble_eq_true rfl, Nat.le_of_ble_eq_true rfl⟩) (fun r_14 hr_14 => ?_)
  have hr_14 : r_14 = nI (wd b 2) := hr_14
  subst hr_14
  refine lv_istore_n (lv' := [(3, .int (nI (wd b 2))), (2, .int (nI (wd b 0))), (0, .ref h0), (1, .ref h3)]) hx hb dX1_runs_17 rfl hl (by decide) rfl (fun ls hl => ?_)
  refine lv_aload_n hx hb dX1_runs_18 rfl (lv_at hl 2 rfl) ?_
  refine va_get (ci := 1) (v := .ref h1) (C := RX1) (T := TX1) (N := 3) hx hb hts in_X1 hown hK hP 0 rfl rfl 1 (by decide) (hts _ q304) (fun _ h9 => h9) rfl dX1_runs_19 ?_
  refine lv_iconst (v := nI 4) hx hb dX1_runs_22 (by decide) ?_
  have hPc := hP.sub (ws' := [(h1, .inl (d1, 8, .inl b))]) [1] rfl
  have hKc := hK.sub (tys' := [(d1, .byte)]) [0] rfl
  refine vp_callSi (W.runS (As := [.ref h1, .int (nI 4)]) (rest := []) ⟨hx, hb, hml, hown, hts⟩ (met_half l D h1 d1 8 b 4 (by omega) (by omega)) (va_cwS 2 hts (lw_S q336 q337 q14 q338) rfl rfl rfl (by decide +kernel) ⟨Nat.le_of_ble_eq_true rfl, Nat.le_of_ble_eq_true rfl⟩) ⟨im_Pr.blind, im_Pr.of hPc hKc⟩ rfl rfl hl.1 rfl (lv_room (Nat.le_of_ble_eq_true rfl)) dX1_runs_23 ⟨Nat.le_of_ble_eq_true rfl, Nat.le_of_ble_eq_true rfl⟩) (fun r_23 hr_23 => ?_)
  have hr_23 : r_23 = nI (wd b 4) := hr_23
  subst hr_23
  refine lv_istore (lv' := [(4, .int (nI (wd b 4))), (3, .int (nI (wd b 2))), (2, .int (nI (wd b 0))), (0, .ref h0), (1, .ref h3)]) hx hb dX1_runs_26 hl (by decide) rfl (fun ls hl => ?_)
  refine lv_aload_n hx hb dX1_runs_28 rfl (lv_at hl 3 rfl) ?_
  refine va_get (ci := 1) (v := .ref h1) (C := RX1) (T := TX1) (N := 3) hx hb hts in_X1 hown hK hP 0 rfl rfl 1 (by decide) (hts _ q304) (fun _ h9 => h9) rfl dX1_runs_29 ?_
  refine lv_bipush (v := nI 6) hx hb dX1_runs_32 (by decide) ?_
  have hPc := hP.sub (ws' := [(h1, .inl (d1, 8, .inl b))]) [1] rfl
  have hKc := hK.sub (tys' := [(d1, .byte)]) [0] rfl
  refine vp_callSi (W.runS (As := [.ref h1, .int (nI 6)]) (rest := []) ⟨hx, hb, hml, hown, hts⟩ (met_half l D h1 d1 8 b 6 (by omega) (by omega)) (va_cwS 2 hts (lw_S q336 q337 q14 q338) rfl rfl rfl (by decide +kernel) ⟨Nat.le_of_ble_eq_true rfl, Nat.le_of_ble_eq_true rfl⟩) ⟨im_Pr.blind, im_Pr.of hPc hKc⟩ rfl rfl hl.1 rfl (lv_room (Nat.le_of_ble_eq_true rfl)) dX1_runs_34 ⟨Nat.le_of_ble_eq_true rfl, Nat.le_of_ble_eq_true rfl⟩) (fun r_34 hr_34 => ?_)
  have hr_34 : r_34 = nI (wd b 6) := hr_34
  subst hr_34
  refine lv_istore (lv' := [(5, .int (nI (wd b 6))), (4, .int (nI (wd b 4))), (3, .int (nI (wd b 2))), (2, .int (nI (wd b 0))), (0, .ref h0), (1, .ref h3)]) hx hb dX1_runs_37 hl (by decide) rfl (fun ls hl => ?_)
  refine lv_iconst (v := nI 0) hx hb dX1_runs_39 (by decide) ?_
  refine lv_istore (lv' := [(6, .int (nI 0)), (5, .int (nI (wd b 6))), (4, .int (nI (wd b 4))), (3, .int (nI (wd b 2))), (2, .int (nI (wd b 0))), (0, .ref h0), (1, .ref h3)]) hx hb dX1_runs_40 hl (by decide) rfl (fun ls hl => ?_)
  refine im_loop (fun n H locs ls => ∃ (r a x c1 d : Nat), r + n = 8 ∧ (a, x, c1, d) = rnds K (v0 b) r ∧ a < 65536 ∧ x < 65536 ∧ c1 < 65536 ∧ d < 65536 ∧ H = s.heap ∧ locs = [] ∧ lv_has ls 10 [(0, .ref h0), (1, .ref h3), (2, .int (nI a)), (3, .int (nI x)), (4, .int (nI c1)), (5, .int (nI d)), (6, .int (nI (6 * r)))]) ?_ ?_ (8) _ _ _ ⟨0, wd b 0, wd b 2, wd b 4, wd b 6, rfl, rfl, wd_lt b 0, wd_lt b 2, wd_lt b 4, wd_lt b 6, rfl, rfl, lv_sub hl [5, 6, 4, 3, 2, 1, 0] rfl⟩
  · intro H locs ls hI
    obtain ⟨r, a, x, c1, d, hrn, hv, la, lx, lc, ld, rfl, rfl, hl⟩ := hI
    refine lv_iload hx hb dX1_runs_42 (lv_at hl 6 rfl) ?_
    refine lv_bipush (v := nI 48) hx hb dX1_runs_44 (by decide) ?_
    refine lv_icmp_ge (tgt := 177) hx hb dX1_runs_46 (by decide) (fun c_46 => ?_) (fun c_46 => ?_)
    · have c_46 : 48 ≤ (6 * r) := (nI_leI (a := 48) (b := 6 * r) (by omega) (by omega)).mp c_46
      obtain rfl : r = 8 := by omega
      refine lv_iconst (v := nI 4) hx hb dX1_runs_177 (by decide) ?_
      refine va_newa (atype := .int) (ty := .int) (N' := 4) (a0 := (4, .inl (fun _ => 0))) hx hb (hts _ q210) rfl hK hP hD hS hA (fun _ => rfl) (nI_pos (n := 4) (by omega)) (nI_clamp (n := 4) (by omega)) (Nat.le_of_ble_eq_true rfl) (Nat.le_of_ble_eq_true rfl) (Nat.le_of_ble_eq_true rfl) dX1_runs_178 (fun a_178 da_178 H hK hP hD hS => ?_)
      have hK : va_K D vwCl [(d1, .byte), (d2, .byte), (d3, .int), (da_178, .int)] s := hK
      have hP : va_P D vwCl [(h0, .inr (1, [.ref hk, .ref h1, .ref h2])), (h1, .inl (d1, 8, .inl b)), (h2, .inl (d2, 8, .inl g)), (h3, .inl (d3, 52, .inl f)), (a_178, .inl (da_178, 4, .inl (fun _ => 0)))] H := hP
      have hD : va_D A [(h0, .inr (1, [.ref hk, .ref h1, .ref h2])), (h1, .inl (d1, 8, .inl b)), (h2, .inl (d2, 8, .inl g)), (h3, .inl (d3, 52, .inl f)), (a_178, .inl (da_178, 4, .inl (fun _ => 0)))] := hD
      refine lv_dup hx hb dX1_runs_180 rfl ?_
      refine lv_iconst (v := nI 0) hx hb dX1_runs_181 (by decide) ?_
      refine lv_iload_n hx hb dX1_runs_182 rfl (lv_at hl 2 rfl) ?_
      refine lv_aload_n hx hb dX1_runs_183 rfl (lv_at hl 1 rfl) ?_
      refine lv_bipush (v := nI 48) hx hb dX1_runs_184 (by decide) ?_
      refine im_iald hx hb hK hP 3 2 rfl rfl (i := 48) (by omega) (by omega) (v := nI (K 48)) (hf _ (by omega)) dX1_runs_186 ?_
      refine vp_callSi (W.runS (As := [.int (nI a), .int (nI (K 48))]) (rest := [.int (nI 0), .ref a_178, .ref a_178]) ⟨hx, hb, hml, hown, hts⟩ (met_times l la (hKl _)) (va_cwS 2 hts (lw_S q339 q340 q14 q341) rfl rfl rfl (by decide +kernel) ⟨Nat.le_of_ble_eq_true rfl, Nat.le_of_ble_eq_true rfl⟩) ⟨im_P0.blind, im_P0.of⟩ rfl rfl hl.1 rfl (lv_room (Nat.le_of_ble_eq_true rfl)) dX1_runs_187 ⟨Nat.le_of_ble_eq_true rfl, Nat.le_of_ble_eq_true rfl⟩) (fun r_187 hr_187 => ?_)
      have hr_187 : r_187 = nI (mulS a (K 48)) := hr_187
      subst hr_187
      obtain ⟨w0, hw0⟩ : ∃ z : Nat, z = mulS a (K 48) := ⟨_, rfl⟩
      refine im_top (y := nI w0) (by rw [hw0]) ?_
      have lw0 : w0 < 65536 := by rw [hw0]; exact mulS_lt _ _
      refine im_iast hx hb hK hP hD hS 4 3 rfl rfl (i := 0) (by omega) (by omega) dX1_runs_190 (fun g_190 H locs eg_190 hP hD hS => ?_)
      have hP : va_P D vwCl [(h0, .inr (1, [.ref hk, .ref h1, .ref h2])), (h1, .inl (d1, 8, .inl b)), (h2, .inl (d2, 8, .inl g)), (h3, .inl (d3, 52, .inl f)), (a_178, .inl (da_178, 4, .inl g_190))] H := hP
      have hD : va_D A [(h0, .inr (1, [.ref hk, .ref h1, .ref h2])), (h1, .inl (d1, 8, .inl b)), (h2, .inl (d2, 8, .inl g)), (h3, .inl (d3, 52, .inl f)), (a_178, .inl (da_178, 4, .inl g_190))] := hD
      refine lv_dup hx hb dX1_runs_191 rfl ?_
      refine lv_iconst (v := nI 1) hx hb dX1_runs_192 (by decide) ?_
      refine lv_iload hx hb dX1_runs_193 (lv_at hl 4 rfl) ?_
      refine lv_aload_n hx hb dX1_runs_195 rfl (lv_at hl 1 rfl) ?_
      refine lv_bipush (v := nI 49) hx hb dX1_runs_196 (by decide) ?_
      refine im_iald hx hb hK hP 3 2 rfl rfl (i := 49) (by omega) (by omega) (v := nI (K 49)) (hf _ (by omega)) dX1_runs_198 ?_
      refine lv_iadd hx hb dX1_runs_199 ?_
      refine im_top (y := nI (c1 + (K 49))) (nI_add c1 (K 49)) ?_
      refine lv_ldc hx hb hown (hts _ q344) dX1_runs_200 ?_
      refine lv_iand hx hb dX1_runs_202 ?_
      refine im_top (y := nI ((c1 + (K 49)) % 65536)) (nx_mod (c1 + (K 49))) ?_
      obtain ⟨w1, hw1⟩ : ∃ z : Nat, z = (c1 + (K 49)) % 65536 := ⟨_, rfl⟩
      refine im_top (y := nI w1) (by rw [hw1]) ?_
      have lw1 : w1 < 65536 := by rw [hw1]; exact Nat.mod_lt _ (by decide)
      refine im_iast hx hb hK hP hD hS 4 3 rfl rfl (i := 1) (by omega) (by omega) dX1_runs_203 (fun g_203 H locs eg_203 hP hD hS => ?_)
      have hP : va_P D vwCl [(h0, .inr (1, [.ref hk, .ref h1, .ref h2])), (h1, .inl (d1, 8, .inl b)), (h2, .inl (d2, 8, .inl g)), (h3, .inl (d3, 52, .inl f)), (a_178, .inl (da_178, 4, .inl g_203))] H := hP
      have hD : va_D A [(h0, .inr (1, [.ref hk, .ref h1, .ref h2])), (h1, .inl (d1, 8, .inl b)), (h2, .inl (d2, 8, .inl g)), (h3, .inl (d3, 52, .inl f)), (a_178, .inl (da_178, 4, .inl g_203))] := hD
      refine lv_dup hx hb dX1_runs_204 rfl ?_
      refine lv_iconst (v := nI 2) hx hb dX1_runs_205 (by decide) ?_
      refine lv_iload_n hx hb dX1_runs_206 rfl (lv_at hl 3 rfl) ?_
      refine lv_aload_n hx hb dX1_runs_207 rfl (lv_at hl 1 rfl) ?_
      refine lv_bipush (v := nI 50) hx hb dX1_runs_208 (by decide) ?_
      refine im_iald hx hb hK hP 3 2 rfl rfl (i := 50) (by omega) (by omega) (v := nI (K 50)) (hf _ (by omega)) dX1_runs_210 ?_
      refine lv_iadd hx hb dX1_runs_211 ?_
      refine im_top (y := nI (x + (K 50))) (nI_add x (K 50)) ?_
      refine lv_ldc hx hb hown (hts _ q344) dX1_runs_212 ?_
      refine lv_iand hx hb dX1_runs_214 ?_
      refine im_top (y := nI ((x + (K 50)) % 65536)) (nx_mod (x + (K 50))) ?_
      obtain ⟨w2, hw2⟩ : ∃ z : Nat, z = (x + (K 50)) % 65536 := ⟨_, rfl⟩
      refine im_top (y := nI w2) (by rw [hw2]) ?_
      have lw2 : w2 < 65536 := by rw [hw2]; exact Nat.mod_lt _ (by decide)
      refine im_iast hx hb hK hP hD hS 4 3 rfl rfl (i := 2) (by omega) (by omega) dX1_runs_215 (fun g_215 H locs eg_215 hP hD hS => ?_)
      have hP : va_P D vwCl [(h0, .inr (1, [.ref hk, .ref h1, .ref h2])), (h1, .inl (d1, 8, .inl b)), (h2, .inl (d2, 8, .inl g)), (h3, .inl (d3, 52, .inl f)), (a_178, .inl (da_178, 4, .inl g_215))] H := hP
      have hD : va_D A [(h0, .inr (1, [.ref hk, .ref h1, .ref h2])), (h1, .inl (d1, 8, .inl b)), (h2, .inl (d2, 8, .inl g)), (h3, .inl (d3, 52, .inl f)), (a_178, .inl (da_178, 4, .inl g_215))] := hD
      refine lv_dup hx hb dX1_runs_216 rfl ?_
      refine lv_iconst (v := nI 3) hx hb dX1_runs_217 (by decide) ?_
      refine lv_iload hx hb dX1_runs_218 (lv_at hl 5 rfl) ?_
      refine lv_aload_n hx hb dX1_runs_220 rfl (lv_at hl 1 rfl) ?_
      refine lv_bipush (v := nI 51) hx hb dX1_runs_221 (by decide) ?_
      refine im_iald hx hb hK hP 3 2 rfl rfl (i := 51) (by omega) (by omega) (v := nI (K 51)) (hf _ (by omega)) dX1_runs_223 ?_
      refine vp_callSi (W.runS (As := [.int (nI d), .int (nI (K 51))]) (rest := [.int (nI 3), .ref a_178, .ref a_178]) ⟨hx, hb, hml, hown, hts⟩ (met_times l ld (hKl _)) (va_cwS 2 hts (lw_S q339 q340 q14 q341) rfl rfl rfl (by decide +kernel) ⟨Nat.le_of_ble_eq_true rfl, Nat.le_of_ble_eq_true rfl⟩) ⟨im_P0.blind, im_P0.of⟩ rfl rfl hl.1 rfl (lv_room (Nat.le_of_ble_eq_true rfl)) dX1_runs_224 ⟨Nat.le_of_ble_eq_true rfl, Nat.le_of_ble_eq_true rfl⟩) (fun r_224 hr_224 => ?_)
      have hr_224 : r_224 = nI (mulS d (K 51)) := hr_224
      subst hr_224
      obtain ⟨w3, hw3⟩ : ∃ z : Nat, z = mulS d (K 51) := ⟨_, rfl⟩
      refine im_top (y := nI w3) (by rw [hw3]) ?_
      have lw3 : w3 < 65536 := by rw [hw3]; exact mulS_lt _ _
      refine im_iast hx hb hK hP hD hS 4 3 rfl rfl (i := 3) (by omega) (by omega) dX1_runs_227 (fun g_227 H locs eg_227 hP hD hS => ?_)
      have hP : va_P D vwCl [(h0, .inr (1, [.ref hk, .ref h1, .ref h2])), (h1, .inl (d1, 8, .inl b)), (h2, .inl (d2, 8, .inl g)), (h3, .inl (d3, 52, .inl f)), (a_178, .inl (da_178, 4, .inl g_227))] H := hP
      have hD : va_D A [(h0, .inr (1, [.ref hk, .ref h1, .ref h2])), (h1, .inl (d1, 8, .inl b)), (h2, .inl (d2, 8, .inl g)), (h3, .inl (d3, 52, .inl f)), (a_178, .inl (da_178, 4, .inl g_227))] := hD
      refine lv_astore (lv' := [(6, .ref a_178), (0, .ref h0), (1, .ref h3), (2, .int (nI a)), (3, .int (nI x)), (4, .int (nI c1)), (5, .int (nI d))]) hx hb dX1_runs_228 hl (by decide) rfl (fun ls hl => ?_)
      refine lv_iconst (v := nI 0) hx hb dX1_runs_230 (by decide) ?_
      refine lv_istore (lv' := [(7, .int (nI 0)), (6, .ref a_178), (0, .ref h0), (1, .ref h3), (2, .int (nI a)), (3, .int (nI x)), (4, .int (nI c1)), (5, .int (nI d))]) hx hb dX1_runs_231 hl (by decide) rfl (fun ls hl => ?_)
      have hz4 := im_four eg_190 eg_203 eg_215 eg_227
      have hwv : (w0, w1, w2, w3) = enc K b := by unfold enc; rw [← hv, hw0, hw1, hw2, hw3]; rfl
      have hwl := im_wsel lw0 lw1 lw2 lw3
      refine im_loop (fun n H locs ls => ∃ (k : Nat) (y : Nat → Int32), k + n = 8 ∧ y = ouN (w0, w1, w2, w3) g k ∧ va_P D vwCl [(h0, .inr (1, [.ref hk, .ref h1, .ref h2])), (h1, .inl (d1, 8, .inl b)), (h2, .inl (d2, 8, .inl y)), (h3, .inl (d3, 52, .inl f)), (a_178, .inl (da_178, 4, .inl g_227))] H ∧ va_D A [(h0, .inr (1, [.ref hk, .ref h1, .ref h2])), (h1, .inl (d1, 8, .inl b)), (h2, .inl (d2, 8, .inl y)), (h3, .inl (d3, 52, .inl f)), (a_178, .inl (da_178, 4, .inl g_227))] ∧ va_S A s.heap H locs ∧ lv_has ls 10 [(0, .ref h0), (6, .ref a_178), (7, .int (nI k))]) ?_ ?_ (8) _ _ _ ⟨0, g, rfl, rfl, hP.sub [0, 1, 2, 3, 4] rfl, hD.sub [0, 1, 2, 3, 4] (by decide) rfl, hS, lv_sub hl [2, 1, 0] rfl⟩
      · intro H locs ls hI
        obtain ⟨k, y, hkn, hy, hP, hD, hS, hl⟩ := hI
        refine lv_iload hx hb dX1_runs_233 (lv_at hl 2 rfl) ?_
        refine lv_bipush (v := nI 8) hx hb dX1_runs_235 (by decide) ?_
        refine lv_icmp_ge (tgt := 272) hx hb dX1_runs_237 (by decide) (fun c_237 => ?_) (fun c_237 => ?_)
        · have c_237 : 8 ≤ k := (nI_leI (a := 8) (b := k) (by omega) (by omega)).mp c_237
          obtain rfl : k = 8 := by omega
          have hP9 := hP.sub (ws' := [(h0, .inr (1, [.ref hk, .ref h1, .ref h2])), (h1, .inl (d1, 8, .inl b)), (h2, .inl (d2, 8, .inl y)), (h3, .inl (d3, 52, .inl f))]) [0, 1, 2, 3] rfl
          have hD9 := hD.sub (ws' := [(h0, .inr (1, [.ref hk, .ref h1, .ref h2])), (h1, .inl (d1, 8, .inl b)), (h2, .inl (d2, 8, .inl y)), (h3, .inl (d3, 52, .inl f))]) [0, 1, 2, 3] (by decide) rfl
          refine W.widen (k := 1) (n := 4) (Nat.le_of_ble_eq_true rfl) (Nat.le_of_ble_eq_true rfl) ?_
          exact W.vret hx hb hr (fun t ht hW => ⟨⟨y, rfl, by rw [hy, hwv, ouN_8]; rfl, by rw [ht]; exact hP9, hD9⟩, hS.F ht⟩) hS.2.2 dX1_runs_272
        · have c_237 : ¬ (8 ≤ k) := fun z => c_237 ((nI_leI (a := 8) (b := k) (by omega) (by omega)).mpr z)
          exfalso
          omega
      · intro n ih H locs ls hI
        obtain ⟨k, y, hkn, hy, hP, hD, hS, hl⟩ := hI
        refine lv_iload hx hb dX1_runs_233 (lv_at hl 2 rfl) ?_
        refine lv_bipush (v := nI 8) hx hb dX1_runs_235 (by decide) ?_
        refine lv_icmp_ge (tgt := 272) hx hb dX1_runs_237 (by decide) (fun c_237 => ?_) (fun c_237 => ?_)
        · have c_237 : 8 ≤ k := (nI_leI (a := 8) (b := k) (by omega) (by omega)).mp c_237
          exfalso
          omega
        · have c_237 : ¬ (8 ≤ k) := fun z => c_237 ((nI_leI (a := 8) (b := k) (by omega) (by omega)).mpr z)
          refine lv_aload_n hx hb dX1_runs_240 rfl (lv_at hl 0 rfl) ?_
          refine va_get (ci := 1) (v := .ref h2) (C := RX1) (T := TX1) (N := 3) hx hb hts in_X1 hown hK hP 0 rfl rfl 2 (by decide) (hts _ q305) (fun _ h9 => h9) rfl dX1_runs_241 ?_
          refine lv_iload hx hb dX1_runs_244 (lv_at hl 2 rfl) ?_
          refine lv_aload hx hb dX1_runs_246 (lv_at hl 1 rfl) ?_
          refine lv_iload hx hb dX1_runs_248 (lv_at hl 2 rfl) ?_
          refine lv_iconst (v := nI 2) hx hb dX1_runs_250 (by decide) ?_
          refine lv_idiv hx hb dX1_runs_251 (nI_ne0 (n := 2) (by omega) (by omega)) ?_
          refine im_top (y := nI (k / 2)) (pk_div (a := k) (d := 2) (by omega) (by omega) (by omega)) ?_
          refine im_iald hx hb hK hP 4 3 rfl rfl (i := k / 2) (by omega) (by omega) (v := nI (wsel (w0, w1, w2, w3) (k / 2))) (hz4 _ (by omega)) dX1_runs_252 ?_
          refine lv_bipush (v := nI 8) hx hb dX1_runs_253 (by decide) ?_
          refine lv_bipush (v := nI 8) hx hb dX1_runs_255 (by decide) ?_
          refine lv_iload hx hb dX1_runs_257 (lv_at hl 2 rfl) ?_
          refine lv_iconst (v := nI 2) hx hb dX1_runs_259 (by decide) ?_
          refine lv_irem hx hb dX1_runs_260 (nI_ne0 (n := 2) (by omega) (by omega)) ?_
          refine im_top (y := nI (k % 2)) (pk_rem (a := k) (d := 2) (by omega) (by omega) (by omega)) ?_
          refine lv_imul hx hb dX1_runs_261 ?_
          refine im_top (y := nI (8 * (k % 2))) (pk_mul 8 (k % 2)) ?_
          refine lv_isub hx hb dX1_runs_262 ?_
          refine im_top (y := nI (8 - (8 * (k % 2)))) (pk_sub (a := 8) (b := 8 * (k % 2)) (by omega)) ?_
          refine lv_ishr hx hb dX1_runs_263 ?_
          refine lv_i2b hx hb dX1_runs_264 rfl ?_
          refine im_top (y := obS (wsel (w0, w1, w2, w3) (k / 2)) k) (obS_eq k (hwl (k / 2))) ?_
          refine im_bast hx hb hK hP hD hS 2 1 rfl rfl (i := k) (by omega) (by omega) (y := obS (wsel (w0, w1, w2, w3) (k / 2)) k) (obS_nar _ _) dX1_runs_265 (fun g_265 H locs eg_265 hP hD hS => ?_)
          have hP : va_P D vwCl [(h0, .inr (1, [.ref hk, .ref h1, .ref h2])), (h1, .inl (d1, 8, .inl b)), (h2, .inl (d2, 8, .inl g_265)), (h3, .inl (d3, 52, .inl f)), (a_178, .inl (da_178, 4, .inl g_227))] H := hP
          have hD : va_D A [(h0, .inr (1, [.ref hk, .ref h1, .ref h2])), (h1, .inl (d1, 8, .inl b)), (h2, .inl (d2, 8, .inl g_265)), (h3, .inl (d3, 52, .inl f)), (a_178, .inl (da_178, 4, .inl g_227))] := hD
          refine lv_iinc (v := nI (k + 1)) (lv' := [(7, .int (nI (k + 1))), (0, .ref h0), (6, .ref a_178)]) hx hb dX1_runs_266 hl (k := 2) rfl (nI_1 k) (by decide) rfl (fun ls hl => ?_)
          refine lv_goto (tgt := 233) hx hb dX1_runs_269 (by decide) ?_
          exact ih _ _ _ ⟨k + 1, g_265, by omega, by rw [eg_265, hy]; rfl, hP.sub [0, 1, 2, 3, 4] rfl, hD.sub [0, 1, 2, 3, 4] (by decide) rfl, hS, lv_sub hl [1, 2, 0] rfl⟩
    · have c_46 : ¬ (48 ≤ (6 * r)) := fun z => c_46 ((nI_leI (a := 48) (b := 6 * r) (by omega) (by omega)).mpr z)
      exfalso
      omega
  · intro n ih H locs ls hI
    obtain ⟨r, a, x, c1, d, hrn, hv, la, lx, lc, ld, rfl, rfl, hl⟩ := hI
    refine lv_iload hx hb dX1_runs_42 (lv_at hl 6 rfl) ?_
    refine lv_bipush (v := nI 48) hx hb dX1_runs_44 (by decide) ?_
    refine lv_icmp_ge (tgt := 177) hx hb dX1_runs_46 (by decide) (fun c_46 => ?_) (fun c_46 => ?_)
    · have c_46 : 48 ≤ (6 * r) := (nI_leI (a := 48) (b := 6 * r) (by omega) (by omega)).mp c_46
      exfalso
      omega
    · have c_46 : ¬ (48 ≤ (6 * r)) := fun z => c_46 ((nI_leI (a := 48) (b := 6 * r) (by omega) (by omega)).mpr z)
      refine lv_iload_n hx hb dX1_runs_49 rfl (lv_at hl 2 rfl) ?_
      refine lv_aload_n hx hb dX1_runs_50 rfl (lv_at hl 1 rfl) ?_
      refine lv_iload hx hb dX1_runs_51 (lv_at hl 6 rfl) ?_
      refine im_iald hx hb hK hP 3 2 rfl rfl (i := 6 * r) (by omega) (by omega) (v := nI (K (6 * r))) (hf _ (by omega)) dX1_runs_53 ?_
      refine vp_callSi (W.runS (As := [.int (nI a), .int (nI (K (6 * r)))]) (rest := []) ⟨hx, hb, hml, hown, hts⟩ (met_times l la (hKl _)) (va_cwS 2 hts (lw_S q339 q340 q14 q341) rfl rfl rfl (by decide +kernel) ⟨Nat.le_of_ble_eq_true rfl, Nat.le_of_ble_eq_true rfl⟩) ⟨im_P0.blind, im_P0.of⟩ rfl rfl hl.1 rfl (lv_room (Nat.le_of_ble_eq_true rfl)) dX1_runs_54 ⟨Nat.le_of_ble_eq_true rfl, Nat.le_of_ble_eq_true rfl⟩) (fun r_54 hr_54 => ?_)
      have hr_54 : r_54 = nI (mulS a (K (6 * r))) := hr_54
      subst hr_54
      obtain ⟨a1, ha1⟩ : ∃ z : Nat, z = mulS a (K (6 * r)) := ⟨_, rfl⟩
      refine im_top (y := nI a1) (by rw [ha1]) ?_
      have la1 : a1 < 65536 := by rw [ha1]; exact mulS_lt _ _
      refine lv_istore_n (lv' := [(2, .int (nI a1)), (0, .ref h0), (1, .ref h3), (3, .int (nI x)), (4, .int (nI c1)), (5, .int (nI d)), (6, .int (nI (6 * r)))]) hx hb dX1_runs_57 rfl hl (by decide) rfl (fun ls hl => ?_)
      refine lv_iload_n hx hb dX1_runs_58 rfl (lv_at hl 3 rfl) ?_
      refine lv_aload_n hx hb dX1_runs_59 rfl (lv_at hl 2 rfl) ?_
      refine lv_iload hx hb dX1_runs_60 (lv_at hl 6 rfl) ?_
      refine lv_iconst (v := nI 1) hx hb dX1_runs_62 (by decide) ?_
      refine lv_iadd hx hb dX1_runs_63 ?_
      refine im_top (y := nI (6 * r + 1)) (nI_add (6 * r) 1) ?_
      refine im_iald hx hb hK hP 3 2 rfl rfl (i := 6 * r + 1) (by omega) (by omega) (v := nI (K (6 * r + 1))) (hf _ (by omega)) dX1_runs_64 ?_
      refine lv_iadd hx hb dX1_runs_65 ?_
      refine im_top (y := nI (x + (K (6 * r + 1)))) (nI_add x (K (6 * r + 1))) ?_
      refine lv_ldc hx hb hown (hts _ q344) dX1_runs_66 ?_
      refine lv_iand hx hb dX1_runs_68 ?_
      refine im_top (y := nI ((x + (K (6 * r + 1))) % 65536)) (nx_mod (x + (K (6 * r + 1)))) ?_
      obtain ⟨x1, hx1⟩ : ∃ z : Nat, z = (x + (K (6 * r + 1))) % 65536 := ⟨_, rfl⟩
      refine im_top (y := nI x1) (by rw [hx1]) ?_
      have lx1 : x1 < 65536 := by rw [hx1]; exact Nat.mod_lt _ (by decide)
      refine lv_istore_n (lv' := [(3, .int (nI x1)), (2, .int (nI a1)), (0, .ref h0), (1, .ref h3), (4, .int (nI c1)), (5, .int (nI d)), (6, .int (nI (6 * r)))]) hx hb dX1_runs_69 rfl hl (by decide) rfl (fun ls hl => ?_)
      refine lv_iload hx hb dX1_runs_70 (lv_at hl 4 rfl) ?_
      refine lv_aload_n hx hb dX1_runs_72 rfl (lv_at hl 3 rfl) ?_
      refine lv_iload hx hb dX1_runs_73 (lv_at hl 6 rfl) ?_
      refine lv_iconst (v := nI 2) hx hb dX1_runs_75 (by decide) ?_
      refine lv_iadd hx hb dX1_runs_76 ?_
      refine im_top (y := nI (6 * r + 2)) (nI_add (6 * r) 2) ?_
      refine im_iald hx hb hK hP 3 2 rfl rfl (i := 6 * r + 2) (by omega) (by omega) (v := nI (K (6 * r + 2))) (hf _ (by omega)) dX1_runs_77 ?_
      refine lv_iadd hx hb dX1_runs_78 ?_
      refine im_top (y := nI (c1 + (K (6 * r + 2)))) (nI_add c1 (K (6 * r + 2))) ?_
      refine lv_ldc hx hb hown (hts _ q344) dX1_runs_79 ?_
      refine lv_iand hx hb dX1_runs_81 ?_
      refine im_top (y := nI ((c1 + (K (6 * r + 2))) % 65536)) (nx_mod (c1 + (K (6 * r + 2)))) ?_
      obtain ⟨c2, hc2⟩ : ∃ z : Nat, z = (c1 + (K (6 * r + 2))) % 65536 := ⟨_, rfl⟩
      refine im_top (y := nI c2) (by rw [hc2]) ?_
      have lc2 : c2 < 65536 := by rw [hc2]; exact Nat.mod_lt _ (by decide)
      refine lv_istore (lv' := [(4, .int (nI c2)), (3, .int (nI x1)), (2, .int (nI a1)), (0, .ref h0), (1, .ref h3), (5, .int (nI d)), (6, .int (nI (6 * r)))]) hx hb dX1_runs_82 hl (by decide) rfl (fun ls hl => ?_)
      refine lv_iload hx hb dX1_runs_84 (lv_at hl 5 rfl) ?_
      refine lv_aload_n hx hb dX1_runs_86 rfl (lv_at hl 4 rfl) ?_
      refine lv_iload hx hb dX1_runs_87 (lv_at hl 6 rfl) ?_
      refine lv_iconst (v := nI 3) hx hb dX1_runs_89 (by decide) ?_
      refine lv_iadd hx hb dX1_runs_90 ?_
      refine im_top (y := nI (6 * r + 3)) (nI_add (6 * r) 3) ?_
      refine im_iald hx hb hK hP 3 2 rfl rfl (i := 6 * r + 3) (by omega) (by omega) (v := nI (K (6 * r + 3))) (hf _ (by omega)) dX1_runs_91 ?_
      refine vp_callSi (W.runS (As := [.int (nI d), .int (nI (K (6 * r + 3)))]) (rest := []) ⟨hx, hb, hml, hown, hts⟩ (met_times l ld (hKl _)) (va_cwS 2 hts (lw_S q339 q340 q14 q341) rfl rfl rfl (by decide +kernel) ⟨Nat.le_of_ble_eq_true rfl, Nat.le_of_ble_eq_true rfl⟩) ⟨im_P0.blind, im_P0.of⟩ rfl rfl hl.1 rfl (lv_room (Nat.le_of_ble_eq_true rfl)) dX1_runs_92 ⟨Nat.le_of_ble_eq_true rfl, Nat.le_of_ble_eq_true rfl⟩) (fun r_92 hr_92 => ?_)
      have hr_92 : r_92 = nI (mulS d (K (6 * r + 3))) := hr_92
      subst hr_92
      obtain ⟨d1_, hd1_⟩ : ∃ z : Nat, z = mulS d (K (6 * r + 3)) := ⟨_, rfl⟩
      refine im_top (y := nI d1_) (by rw [hd1_]) ?_
      have ld1_ : d1_ < 65536 := by rw [hd1_]; exact mulS_lt _ _
      refine lv_istore (lv' := [(5, .int (nI d1_)), (4, .int (nI c2)), (3, .int (nI x1)), (2, .int (nI a1)), (0, .ref h0), (1, .ref h3), (6, .int (nI (6 * r)))]) hx hb dX1_runs_95 hl (by decide) rfl (fun ls hl => ?_)
      refine lv_iload_n hx hb dX1_runs_97 rfl (lv_at hl 3 rfl) ?_
      refine lv_iload hx hb dX1_runs_98 (lv_at hl 1 rfl) ?_
      refine lv_ixor hx hb dX1_runs_100 ?_
      refine im_top (y := nI (a1 ^^^ c2)) (nx_xor a1 c2) ?_
      refine lv_aload_n hx hb dX1_runs_101 rfl (lv_at hl 5 rfl) ?_
      refine lv_iload hx hb dX1_runs_102 (lv_at hl 6 rfl) ?_
      refine lv_iconst (v := nI 4) hx hb dX1_runs_104 (by decide) ?_
      refine lv_iadd hx hb dX1_runs_105 ?_
      refine im_top (y := nI (6 * r + 4)) (nI_add (6 * r) 4) ?_
      refine im_iald hx hb hK hP 3 2 rfl rfl (i := 6 * r + 4) (by omega) (by omega) (v := nI (K (6 * r + 4))) (hf _ (by omega)) dX1_runs_106 ?_
      refine vp_callSi (W.runS (As := [.int (nI (a1 ^^^ c2)), .int (nI (K (6 * r + 4)))]) (rest := []) ⟨hx, hb, hml, hown, hts⟩ (met_times l (im_x16 la1 lc2) (hKl _)) (va_cwS 2 hts (lw_S q339 q340 q14 q341) rfl rfl rfl (by decide +kernel) ⟨Nat.le_of_ble_eq_true rfl, Nat.le_of_ble_eq_true rfl⟩) ⟨im_P0.blind, im_P0.of⟩ rfl rfl hl.1 rfl (lv_room (Nat.le_of_ble_eq_true rfl)) dX1_runs_107 ⟨Nat.le_of_ble_eq_true rfl, Nat.le_of_ble_eq_true rfl⟩) (fun r_107 hr_107 => ?_)
      have hr_107 : r_107 = nI (mulS (a1 ^^^ c2) (K (6 * r + 4))) := hr_107
      subst hr_107
      obtain ⟨p0, hp0⟩ : ∃ z : Nat, z = mulS (a1 ^^^ c2) (K (6 * r + 4)) := ⟨_, rfl⟩
      refine im_top (y := nI p0) (by rw [hp0]) ?_
      have lp0 : p0 < 65536 := by rw [hp0]; exact mulS_lt _ _
      refine lv_istore (lv' := [(7, .int (nI p0)), (5, .int (nI d1_)), (4, .int (nI c2)), (3, .int (nI x1)), (2, .int (nI a1)), (0, .ref h0), (1, .ref h3), (6, .int (nI (6 * r)))]) hx hb dX1_runs_110 hl (by decide) rfl (fun ls hl => ?_)
      refine lv_iload_n hx hb dX1_runs_112 rfl (lv_at hl 3 rfl) ?_
      refine lv_iload hx hb dX1_runs_113 (lv_at hl 1 rfl) ?_
      refine lv_ixor hx hb dX1_runs_115 ?_
      refine im_top (y := nI (x1 ^^^ d1_)) (nx_xor x1 d1_) ?_
      refine lv_iload hx hb dX1_runs_116 (lv_at hl 0 rfl) ?_
      refine lv_iadd hx hb dX1_runs_118 ?_
      refine im_top (y := nI ((x1 ^^^ d1_) + p0)) (nI_add (x1 ^^^ d1_) p0) ?_
      refine lv_ldc hx hb hown (hts _ q344) dX1_runs_119 ?_
      refine lv_iand hx hb dX1_runs_121 ?_
      refine im_top (y := nI (((x1 ^^^ d1_) + p0) % 65536)) (nx_mod ((x1 ^^^ d1_) + p0)) ?_
      refine lv_aload_n hx hb dX1_runs_122 rfl (lv_at hl 6 rfl) ?_
      refine lv_iload hx hb dX1_runs_123 (lv_at hl 7 rfl) ?_
      refine lv_iconst (v := nI 5) hx hb dX1_runs_125 (by decide) ?_
      refine lv_iadd hx hb dX1_runs_126 ?_
      refine im_top (y := nI (6 * r + 5)) (nI_add (6 * r) 5) ?_
      refine im_iald hx hb hK hP 3 2 rfl rfl (i := 6 * r + 5) (by omega) (by omega) (v := nI (K (6 * r + 5))) (hf _ (by omega)) dX1_runs_127 ?_
      refine vp_callSi (W.runS (As := [.int (nI (((x1 ^^^ d1_) + p0) % 65536)), .int (nI (K (6 * r + 5)))]) (rest := []) ⟨hx, hb, hml, hown, hts⟩ (met_times l (Nat.mod_lt _ (by decide)) (hKl _)) (va_cwS 2 hts (lw_S q339 q340 q14 q341) rfl rfl rfl (by decide +kernel) ⟨Nat.le_of_ble_eq_true rfl, Nat.le_of_ble_eq_true rfl⟩) ⟨im_P0.blind, im_P0.of⟩ rfl rfl hl.1 rfl (lv_room (Nat.le_of_ble_eq_true rfl)) dX1_runs_128 ⟨Nat.le_of_ble_eq_true rfl, Nat.le_of_ble_eq_true rfl⟩) (fun r_128 hr_128 => ?_)
      have hr_128 : r_128 = nI (mulS (((x1 ^^^ d1_) + p0) % 65536) (K (6 * r + 5))) := hr_128
      subst hr_128
      obtain ⟨q, hq⟩ : ∃ z : Nat, z = mulS (((x1 ^^^ d1_) + p0) % 65536) (K (6 * r + 5)) := ⟨_, rfl⟩
      refine im_top (y := nI q) (by rw [hq]) ?_
      have lq : q < 65536 := by rw [hq]; exact mulS_lt _ _
      refine lv_istore (lv' := [(8, .int (nI q)), (7, .int (nI p0)), (5, .int (nI d1_)), (4, .int (nI c2)), (3, .int (nI x1)), (2, .int (nI a1)), (0, .ref h0), (1, .ref h3), (6, .int (nI (6 * r)))]) hx hb dX1_runs_131 hl (by decide) rfl (fun ls hl => ?_)
      refine lv_iload hx hb dX1_runs_133 (lv_at hl 1 rfl) ?_
      refine lv_iload hx hb dX1_runs_135 (lv_at hl 0 rfl) ?_
      refine lv_iadd hx hb dX1_runs_137 ?_
      refine im_top (y := nI (p0 + q)) (nI_add p0 q) ?_
      refine lv_ldc hx hb hown (hts _ q344) dX1_runs_138 ?_
      refine lv_iand hx hb dX1_runs_140 ?_
      refine im_top (y := nI ((p0 + q) % 65536)) (nx_mod (p0 + q)) ?_
      obtain ⟨p1, hp1⟩ : ∃ z : Nat, z = (p0 + q) % 65536 := ⟨_, rfl⟩
      refine im_top (y := nI p1) (by rw [hp1]) ?_
      have lp1 : p1 < 65536 := by rw [hp1]; exact Nat.mod_lt _ (by decide)
      refine lv_istore (lv' := [(7, .int (nI p1)), (8, .int (nI q)), (5, .int (nI d1_)), (4, .int (nI c2)), (3, .int (nI x1)), (2, .int (nI a1)), (0, .ref h0), (1, .ref h3), (6, .int (nI (6 * r)))]) hx hb dX1_runs_141 hl (by decide) rfl (fun ls hl => ?_)
      refine lv_iload_n hx hb dX1_runs_143 rfl (lv_at hl 5 rfl) ?_
      refine lv_iload hx hb dX1_runs_144 (lv_at hl 1 rfl) ?_
      refine lv_ixor hx hb dX1_runs_146 ?_
      refine im_top (y := nI (a1 ^^^ q)) (nx_xor a1 q) ?_
      refine lv_istore_n (lv' := [(2, .int (nI (a1 ^^^ q))), (7, .int (nI p1)), (8, .int (nI q)), (5, .int (nI d1_)), (4, .int (nI c2)), (3, .int (nI x1)), (0, .ref h0), (1, .ref h3), (6, .int (nI (6 * r)))]) hx hb dX1_runs_147 rfl hl (by decide) rfl (fun ls hl => ?_)
      refine lv_iload hx hb dX1_runs_148 (lv_at hl 3 rfl) ?_
      refine lv_iload hx hb dX1_runs_150 (lv_at hl 1 rfl) ?_
      refine lv_ixor hx hb dX1_runs_152 ?_
      refine im_top (y := nI (d1_ ^^^ p1)) (nx_xor d1_ p1) ?_
      refine lv_istore (lv' := [(5, .int (nI (d1_ ^^^ p1))), (2, .int (nI (a1 ^^^ q))), (7, .int (nI p1)), (8, .int (nI q)), (4, .int (nI c2)), (3, .int (nI x1)), (0, .ref h0), (1, .ref h3), (6, .int (nI (6 * r)))]) hx hb dX1_runs_153 hl (by decide) rfl (fun ls hl => ?_)
      refine lv_iload_n hx hb dX1_runs_155 rfl (lv_at hl 5 rfl) ?_
      refine lv_iload hx hb dX1_runs_156 (lv_at hl 2 rfl) ?_
      refine lv_ixor hx hb dX1_runs_158 ?_
      refine im_top (y := nI (x1 ^^^ p1)) (nx_xor x1 p1) ?_
      refine lv_istore (lv' := [(9, .int (nI (x1 ^^^ p1))), (5, .int (nI (d1_ ^^^ p1))), (2, .int (nI (a1 ^^^ q))), (7, .int (nI p1)), (8, .int (nI q)), (4, .int (nI c2)), (3, .int (nI x1)), (0, .ref h0), (1, .ref h3), (6, .int (nI (6 * r)))]) hx hb dX1_runs_159 hl (by decide) rfl (fun ls hl => ?_)
      refine lv_iload hx hb dX1_runs_161 (lv_at hl 5 rfl) ?_
      refine lv_iload hx hb dX1_runs_163 (lv_at hl 4 rfl) ?_
      refine lv_ixor hx hb dX1_runs_165 ?_
      refine im_top (y := nI (c2 ^^^ q)) (nx_xor c2 q) ?_
      refine lv_istore_n (lv' := [(3, .int (nI (c2 ^^^ q))), (9, .int (nI (x1 ^^^ p1))), (5, .int (nI (d1_ ^^^ p1))), (2, .int (nI (a1 ^^^ q))), (7, .int (nI p1)), (8, .int (nI q)), (4, .int (nI c2)), (0, .ref h0), (1, .ref h3), (6, .int (nI (6 * r)))]) hx hb dX1_runs_166 rfl hl (by decide) rfl (fun ls hl => ?_)
      refine lv_iload hx hb dX1_runs_167 (lv_at hl 1 rfl) ?_
      refine lv_istore (lv' := [(4, .int (nI (x1 ^^^ p1))), (3, .int (nI (c2 ^^^ q))), (9, .int (nI (x1 ^^^ p1))), (5, .int (nI (d1_ ^^^ p1))), (2, .int (nI (a1 ^^^ q))), (7, .int (nI p1)), (8, .int (nI q)), (0, .ref h0), (1, .ref h3), (6, .int (nI (6 * r)))]) hx hb dX1_runs_169 hl (by decide) rfl (fun ls hl => ?_)
      refine lv_iinc (v := nI (6 * (r + 1))) (lv' := [(6, .int (nI (6 * (r + 1)))), (4, .int (nI (x1 ^^^ p1))), (3, .int (nI (c2 ^^^ q))), (9, .int (nI (x1 ^^^ p1))), (5, .int (nI (d1_ ^^^ p1))), (2, .int (nI (a1 ^^^ q))), (7, .int (nI p1)), (8, .int (nI q)), (0, .ref h0), (1, .ref h3)]) hx hb dX1_runs_171 hl (k := 9) rfl (by rw [show 6 * (r + 1) = 6 * r + 6 by omega]; exact nI_add (6 * r) 6) (by decide) rfl (fun ls hl => ?_)
      refine lv_goto (tgt := 42) hx hb dX1_runs_174 (by decide) ?_
      exact ih _ _ _ ⟨r + 1, a1 ^^^ q, c2 ^^^ q, x1 ^^^ p1, d1_ ^^^ p1, by omega, by rw [rnds_s, ← hv, rnd_eq ha1 hx1 hc2 hd1_ hp0 hq hp1], im_x16 la1 lq, im_x16 lc2 lq, im_x16 lx1 lp1, im_x16 ld1_ lp1, rfl, rfl, lv_sub hl [8, 9, 5, 2, 1, 4, 0] rfl⟩
set_option maxHeartbeats 4000000 in
set_option maxRecDepth 100000 in
/-- IDEAEngine.ideaFunc -/
theorem met_idea (l : Launch) (D : va_G) (sz : Nat) (h0 h1 h2 h3 : Nat) (v1 v2 : Value) (d1 d2 d3 : ClassId) (b g f : Nat → Int32) (K : Nat → Nat) (hf : ∀ i, i < 52 → f i = nI (K i)) (hKl : ∀ i, K i < 65536) : Met l yX2_ideaFunc (ws_ yX2_ideaFunc cX2_ideaFunc 14 none) ({ frames := 1, cells := 0, slots := 0, locals := 23 }) (va_Pc [.ref h0, .ref h3, .ref h1, .int (nI 0), .ref h2, .int (nI 0)] (im_Pw D vwCl [(h0, .inr (2, [v1, v2])), (h3, .inl (d3, 52, .inl f)), (h1, .inl (d1, 8, .inl b)), (h2, .inl (d2, 8, .inl g))] [(d3, .int), (d1, .byte), (d2, .byte)] sz)) (va_Qv (fun (u : Nat → Int32) => u = outS K b g) (im_B D vwCl (va_A [(h0, .inr (2, [v1, v2])), (h3, .inl (d3, 52, .inl f)), (h1, .inl (d1, 8, .inl b)), (h2, .inl (d2, 8, .inl g))] sz) (fun (u : Nat → Int32) => [(h0, .inr (2, [v1, v2])), (h3, .inl (d3, 52, .inl f)), (h1, .inl (d1, 8, .inl b)), (h2, .inl (d2, 8, .inl u))])) (va_A [(h0, .inr (2, [v1, v2])), (h3, .inl (d3, 52, .inl f)), (h1, .inl (d1, 8, .inl b)), (h2, .inl (d2, 8, .inl g))] sz)) 0 0 (va_A [(h0, .inr (2, [v1, v2])), (h3, .inl (d3, 52, .inl f)), (h1, .inl (d1, 8, .inl b)), (h2, .inl (d2, 8, .inl g))] sz) := by
  refine Met.ofW (cc := cX2_ideaFunc) (maxL := 14) (ret := none) (by decide) rfl ?_
  intro p e s m args below meth c s₁ B hml hv
  obtain ⟨rfl, hsz, hP, hK, hD0⟩ := hv
  have hx := B.exec
  have hb := B.bytes
  have hr := B.returns
  have hts := atoms_spec (ws := (ws_ yX2_ideaFunc cX2_ideaFunc 14 none)) B.pre
  have hts : ∀ w ∈ lw_all, w.before _ s = true := fun w h => hts w (List.mem_cons_of_mem _ h)
  have hown : s.vm.findClass RX2 = some m.cls := findClass_of_methodNamed B.named
  have hlocks := B.notSynchronized
  subst hsz
  have hD := hD0.self (sz := s.heap.size)
  generalize hAe : va_A [(h0, .inr (2, [v1, v2])), (h3, .inl (d3, 52, .inl f)), (h1, .inl (d1, 8, .inl b)), (h2, .inl (d2, 8, .inl g))] s.heap.size = A at hD ⊢
  have hA : ∀ q : Nat, s.heap.size ≤ q → A q := fun q h => by rw [← hAe]; exact Or.inr h
  have hS : va_S A s.heap s.heap [] := va_S.rf
  have hP : va_P D vwCl [(h0, .inr (2, [v1, v2])), (h3, .inl (d3, 52, .inl f)), (h1, .inl (d1, 8, .inl b)), (h2, .inl (d2, 8, .inl g))] s.heap := hP
  have hl := lv_entry ([.ref h0, .ref h3, .ref h1, .int (nI 0), .ref h2, .int (nI 0)]) (n := 14) (Nat.le_of_ble_eq_true rfl)
  rw [lg_entry_eq]
  generalize (lg_sl ([.ref h0, .ref h3, .ref h1, .int (nI 0), .ref h2, .int (nI 0)]) ++ List.replicate (14 - (lg_sl ([.ref h0, .ref h3, .ref h1, .int (nI 0), .ref h2, .int (nI 0)])).length) Slot.unset).toArray = ls at hl ⊢
  have hl : lv_has ls 14 [(0, .ref h0), (1, .ref h3), (2, .ref h1), (3, .int (nI 0)), (4, .ref h2), (5, .int (nI 0))] := hl
  refine lv_iconst (v := nI 0) hx hb dX2_ideaFunc_0 (by decide) ?_
  refine lv_istore (lv' := [(12, .int (nI 0)), (0, .ref h0), (1, .ref h3), (2, .ref h1), (3, .int (nI 0)), (4, .ref h2), (5, .int (nI 0))]) hx hb dX2_ideaFunc_1 hl (by decide) rfl (fun ls hl => ?_)
  refine lv_aload_n hx hb dX2_ideaFunc_3 rfl (lv_at hl 1 rfl) ?_
  refine lv_aload_n hx hb dX2_ideaFunc_4 rfl (lv_at hl 3 rfl) ?_
  refine lv_iload_n hx hb dX2_ideaFunc_5 rfl (lv_at hl 4 rfl) ?_
  have hPc := hP.sub (ws' := [(h1, .inl (d1, 8, .inl b))]) [2] rfl
  have hKc := hK.sub (tys' := [(d1, .byte)]) [1] rfl
  refine vp_callSi (W.runV (As := [.ref h1, .int (nI 0)]) (rest := []) ⟨hx, hb, hml, hown, hts⟩ (met_b2w l D h0 h1 d1 8 b 0 (by omega) (by omega)) (cwV 2 hts (lw_V q123 q125 qs3 q15 q126) rfl rfl rfl (by decide +kernel) ⟨Nat.le_of_ble_eq_true rfl, Nat.le_of_ble_eq_true rfl⟩) ⟨im_Pr.blind, va_recv hK hP (ci := 2) (q0 := 0) rfl rfl, im_Pr.of hPc hKc⟩ rfl rfl hl.1 rfl (lv_room (Nat.le_of_ble_eq_true rfl)) dX2_ideaFunc_6 ⟨Nat.le_of_ble_eq_true rfl, Nat.le_of_ble_eq_true rfl⟩) (fun r_6 hr_6 => ?_)
  have hr_6 : r_6 = nI (wd b 0) := hr_6
  subst hr_6
  refine lv_istore (lv' := [(6, .int (nI (wd b 0))), (12, .int (nI 0)), (0, .ref h0), (1, .ref h3), (2, .ref h1), (3, .int (nI 0)), (4, .ref h2), (5, .int (nI 0))]) hx hb dX2_ideaFunc_9 hl (by decide) rfl (fun ls hl => ?_)
  refine lv_aload_n hx hb dX2_ideaFunc_11 rfl (lv_at hl 2 rfl) ?_
  refine lv_aload_n hx hb dX2_ideaFunc_12 rfl (lv_at hl 4 rfl) ?_
  refine lv_iload_n hx hb dX2_ideaFunc_13 rfl (lv_at hl 5 rfl) ?_
  refine lv_iconst (v := nI 2) hx hb dX2_ideaFunc_14 (by decide) ?_
  refine lv_iadd hx hb dX2_ideaFunc_15 ?_
  refine im_top (y := nI 2) (show (nI 0) + (nI 2) = nI 2 from by decide) ?_
  have hPc := hP.sub (ws' := [(h1, .inl (d1, 8, .inl b))]) [2] rfl
  have hKc := hK.sub (tys' := [(d1, .byte)]) [1] rfl
  refine vp_callSi (W.runV (As := [.ref h1, .int (nI 2)]) (rest := []) ⟨hx, hb, hml, hown, hts⟩ (met_b2w l D h0 h1 d1 8 b 2 (by omega) (by omega)) (cwV 2 hts (lw_V q123 q125 qs3 q15 q126) rfl rfl rfl (by decide +kernel) ⟨Nat.le_of_ble_eq_true rfl, Nat.le_of_ble_eq_true rfl⟩) ⟨im_Pr.blind, va_recv hK hP (ci := 2) (q0 := 0) rfl rfl, im_Pr.of hPc hKc⟩ rfl rfl hl.1 rfl (lv_room (Nat.le_of_ble_eq_true rfl)) dX2_ideaFunc_16 ⟨Nat.le_of_ble_eq_true rfl, Nat.le_of_ble_eq_true rfl⟩) (fun r_16 hr_16 => ?_)
  have hr_16 : r_16 = nI (wd b 2) := hr_16
  subst hr_16
  refine lv_istore (lv' := [(7, .int (nI (wd b 2))), (6, .int (nI (wd b 0))), (12, .int (nI 0)), (0, .ref h0), (1, .ref h3), (2, .ref h1), (3, .int (nI 0)), (4, .ref h2), (5, .int (nI 0))]) hx hb dX2_ideaFunc_19 hl (by decide) rfl (fun ls hl => ?_)
  refine lv_aload_n hx hb dX2_ideaFunc_21 rfl (lv_at hl 3 rfl) ?_
  refine lv_aload_n hx hb dX2_ideaFunc_22 rfl (lv_at hl 5 rfl) ?_
  refine lv_iload_n hx hb dX2_ideaFunc_23 rfl (lv_at hl 6 rfl) ?_
  refine lv_iconst (v := nI 4) hx hb dX2_ideaFunc_24 (by decide) ?_
  refine lv_iadd hx hb dX2_ideaFunc_25 ?_
  refine im_top (y := nI 4) (show (nI 0) + (nI 4) = nI 4 from by decide) ?_
  have hPc := hP.sub (ws' := [(h1, .inl (d1, 8, .inl b))]) [2] rfl
  have hKc := hK.sub (tys' := [(d1, .byte)]) [1] rfl
  refine vp_callSi (W.runV (As := [.ref h1, .int (nI 4)]) (rest := []) ⟨hx, hb, hml, hown, hts⟩ (met_b2w l D h0 h1 d1 8 b 4 (by omega) (by omega)) (cwV 2 hts (lw_V q123 q125 qs3 q15 q126) rfl rfl rfl (by decide +kernel) ⟨Nat.le_of_ble_eq_true rfl, Nat.le_of_ble_eq_true rfl⟩) ⟨im_Pr.blind, va_recv hK hP (ci := 2) (q0 := 0) rfl rfl, im_Pr.of hPc hKc⟩ rfl rfl hl.1 rfl (lv_room (Nat.le_of_ble_eq_true rfl)) dX2_ideaFunc_26 ⟨Nat.le_of_ble_eq_true rfl, Nat.le_of_ble_eq_true rfl⟩) (fun r_26 hr_26 => ?_)
  have hr_26 : r_26 = nI (wd b 4) := hr_26
  subst hr_26
  refine lv_istore (lv' := [(8, .int (nI (wd b 4))), (7, .int (nI (wd b 2))), (6, .int (nI (wd b 0))), (12, .int (nI 0)), (0, .ref h0), (1, .ref h3), (2, .ref h1), (3, .int (nI 0)), (4, .ref h2), (5, .int (nI 0))]) hx hb dX2_ideaFunc_29 hl (by decide) rfl (fun ls hl => ?_)
  refine lv_aload_n hx hb dX2_ideaFunc_31 rfl (lv_at hl 4 rfl) ?_
  refine lv_aload_n hx hb dX2_ideaFunc_32 rfl (lv_at hl 6 rfl) ?_
  refine lv_iload_n hx hb dX2_ideaFunc_33 rfl (lv_at hl 7 rfl) ?_
  refine lv_bipush (v := nI 6) hx hb dX2_ideaFunc_34 (by decide) ?_
  refine lv_iadd hx hb dX2_ideaFunc_36 ?_
  refine im_top (y := nI 6) (show (nI 0) + (nI 6) = nI 6 from by decide) ?_
  have hPc := hP.sub (ws' := [(h1, .inl (d1, 8, .inl b))]) [2] rfl
  have hKc := hK.sub (tys' := [(d1, .byte)]) [1] rfl
  refine vp_callSi (W.runV (As := [.ref h1, .int (nI 6)]) (rest := []) ⟨hx, hb, hml, hown, hts⟩ (met_b2w l D h0 h1 d1 8 b 6 (by omega) (by omega)) (cwV 2 hts (lw_V q123 q125 qs3 q15 q126) rfl rfl rfl (by decide +kernel) ⟨Nat.le_of_ble_eq_true rfl, Nat.le_of_ble_eq_true rfl⟩) ⟨im_Pr.blind, va_recv hK hP (ci := 2) (q0 := 0) rfl rfl, im_Pr.of hPc hKc⟩ rfl rfl hl.1 rfl (lv_room (Nat.le_of_ble_eq_true rfl)) dX2_ideaFunc_37 ⟨Nat.le_of_ble_eq_true rfl, Nat.le_of_ble_eq_true rfl⟩) (fun r_37 hr_37 => ?_)
  have hr_37 : r_37 = nI (wd b 6) := hr_37
  subst hr_37
  refine lv_istore (lv' := [(9, .int (nI (wd b 6))), (8, .int (nI (wd b 4))), (7, .int (nI (wd b 2))), (6, .int (nI (wd b 0))), (12, .int (nI 0)), (0, .ref h0), (1, .ref h3), (2, .ref h1), (3, .int (nI 0)), (4, .ref h2), (5, .int (nI 0))]) hx hb dX2_ideaFunc_40 hl (by decide) rfl (fun ls hl => ?_)
  refine lv_iconst (v := nI 0) hx hb dX2_ideaFunc_42 (by decide) ?_
  refine lv_istore (lv' := [(13, .int (nI 0)), (9, .int (nI (wd b 6))), (8, .int (nI (wd b 4))), (7, .int (nI (wd b 2))), (6, .int (nI (wd b 0))), (12, .int (nI 0)), (0, .ref h0), (1, .ref h3), (2, .ref h1), (3, .int (nI 0)), (4, .ref h2), (5, .int (nI 0))]) hx hb dX2_ideaFunc_43 hl (by decide) rfl (fun ls hl => ?_)
  refine im_loop (fun n H locs ls => ∃ (r a x c1 d : Nat), r + n = 8 ∧ (a, x, c1, d) = rnds K (v0 b) r ∧ a < 65536 ∧ x < 65536 ∧ c1 < 65536 ∧ d < 65536 ∧ H = s.heap ∧ locs = [] ∧ lv_has ls 14 [(0, .ref h0), (1, .ref h3), (4, .ref h2), (5, .int (nI 0)), (6, .int (nI a)), (7, .int (nI x)), (8, .int (nI c1)), (9, .int (nI d)), (12, .int (nI (6 * r))), (13, .int (nI r))]) ?_ ?_ (8) _ _ _ ⟨0, wd b 0, wd b 2, wd b 4, wd b 6, rfl, rfl, wd_lt b 0, wd_lt b 2, wd_lt b 4, wd_lt b 6, rfl, rfl, lv_sub hl [6, 7, 10, 11, 4, 3, 2, 1, 5, 0] rfl⟩
  · intro H locs ls hI
    obtain ⟨r, a, x, c1, d, hrn, hv, la, lx, lc, ld, rfl, rfl, hl⟩ := hI
    refine lv_iload hx hb dX2_ideaFunc_45 (lv_at hl 9 rfl) ?_
    refine lv_bipush (v := nI 8) hx hb dX2_ideaFunc_47 (by decide) ?_
    refine lv_icmp_ge (tgt := 234) hx hb dX2_ideaFunc_49 (by decide) (fun c_49 => ?_) (fun c_49 => ?_)
    · have c_49 : 8 ≤ r := (nI_leI (a := 8) (b := r) (by omega) (by omega)).mp c_49
      obtain rfl : r = 8 := by omega
      have hl : lv_has ls 14 [(0, .ref h0), (1, .ref h3), (4, .ref h2), (5, .int (nI 0)), (6, .int (nI a)), (7, .int (nI x)), (8, .int (nI c1)), (9, .int (nI d)), (12, .int (nI 48)), (13, .int (nI 8))] := hl
      refine lv_aload_n hx hb dX2_ideaFunc_234 rfl (lv_at hl 0 rfl) ?_
      refine lv_aload_n hx hb dX2_ideaFunc_235 rfl (lv_at hl 0 rfl) ?_
      refine lv_iload hx hb dX2_ideaFunc_236 (lv_at hl 4 rfl) ?_
      refine lv_aload_n hx hb dX2_ideaFunc_238 rfl (lv_at hl 1 rfl) ?_
      refine lv_iload hx hb dX2_ideaFunc_239 (lv_at hl 8 rfl) ?_
      refine lv_iinc (v := nI 49) (lv' := [(12, .int (nI 49)), (0, .ref h0), (1, .ref h3), (4, .ref h2), (5, .int (nI 0)), (6, .int (nI a)), (7, .int (nI x)), (8, .int (nI c1)), (9, .int (nI d)), (13, .int (nI 8))]) hx hb dX2_ideaFunc_241 hl (k := 8) rfl (by decide) (by decide) rfl (fun ls hl => ?_)
      refine im_iald hx hb hK hP 1 0 rfl rfl (i := 48) (by omega) (by omega) (v := nI (K 48)) (hf _ (by omega)) dX2_ideaFunc_244 ?_
      refine vp_callSi (W.runV (As := [.int (nI a), .int (nI (K 48))]) (rest := [.ref h0]) ⟨hx, hb, hml, hown, hts⟩ (met_mul l h0 la (hKl _)) (cwV 2 hts (lw_V q277 q279 qs8 q15 q280) rfl rfl rfl (by decide +kernel) ⟨Nat.le_of_ble_eq_true rfl, Nat.le_of_ble_eq_true rfl⟩) ⟨im_P0.blind, va_recv hK hP (ci := 2) (q0 := 0) rfl rfl, im_P0.of⟩ rfl rfl hl.1 rfl (lv_room (Nat.le_of_ble_eq_true rfl)) dX2_ideaFunc_245 ⟨Nat.le_of_ble_eq_true rfl, Nat.le_of_ble_eq_true rfl⟩) (fun r_245 hr_245 => ?_)
      have hr_245 : r_245 = nI (mulS a (K 48)) := hr_245
      subst hr_245
      obtain ⟨w0, hw0⟩ : ∃ z : Nat, z = mulS a (K 48) := ⟨_, rfl⟩
      refine im_top (y := nI w0) (by rw [hw0]) ?_
      have lw0 : w0 < 65536 := by rw [hw0]; exact mulS_lt _ _
      refine lv_aload hx hb dX2_ideaFunc_248 (lv_at hl 3 rfl) ?_
      refine lv_iload hx hb dX2_ideaFunc_250 (lv_at hl 4 rfl) ?_
      have hPc := hP.sub (ws' := [(h2, .inl (d2, 8, .inl g))]) [3] rfl
      have hKc := hK.sub (tys' := [(d2, .byte)]) [2] rfl
      have hDc := hD.sub (ws' := [(h2, .inl (d2, 8, .inl g))]) [3] (by decide) rfl
      have hFc := va_free (wc := [(h2, .inl (d2, 8, .inl g))]) hD hS hA [3] rfl
      refine va_callv (va_runV (As := [.int (nI w0), .ref h2, .int (nI 0)]) (rest := []) ⟨hx, hb, hml, hown, hts⟩ (met_w2b l D s.heap.size h0 h2 d2 8 g w0 0 (by omega) (by omega) (by omega)) (cwV 3 hts (lw_V q281 q283 qs9 q15 q284) rfl rfl rfl (by decide +kernel) ⟨Nat.le_of_ble_eq_true rfl, Nat.le_of_ble_eq_true rfl⟩) ⟨im_Pw.blind, va_recv hK hP (ci := 2) (q0 := 0) rfl rfl, im_Pw.of hPc hKc hDc⟩ rfl rfl hl.1 rfl (lv_room (Nat.le_of_ble_eq_true rfl)) dX2_ideaFunc_252 ⟨Nat.le_of_ble_eq_true rfl, Nat.le_of_ble_eq_true rfl⟩) hS (fun q _ h => hFc q h) hFc (fun u1 t H1 locs ht hvm eu1 hB hz1 hk1 hS => ?_)
      have eu1 : u1 = wr2 g 0 w0 := eu1
      obtain ⟨hP1, hD1⟩ := hB
      rw [ht] at hP1
      obtain ⟨hP, hD⟩ := va_join (wr := [(h0, .inr (2, [v1, v2])), (h3, .inl (d3, 52, .inl f)), (h1, .inl (d1, 8, .inl b))]) (w1 := [(h2, .inl (d2, 8, .inl u1))]) hP hD [3] [0, 1, 2] rfl rfl (by decide) (by decide) hk1 hFc hP1 hD1
      generalize H1 = H at hP hS ⊢
      have hP : va_P D vwCl [(h0, .inr (2, [v1, v2])), (h3, .inl (d3, 52, .inl f)), (h1, .inl (d1, 8, .inl b)), (h2, .inl (d2, 8, .inl u1))] H := hP
      have hD : va_D A [(h0, .inr (2, [v1, v2])), (h3, .inl (d3, 52, .inl f)), (h1, .inl (d1, 8, .inl b)), (h2, .inl (d2, 8, .inl u1))] := hD
      refine lv_aload_n hx hb dX2_ideaFunc_255 rfl (lv_at hl 1 rfl) ?_
      refine lv_iload hx hb dX2_ideaFunc_256 (lv_at hl 7 rfl) ?_
      refine lv_aload_n hx hb dX2_ideaFunc_258 rfl (lv_at hl 2 rfl) ?_
      refine lv_iload hx hb dX2_ideaFunc_259 (lv_at hl 0 rfl) ?_
      refine lv_iinc (v := nI 50) (lv' := [(12, .int (nI 50)), (0, .ref h0), (1, .ref h3), (4, .ref h2), (5, .int (nI 0)), (6, .int (nI a)), (7, .int (nI x)), (8, .int (nI c1)), (9, .int (nI d)), (13, .int (nI 8))]) hx hb dX2_ideaFunc_261 hl (k := 0) rfl (by decide) (by decide) rfl (fun ls hl => ?_)
      refine im_iald hx hb hK hP 1 0 rfl rfl (i := 49) (by omega) (by omega) (v := nI (K 49)) (hf _ (by omega)) dX2_ideaFunc_264 ?_
      refine lv_iadd hx hb dX2_ideaFunc_265 ?_
      refine im_top (y := nI (c1 + (K 49))) (nI_add c1 (K 49)) ?_
      obtain ⟨w1, hw1⟩ : ∃ z : Nat, z = c1 + (K 49) := ⟨_, rfl⟩
      refine im_top (y := nI w1) (by rw [hw1]) ?_
      have lK49 := hKl 49
      refine lv_aload hx hb dX2_ideaFunc_266 (lv_at hl 3 rfl) ?_
      refine lv_iload hx hb dX2_ideaFunc_268 (lv_at hl 4 rfl) ?_
      refine lv_iconst (v := nI 2) hx hb dX2_ideaFunc_270 (by decide) ?_
      refine lv_iadd hx hb dX2_ideaFunc_271 ?_
      refine im_top (y := nI 2) (show (nI 0) + (nI 2) = nI 2 from by decide) ?_
      have hPc := hP.sub (ws' := [(h2, .inl (d2, 8, .inl u1))]) [3] rfl
      have hKc := hK.sub (tys' := [(d2, .byte)]) [2] rfl
      have hDc := hD.sub (ws' := [(h2, .inl (d2, 8, .inl u1))]) [3] (by decide) rfl
      have hFc := va_free (wc := [(h2, .inl (d2, 8, .inl u1))]) hD hS hA [3] rfl
      refine va_callv (va_runV (As := [.int (nI w1), .ref h2, .int (nI 2)]) (rest := []) ⟨hx, hb, hml, hown, hts⟩ (met_w2b l D H.size h0 h2 d2 8 u1 w1 2 (by omega) (by omega) (by omega)) (cwV 3 hts (lw_V q281 q283 qs9 q15 q284) rfl rfl rfl (by decide +kernel) ⟨Nat.le_of_ble_eq_true rfl, Nat.le_of_ble_eq_true rfl⟩) ⟨im_Pw.blind, va_recv hK hP (ci := 2) (q0 := 0) rfl rfl, im_Pw.of hPc hKc hDc⟩ rfl rfl hl.1 rfl (lv_room (Nat.le_of_ble_eq_true rfl)) dX2_ideaFunc_272 ⟨Nat.le_of_ble_eq_true rfl, Nat.le_of_ble_eq_true rfl⟩) hS (fun q _ h => hFc q h) hFc (fun u2 t H1 locs ht hvm eu2 hB hz1 hk1 hS => ?_)
      have eu2 : u2 = wr2 u1 2 w1 := eu2
      obtain ⟨hP1, hD1⟩ := hB
      rw [ht] at hP1
      obtain ⟨hP, hD⟩ := va_join (wr := [(h0, .inr (2, [v1, v2])), (h3, .inl (d3, 52, .inl f)), (h1, .inl (d1, 8, .inl b))]) (w1 := [(h2, .inl (d2, 8, .inl u2))]) hP hD [3] [0, 1, 2] rfl rfl (by decide) (by decide) hk1 hFc hP1 hD1
      generalize H1 = H at hP hS ⊢
      have hP : va_P D vwCl [(h0, .inr (2, [v1, v2])), (h3, .inl (d3, 52, .inl f)), (h1, .inl (d1, 8, .inl b)), (h2, .inl (d2, 8, .inl u2))] H := hP
      have hD : va_D A [(h0, .inr (2, [v1, v2])), (h3, .inl (d3, 52, .inl f)), (h1, .inl (d1, 8, .inl b)), (h2, .inl (d2, 8, .inl u2))] := hD
      refine lv_aload_n hx hb dX2_ideaFunc_275 rfl (lv_at hl 1 rfl) ?_
      refine lv_iload hx hb dX2_ideaFunc_276 (lv_at hl 6 rfl) ?_
      refine lv_aload_n hx hb dX2_ideaFunc_278 rfl (lv_at hl 2 rfl) ?_
      refine lv_iload hx hb dX2_ideaFunc_279 (lv_at hl 0 rfl) ?_
      refine lv_iinc (v := nI 51) (lv' := [(12, .int (nI 51)), (0, .ref h0), (1, .ref h3), (4, .ref h2), (5, .int (nI 0)), (6, .int (nI a)), (7, .int (nI x)), (8, .int (nI c1)), (9, .int (nI d)), (13, .int (nI 8))]) hx hb dX2_ideaFunc_281 hl (k := 0) rfl (by decide) (by decide) rfl (fun ls hl => ?_)
      refine im_iald hx hb hK hP 1 0 rfl rfl (i := 50) (by omega) (by omega) (v := nI (K 50)) (hf _ (by omega)) dX2_ideaFunc_284 ?_
      refine lv_iadd hx hb dX2_ideaFunc_285 ?_
      refine im_top (y := nI (x + (K 50))) (nI_add x (K 50)) ?_
      obtain ⟨w2, hw2⟩ : ∃ z : Nat, z = x + (K 50) := ⟨_, rfl⟩
      refine im_top (y := nI w2) (by rw [hw2]) ?_
      have lK50 := hKl 50
      refine lv_aload hx hb dX2_ideaFunc_286 (lv_at hl 3 rfl) ?_
      refine lv_iload hx hb dX2_ideaFunc_288 (lv_at hl 4 rfl) ?_
      refine lv_iconst (v := nI 4) hx hb dX2_ideaFunc_290 (by decide) ?_
      refine lv_iadd hx hb dX2_ideaFunc_291 ?_
      refine im_top (y := nI 4) (show (nI 0) + (nI 4) = nI 4 from by decide) ?_
      have hPc := hP.sub (ws' := [(h2, .inl (d2, 8, .inl u2))]) [3] rfl
      have hKc := hK.sub (tys' := [(d2, .byte)]) [2] rfl
      have hDc := hD.sub (ws' := [(h2, .inl (d2, 8, .inl u2))]) [3] (by decide) rfl
      have hFc := va_free (wc := [(h2, .inl (d2, 8, .inl u2))]) hD hS hA [3] rfl
      refine va_callv (va_runV (As := [.int (nI w2), .ref h2, .int (nI 4)]) (rest := []) ⟨hx, hb, hml, hown, hts⟩ (met_w2b l D H.size h0 h2 d2 8 u2 w2 4 (by omega) (by omega) (by omega)) (cwV 3 hts (lw_V q281 q283 qs9 q15 q284) rfl rfl rfl (by decide +kernel) ⟨Nat.le_of_ble_eq_true rfl, Nat.le_of_ble_eq_true rfl⟩) ⟨im_Pw.blind, va_recv hK hP (ci := 2) (q0 := 0) rfl rfl, im_Pw.of hPc hKc hDc⟩ rfl rfl hl.1 rfl (lv_room (Nat.le_of_ble_eq_true rfl)) dX2_ideaFunc_292 ⟨Nat.le_of_ble_eq_true rfl, Nat.le_of_ble_eq_true rfl⟩) hS (fun q _ h => hFc q h) hFc (fun u3 t H1 locs ht hvm eu3 hB hz1 hk1 hS => ?_)
      have eu3 : u3 = wr2 u2 4 w2 := eu3
      obtain ⟨hP1, hD1⟩ := hB
      rw [ht] at hP1
      obtain ⟨hP, hD⟩ := va_join (wr := [(h0, .inr (2, [v1, v2])), (h3, .inl (d3, 52, .inl f)), (h1, .inl (d1, 8, .inl b))]) (w1 := [(h2, .inl (d2, 8, .inl u3))]) hP hD [3] [0, 1, 2] rfl rfl (by decide) (by decide) hk1 hFc hP1 hD1
      generalize H1 = H at hP hS ⊢
      have hP : va_P D vwCl [(h0, .inr (2, [v1, v2])), (h3, .inl (d3, 52, .inl f)), (h1, .inl (d1, 8, .inl b)), (h2, .inl (d2, 8, .inl u3))] H := hP
      have hD : va_D A [(h0, .inr (2, [v1, v2])), (h3, .inl (d3, 52, .inl f)), (h1, .inl (d1, 8, .inl b)), (h2, .inl (d2, 8, .inl u3))] := hD
      refine lv_aload_n hx hb dX2_ideaFunc_295 rfl (lv_at hl 1 rfl) ?_
      refine lv_aload_n hx hb dX2_ideaFunc_296 rfl (lv_at hl 1 rfl) ?_
      refine lv_iload hx hb dX2_ideaFunc_297 (lv_at hl 8 rfl) ?_
      refine lv_aload_n hx hb dX2_ideaFunc_299 rfl (lv_at hl 2 rfl) ?_
      refine lv_iload hx hb dX2_ideaFunc_300 (lv_at hl 0 rfl) ?_
      refine im_iald hx hb hK hP 1 0 rfl rfl (i := 51) (by omega) (by omega) (v := nI (K 51)) (hf _ (by omega)) dX2_ideaFunc_302 ?_
      refine vp_callSi (W.runV (As := [.int (nI d), .int (nI (K 51))]) (rest := [.ref h0]) ⟨hx, hb, hml, hown, hts⟩ (met_mul l h0 ld (hKl _)) (cwV 2 hts (lw_V q277 q279 qs8 q15 q280) rfl rfl rfl (by decide +kernel) ⟨Nat.le_of_ble_eq_true rfl, Nat.le_of_ble_eq_true rfl⟩) ⟨im_P0.blind, va_recv hK hP (ci := 2) (q0 := 0) rfl rfl, im_P0.of⟩ rfl rfl hl.1 rfl (lv_room (Nat.le_of_ble_eq_true rfl)) dX2_ideaFunc_303 ⟨Nat.le_of_ble_eq_true rfl, Nat.le_of_ble_eq_true rfl⟩) (fun r_303 hr_303 => ?_)
      have hr_303 : r_303 = nI (mulS d (K 51)) := hr_303
      subst hr_303
      obtain ⟨w3, hw3⟩ : ∃ z : Nat, z = mulS d (K 51) := ⟨_, rfl⟩
      refine im_top (y := nI w3) (by rw [hw3]) ?_
      have lw3 : w3 < 65536 := by rw [hw3]; exact mulS_lt _ _
      refine lv_aload hx hb dX2_ideaFunc_306 (lv_at hl 3 rfl) ?_
      refine lv_iload hx hb dX2_ideaFunc_308 (lv_at hl 4 rfl) ?_
      refine lv_bipush (v := nI 6) hx hb dX2_ideaFunc_310 (by decide) ?_
      refine lv_iadd hx hb dX2_ideaFunc_312 ?_
      refine im_top (y := nI 6) (show (nI 0) + (nI 6) = nI 6 from by decide) ?_
      have hPc := hP.sub (ws' := [(h2, .inl (d2, 8, .inl u3))]) [3] rfl
      have hKc := hK.sub (tys' := [(d2, .byte)]) [2] rfl
      have hDc := hD.sub (ws' := [(h2, .inl (d2, 8, .inl u3))]) [3] (by decide) rfl
      have hFc := va_free (wc := [(h2, .inl (d2, 8, .inl u3))]) hD hS hA [3] rfl
      refine va_callv (va_runV (As := [.int (nI w3), .ref h2, .int (nI 6)]) (rest := []) ⟨hx, hb, hml, hown, hts⟩ (met_w2b l D H.size h0 h2 d2 8 u3 w3 6 (by omega) (by omega) (by omega)) (cwV 3 hts (lw_V q281 q283 qs9 q15 q284) rfl rfl rfl (by decide +kernel) ⟨Nat.le_of_ble_eq_true rfl, Nat.le_of_ble_eq_true rfl⟩) ⟨im_Pw.blind, va_recv hK hP (ci := 2) (q0 := 0) rfl rfl, im_Pw.of hPc hKc hDc⟩ rfl rfl hl.1 rfl (lv_room (Nat.le_of_ble_eq_true rfl)) dX2_ideaFunc_313 ⟨Nat.le_of_ble_eq_true rfl, Nat.le_of_ble_eq_true rfl⟩) hS (fun q _ h => hFc q h) hFc (fun u4 t H1 locs ht hvm eu4 hB hz1 hk1 hS => ?_)
      have eu4 : u4 = wr2 u3 6 w3 := eu4
      obtain ⟨hP1, hD1⟩ := hB
      rw [ht] at hP1
      obtain ⟨hP, hD⟩ := va_join (wr := [(h0, .inr (2, [v1, v2])), (h3, .inl (d3, 52, .inl f)), (h1, .inl (d1, 8, .inl b))]) (w1 := [(h2, .inl (d2, 8, .inl u4))]) hP hD [3] [0, 1, 2] rfl rfl (by decide) (by decide) hk1 hFc hP1 hD1
      generalize H1 = H at hP hS ⊢
      have hP : va_P D vwCl [(h0, .inr (2, [v1, v2])), (h3, .inl (d3, 52, .inl f)), (h1, .inl (d1, 8, .inl b)), (h2, .inl (d2, 8, .inl u4))] H := hP
      have hD : va_D A [(h0, .inr (2, [v1, v2])), (h3, .inl (d3, 52, .inl f)), (h1, .inl (d1, 8, .inl b)), (h2, .inl (d2, 8, .inl u4))] := hD
      have hout : u4 = outS K b g := by
        unfold outS put4 enc fin4
        rw [← hv]
        show u4 = wr2 (wr2 (wr2 (wr2 g 0 (mulS a (K 48))) 2 ((c1 + K 49) % 65536)) 4 ((x + K 50) % 65536)) 6 (mulS d (K 51))
        rw [wr2_mod, wr2_mod, eu4, eu3, eu2, eu1, hw0, hw1, hw2, hw3]
      have hP9 := hP.sub (ws' := [(h0, .inr (2, [v1, v2])), (h3, .inl (d3, 52, .inl f)), (h1, .inl (d1, 8, .inl b)), (h2, .inl (d2, 8, .inl u4))]) [0, 1, 2, 3] rfl
      have hD9 := hD.sub (ws' := [(h0, .inr (2, [v1, v2])), (h3, .inl (d3, 52, .inl f)), (h1, .inl (d1, 8, .inl b)), (h2, .inl (d2, 8, .inl u4))]) [0, 1, 2, 3] (by decide) rfl
      exact W.vret hx hb hr (fun t ht hW => ⟨⟨u4, rfl, hout, by rw [ht]; exact hP9, hD9⟩, hS.F ht⟩) hS.2.2 dX2_ideaFunc_316
    · have c_49 : ¬ (8 ≤ r) := fun z => c_49 ((nI_leI (a := 8) (b := r) (by omega) (by omega)).mpr z)
      exfalso
      omega
  · intro n ih H locs ls hI
    obtain ⟨r, a, x, c1, d, hrn, hv, la, lx, lc, ld, rfl, rfl, hl⟩ := hI
    refine lv_iload hx hb dX2_ideaFunc_45 (lv_at hl 9 rfl) ?_
    refine lv_bipush (v := nI 8) hx hb dX2_ideaFunc_47 (by decide) ?_
    refine lv_icmp_ge (tgt := 234) hx hb dX2_ideaFunc_49 (by decide) (fun c_49 => ?_) (fun c_49 => ?_)
    · have c_49 : 8 ≤ r := (nI_leI (a := 8) (b := r) (by omega) (by omega)).mp c_49
      exfalso
      omega
    · have c_49 : ¬ (8 ≤ r) := fun z => c_49 ((nI_leI (a := 8) (b := r) (by omega) (by omega)).mpr z)
      refine lv_aload_n hx hb dX2_ideaFunc_52 rfl (lv_at hl 0 rfl) ?_
      refine lv_iload hx hb dX2_ideaFunc_53 (lv_at hl 4 rfl) ?_
      refine lv_aload_n hx hb dX2_ideaFunc_55 rfl (lv_at hl 1 rfl) ?_
      refine lv_iload hx hb dX2_ideaFunc_56 (lv_at hl 8 rfl) ?_
      refine lv_iinc (v := nI (6 * r + 1)) (lv' := [(12, .int (nI (6 * r + 1))), (0, .ref h0), (1, .ref h3), (4, .ref h2), (5, .int (nI 0)), (6, .int (nI a)), (7, .int (nI x)), (8, .int (nI c1)), (9, .int (nI d)), (13, .int (nI r))]) hx hb dX2_ideaFunc_58 hl (k := 8) rfl (nI_1 (6 * r)) (by decide) rfl (fun ls hl => ?_)
      refine im_iald hx hb hK hP 1 0 rfl rfl (i := 6 * r) (by omega) (by omega) (v := nI (K (6 * r))) (hf _ (by omega)) dX2_ideaFunc_61 ?_
      refine vp_callSi (W.runV (As := [.int (nI a), .int (nI (K (6 * r)))]) (rest := []) ⟨hx, hb, hml, hown, hts⟩ (met_mul l h0 la (hKl _)) (cwV 2 hts (lw_V q277 q279 qs8 q15 q280) rfl rfl rfl (by decide +kernel) ⟨Nat.le_of_ble_eq_true rfl, Nat.le_of_ble_eq_true rfl⟩) ⟨im_P0.blind, va_recv hK hP (ci := 2) (q0 := 0) rfl rfl, im_P0.of⟩ rfl rfl hl.1 rfl (lv_room (Nat.le_of_ble_eq_true rfl)) dX2_ideaFunc_62 ⟨Nat.le_of_ble_eq_true rfl, Nat.le_of_ble_eq_true rfl⟩) (fun r_62 hr_62 => ?_)
      have hr_62 : r_62 = nI (mulS a (K (6 * r))) := hr_62
      subst hr_62
      obtain ⟨a1, ha1⟩ : ∃ z : Nat, z = mulS a (K (6 * r)) := ⟨_, rfl⟩
      refine im_top (y := nI a1) (by rw [ha1]) ?_
      have la1 : a1 < 65536 := by rw [ha1]; exact mulS_lt _ _
      refine lv_istore (lv' := [(6, .int (nI a1)), (12, .int (nI (6 * r + 1))), (0, .ref h0), (1, .ref h3), (4, .ref h2), (5, .int (nI 0)), (7, .int (nI x)), (8, .int (nI c1)), (9, .int (nI d)), (13, .int (nI r))]) hx hb dX2_ideaFunc_65 hl (by decide) rfl (fun ls hl => ?_)
      refine lv_iload hx hb dX2_ideaFunc_67 (lv_at hl 6 rfl) ?_
      refine lv_aload_n hx hb dX2_ideaFunc_69 rfl (lv_at hl 3 rfl) ?_
      refine lv_iload hx hb dX2_ideaFunc_70 (lv_at hl 1 rfl) ?_
      refine lv_iinc (v := nI (6 * r + 2)) (lv' := [(12, .int (nI (6 * r + 2))), (6, .int (nI a1)), (0, .ref h0), (1, .ref h3), (4, .ref h2), (5, .int (nI 0)), (7, .int (nI x)), (8, .int (nI c1)), (9, .int (nI d)), (13, .int (nI r))]) hx hb dX2_ideaFunc_72 hl (k := 1) rfl (nI_1 (6 * r + 1)) (by decide) rfl (fun ls hl => ?_)
      refine im_iald hx hb hK hP 1 0 rfl rfl (i := 6 * r + 1) (by omega) (by omega) (v := nI (K (6 * r + 1))) (hf _ (by omega)) dX2_ideaFunc_75 ?_
      refine lv_iadd hx hb dX2_ideaFunc_76 ?_
      refine im_top (y := nI (x + (K (6 * r + 1)))) (nI_add x (K (6 * r + 1))) ?_
      refine lv_istore (lv' := [(7, .int (nI (x + (K (6 * r + 1))))), (12, .int (nI (6 * r + 2))), (6, .int (nI a1)), (0, .ref h0), (1, .ref h3), (4, .ref h2), (5, .int (nI 0)), (8, .int (nI c1)), (9, .int (nI d)), (13, .int (nI r))]) hx hb dX2_ideaFunc_77 hl (by decide) rfl (fun ls hl => ?_)
      refine lv_iload hx hb dX2_ideaFunc_79 (lv_at hl 0 rfl) ?_
      refine lv_ldc hx hb hown (hts _ q128) dX2_ideaFunc_81 ?_
      refine lv_iand hx hb dX2_ideaFunc_83 ?_
      refine im_top (y := nI ((x + (K (6 * r + 1))) % 65536)) (nx_mod (x + (K (6 * r + 1)))) ?_
      obtain ⟨x1, hx1⟩ : ∃ z : Nat, z = (x + (K (6 * r + 1))) % 65536 := ⟨_, rfl⟩
      refine im_top (y := nI x1) (by rw [hx1]) ?_
      have lx1 : x1 < 65536 := by rw [hx1]; exact Nat.mod_lt _ (by decide)
      refine lv_istore (lv' := [(7, .int (nI x1)), (12, .int (nI (6 * r + 2))), (6, .int (nI a1)), (0, .ref h0), (1, .ref h3), (4, .ref h2), (5, .int (nI 0)), (8, .int (nI c1)), (9, .int (nI d)), (13, .int (nI r))]) hx hb dX2_ideaFunc_84 hl (by decide) rfl (fun ls hl => ?_)
      refine lv_iload hx hb dX2_ideaFunc_86 (lv_at hl 7 rfl) ?_
      refine lv_aload_n hx hb dX2_ideaFunc_88 rfl (lv_at hl 4 rfl) ?_
      refine lv_iload hx hb dX2_ideaFunc_89 (lv_at hl 1 rfl) ?_
      refine lv_iinc (v := nI (6 * r + 3)) (lv' := [(12, .int (nI (6 * r + 3))), (7, .int (nI x1)), (6, .int (nI a1)), (0, .ref h0), (1, .ref h3), (4, .ref h2), (5, .int (nI 0)), (8, .int (nI c1)), (9, .int (nI d)), (13, .int (nI r))]) hx hb dX2_ideaFunc_91 hl (k := 1) rfl (nI_1 (6 * r + 2)) (by decide) rfl (fun ls hl => ?_)
      refine im_iald hx hb hK hP 1 0 rfl rfl (i := 6 * r + 2) (by omega) (by omega) (v := nI (K (6 * r + 2))) (hf _ (by omega)) dX2_ideaFunc_94 ?_
      refine lv_iadd hx hb dX2_ideaFunc_95 ?_
      refine im_top (y := nI (c1 + (K (6 * r + 2)))) (nI_add c1 (K (6 * r + 2))) ?_
      refine lv_istore (lv' := [(8, .int (nI (c1 + (K (6 * r + 2))))), (12, .int (nI (6 * r + 3))), (7, .int (nI x1)), (6, .int (nI a1)), (0, .ref h0), (1, .ref h3), (4, .ref h2), (5, .int (nI 0)), (9, .int (nI d)), (13, .int (nI r))]) hx hb dX2_ideaFunc_96 hl (by decide) rfl (fun ls hl => ?_)
      refine lv_iload hx hb dX2_ideaFunc_98 (lv_at hl 0 rfl) ?_
      refine lv_ldc hx hb hown (hts _ q128) dX2_ideaFunc_100 ?_
      refine lv_iand hx hb dX2_ideaFunc_102 ?_
      refine im_top (y := nI ((c1 + (K (6 * r + 2))) % 65536)) (nx_mod (c1 + (K (6 * r + 2)))) ?_
      obtain ⟨c2, hc2⟩ : ∃ z : Nat, z = (c1 + (K (6 * r + 2))) % 65536 := ⟨_, rfl⟩
      refine im_top (y := nI c2) (by rw [hc2]) ?_
      have lc2 : c2 < 65536 := by rw [hc2]; exact Nat.mod_lt _ (by decide)
      refine lv_istore (lv' := [(8, .int (nI c2)), (12, .int (nI (6 * r + 3))), (7, .int (nI x1)), (6, .int (nI a1)), (0, .ref h0), (1, .ref h3), (4, .ref h2), (5, .int (nI 0)), (9, .int (nI d)), (13, .int (nI r))]) hx hb dX2_ideaFunc_103 hl (by decide) rfl (fun ls hl => ?_)
      refine lv_aload_n hx hb dX2_ideaFunc_105 rfl (lv_at hl 4 rfl) ?_
      refine lv_iload hx hb dX2_ideaFunc_106 (lv_at hl 8 rfl) ?_
      refine lv_aload_n hx hb dX2_ideaFunc_108 rfl (lv_at hl 5 rfl) ?_
      refine lv_iload hx hb dX2_ideaFunc_109 (lv_at hl 1 rfl) ?_
      refine lv_iinc (v := nI (6 * r + 4)) (lv' := [(12, .int (nI (6 * r + 4))), (8, .int (nI c2)), (7, .int (nI x1)), (6, .int (nI a1)), (0, .ref h0), (1, .ref h3), (4, .ref h2), (5, .int (nI 0)), (9, .int (nI d)), (13, .int (nI r))]) hx hb dX2_ideaFunc_111 hl (k := 1) rfl (nI_1 (6 * r + 3)) (by decide) rfl (fun ls hl => ?_)
      refine im_iald hx hb hK hP 1 0 rfl rfl (i := 6 * r + 3) (by omega) (by omega) (v := nI (K (6 * r + 3))) (hf _ (by omega)) dX2_ideaFunc_114 ?_
      refine vp_callSi (W.runV (As := [.int (nI d), .int (nI (K (6 * r + 3)))]) (rest := []) ⟨hx, hb, hml, hown, hts⟩ (met_mul l h0 ld (hKl _)) (cwV 2 hts (lw_V q277 q279 qs8 q15 q280) rfl rfl rfl (by decide +kernel) ⟨Nat.le_of_ble_eq_true rfl, Nat.le_of_ble_eq_true rfl⟩) ⟨im_P0.blind, va_recv hK hP (ci := 2) (q0 := 0) rfl rfl, im_P0.of⟩ rfl rfl hl.1 rfl (lv_room (Nat.le_of_ble_eq_true rfl)) dX2_ideaFunc_115 ⟨Nat.le_of_ble_eq_true rfl, Nat.le_of_ble_eq_true rfl⟩) (fun r_115 hr_115 => ?_)
      have hr_115 : r_115 = nI (mulS d (K (6 * r + 3))) := hr_115
      subst hr_115
      obtain ⟨d1_, hd1_⟩ : ∃ z : Nat, z = mulS d (K (6 * r + 3)) := ⟨_, rfl⟩
      refine im_top (y := nI d1_) (by rw [hd1_]) ?_
      have ld1_ : d1_ < 65536 := by rw [hd1_]; exact mulS_lt _ _
      refine lv_istore (lv' := [(9, .int (nI d1_)), (12, .int (nI (6 * r + 4))), (8, .int (nI c2)), (7, .int (nI x1)), (6, .int (nI a1)), (0, .ref h0), (1, .ref h3), (4, .ref h2), (5, .int (nI 0)), (13, .int (nI r))]) hx hb dX2_ideaFunc_118 hl (by decide) rfl (fun ls hl => ?_)
      refine lv_iload hx hb dX2_ideaFunc_120 (lv_at hl 3 rfl) ?_
      refine lv_istore (lv' := [(10, .int (nI x1)), (9, .int (nI d1_)), (12, .int (nI (6 * r + 4))), (8, .int (nI c2)), (7, .int (nI x1)), (6, .int (nI a1)), (0, .ref h0), (1, .ref h3), (4, .ref h2), (5, .int (nI 0)), (13, .int (nI r))]) hx hb dX2_ideaFunc_122 hl (by decide) rfl (fun ls hl => ?_)
      refine lv_iload hx hb dX2_ideaFunc_124 (lv_at hl 3 rfl) ?_
      refine lv_istore (lv' := [(11, .int (nI c2)), (10, .int (nI x1)), (9, .int (nI d1_)), (12, .int (nI (6 * r + 4))), (8, .int (nI c2)), (7, .int (nI x1)), (6, .int (nI a1)), (0, .ref h0), (1, .ref h3), (4, .ref h2), (5, .int (nI 0)), (13, .int (nI r))]) hx hb dX2_ideaFunc_126 hl (by decide) rfl (fun ls hl => ?_)
      refine lv_iload hx hb dX2_ideaFunc_128 (lv_at hl 4 rfl) ?_
      refine lv_iload hx hb dX2_ideaFunc_130 (lv_at hl 6 rfl) ?_
      refine lv_ixor hx hb dX2_ideaFunc_132 ?_
      refine im_top (y := nI (c2 ^^^ a1)) (nx_xor c2 a1) ?_
      refine lv_istore (lv' := [(8, .int (nI (c2 ^^^ a1))), (11, .int (nI c2)), (10, .int (nI x1)), (9, .int (nI d1_)), (12, .int (nI (6 * r + 4))), (7, .int (nI x1)), (6, .int (nI a1)), (0, .ref h0), (1, .ref h3), (4, .ref h2), (5, .int (nI 0)), (13, .int (nI r))]) hx hb dX2_ideaFunc_133 hl (by decide) rfl (fun ls hl => ?_)
      refine lv_iload hx hb dX2_ideaFunc_135 (lv_at hl 5 rfl) ?_
      refine lv_iload hx hb dX2_ideaFunc_137 (lv_at hl 3 rfl) ?_
      refine lv_ixor hx hb dX2_ideaFunc_139 ?_
      refine im_top (y := nI (x1 ^^^ d1_)) (nx_xor x1 d1_) ?_
      refine lv_istore (lv' := [(7, .int (nI (x1 ^^^ d1_))), (8, .int (nI (c2 ^^^ a1))), (11, .int (nI c2)), (10, .int (nI x1)), (9, .int (nI d1_)), (12, .int (nI (6 * r + 4))), (6, .int (nI a1)), (0, .ref h0), (1, .ref h3), (4, .ref h2), (5, .int (nI 0)), (13, .int (nI r))]) hx hb dX2_ideaFunc_140 hl (by decide) rfl (fun ls hl => ?_)
      refine lv_aload_n hx hb dX2_ideaFunc_142 rfl (lv_at hl 7 rfl) ?_
      refine lv_iload hx hb dX2_ideaFunc_143 (lv_at hl 1 rfl) ?_
      refine lv_aload_n hx hb dX2_ideaFunc_145 rfl (lv_at hl 8 rfl) ?_
      refine lv_iload hx hb dX2_ideaFunc_146 (lv_at hl 5 rfl) ?_
      refine lv_iinc (v := nI (6 * r + 5)) (lv' := [(12, .int (nI (6 * r + 5))), (7, .int (nI (x1 ^^^ d1_))), (8, .int (nI (c2 ^^^ a1))), (11, .int (nI c2)), (10, .int (nI x1)), (9, .int (nI d1_)), (6, .int (nI a1)), (0, .ref h0), (1, .ref h3), (4, .ref h2), (5, .int (nI 0)), (13, .int (nI r))]) hx hb dX2_ideaFunc_148 hl (k := 5) rfl (nI_1 (6 * r + 4)) (by decide) rfl (fun ls hl => ?_)
      refine im_iald hx hb hK hP 1 0 rfl rfl (i := 6 * r + 4) (by omega) (by omega) (v := nI (K (6 * r + 4))) (hf _ (by omega)) dX2_ideaFunc_151 ?_
      refine vp_callSi (W.runV (As := [.int (nI (c2 ^^^ a1)), .int (nI (K (6 * r + 4)))]) (rest := []) ⟨hx, hb, hml, hown, hts⟩ (met_mul l h0 (im_x16 lc2 la1) (hKl _)) (cwV 2 hts (lw_V q277 q279 qs8 q15 q280) rfl rfl rfl (by decide +kernel) ⟨Nat.le_of_ble_eq_true rfl, Nat.le_of_ble_eq_true rfl⟩) ⟨im_P0.blind, va_recv hK hP (ci := 2) (q0 := 0) rfl rfl, im_P0.of⟩ rfl rfl hl.1 rfl (lv_room (Nat.le_of_ble_eq_true rfl)) dX2_ideaFunc_152 ⟨Nat.le_of_ble_eq_true rfl, Nat.le_of_ble_eq_true rfl⟩) (fun r_152 hr_152 => ?_)
      have hr_152 : r_152 = nI (mulS (c2 ^^^ a1) (K (6 * r + 4))) := hr_152
      subst hr_152
      obtain ⟨p0, hp0⟩ : ∃ z : Nat, z = mulS (c2 ^^^ a1) (K (6 * r + 4)) := ⟨_, rfl⟩
      refine im_top (y := nI p0) (by rw [hp0]) ?_
      have lp0 : p0 < 65536 := by rw [hp0]; exact mulS_lt _ _
      refine lv_istore (lv' := [(8, .int (nI p0)), (12, .int (nI (6 * r + 5))), (7, .int (nI (x1 ^^^ d1_))), (11, .int (nI c2)), (10, .int (nI x1)), (9, .int (nI d1_)), (6, .int (nI a1)), (0, .ref h0), (1, .ref h3), (4, .ref h2), (5, .int (nI 0)), (13, .int (nI r))]) hx hb dX2_ideaFunc_155 hl (by decide) rfl (fun ls hl => ?_)
      refine lv_iload hx hb dX2_ideaFunc_157 (lv_at hl 2 rfl) ?_
      refine lv_iload hx hb dX2_ideaFunc_159 (lv_at hl 0 rfl) ?_
      refine lv_iadd hx hb dX2_ideaFunc_161 ?_
      refine im_top (y := nI ((x1 ^^^ d1_) + p0)) (nI_add (x1 ^^^ d1_) p0) ?_
      refine lv_istore (lv' := [(7, .int (nI ((x1 ^^^ d1_) + p0))), (8, .int (nI p0)), (12, .int (nI (6 * r + 5))), (11, .int (nI c2)), (10, .int (nI x1)), (9, .int (nI d1_)), (6, .int (nI a1)), (0, .ref h0), (1, .ref h3), (4, .ref h2), (5, .int (nI 0)), (13, .int (nI r))]) hx hb dX2_ideaFunc_162 hl (by decide) rfl (fun ls hl => ?_)
      refine lv_iload hx hb dX2_ideaFunc_164 (lv_at hl 0 rfl) ?_
      refine lv_ldc hx hb hown (hts _ q128) dX2_ideaFunc_166 ?_
      refine lv_iand hx hb dX2_ideaFunc_168 ?_
      refine im_top (y := nI (((x1 ^^^ d1_) + p0) % 65536)) (nx_mod ((x1 ^^^ d1_) + p0)) ?_
      obtain ⟨y1, hy1⟩ : ∃ z : Nat, z = ((x1 ^^^ d1_) + p0) % 65536 := ⟨_, rfl⟩
      refine im_top (y := nI y1) (by rw [hy1]) ?_
      have ly1 : y1 < 65536 := by rw [hy1]; exact Nat.mod_lt _ (by decide)
      refine lv_istore (lv' := [(7, .int (nI y1)), (8, .int (nI p0)), (12, .int (nI (6 * r + 5))), (11, .int (nI c2)), (10, .int (nI x1)), (9, .int (nI d1_)), (6, .int (nI a1)), (0, .ref h0), (1, .ref h3), (4, .ref h2), (5, .int (nI 0)), (13, .int (nI r))]) hx hb dX2_ideaFunc_169 hl (by decide) rfl (fun ls hl => ?_)
      refine lv_aload_n hx hb dX2_ideaFunc_171 rfl (lv_at hl 7 rfl) ?_
      refine lv_iload hx hb dX2_ideaFunc_172 (lv_at hl 0 rfl) ?_
      refine lv_aload_n hx hb dX2_ideaFunc_174 rfl (lv_at hl 8 rfl) ?_
      refine lv_iload hx hb dX2_ideaFunc_175 (lv_at hl 2 rfl) ?_
      refine lv_iinc (v := nI (6 * r + 6)) (lv' := [(12, .int (nI (6 * r + 6))), (7, .int (nI y1)), (8, .int (nI p0)), (11, .int (nI c2)), (10, .int (nI x1)), (9, .int (nI d1_)), (6, .int (nI a1)), (0, .ref h0), (1, .ref h3), (4, .ref h2), (5, .int (nI 0)), (13, .int (nI r))]) hx hb dX2_ideaFunc_177 hl (k := 2) rfl (nI_1 (6 * r + 5)) (by decide) rfl (fun ls hl => ?_)
      refine im_iald hx hb hK hP 1 0 rfl rfl (i := 6 * r + 5) (by omega) (by omega) (v := nI (K (6 * r + 5))) (hf _ (by omega)) dX2_ideaFunc_180 ?_
      refine vp_callSi (W.runV (As := [.int (nI y1), .int (nI (K (6 * r + 5)))]) (rest := []) ⟨hx, hb, hml, hown, hts⟩ (met_mul l h0 ly1 (hKl _)) (cwV 2 hts (lw_V q277 q279 qs8 q15 q280) rfl rfl rfl (by decide +kernel) ⟨Nat.le_of_ble_eq_true rfl, Nat.le_of_ble_eq_true rfl⟩) ⟨im_P0.blind, va_recv hK hP (ci := 2) (q0 := 0) rfl rfl, im_P0.of⟩ rfl rfl hl.1 rfl (lv_room (Nat.le_of_ble_eq_true rfl)) dX2_ideaFunc_181 ⟨Nat.le_of_ble_eq_true rfl, Nat.le_of_ble_eq_true rfl⟩) (fun r_181 hr_181 => ?_)
      have hr_181 : r_181 = nI (mulS y1 (K (6 * r + 5))) := hr_181
      subst hr_181
      obtain ⟨q, hq⟩ : ∃ z : Nat, z = mulS y1 (K (6 * r + 5)) := ⟨_, rfl⟩
      refine im_top (y := nI q) (by rw [hq]) ?_
      have lq : q < 65536 := by rw [hq]; exact mulS_lt _ _
      refine lv_istore (lv' := [(7, .int (nI q)), (12, .int (nI (6 * r + 6))), (8, .int (nI p0)), (11, .int (nI c2)), (10, .int (nI x1)), (9, .int (nI d1_)), (6, .int (nI a1)), (0, .ref h0), (1, .ref h3), (4, .ref h2), (5, .int (nI 0)), (13, .int (nI r))]) hx hb dX2_ideaFunc_184 hl (by decide) rfl (fun ls hl => ?_)
      refine lv_iload hx hb dX2_ideaFunc_186 (lv_at hl 2 rfl) ?_
      refine lv_iload hx hb dX2_ideaFunc_188 (lv_at hl 0 rfl) ?_
      refine lv_iadd hx hb dX2_ideaFunc_190 ?_
      refine im_top (y := nI (p0 + q)) (nI_add p0 q) ?_
      refine lv_istore (lv' := [(8, .int (nI (p0 + q))), (7, .int (nI q)), (12, .int (nI (6 * r + 6))), (11, .int (nI c2)), (10, .int (nI x1)), (9, .int (nI d1_)), (6, .int (nI a1)), (0, .ref h0), (1, .ref h3), (4, .ref h2), (5, .int (nI 0)), (13, .int (nI r))]) hx hb dX2_ideaFunc_191 hl (by decide) rfl (fun ls hl => ?_)
      refine lv_iload hx hb dX2_ideaFunc_193 (lv_at hl 0 rfl) ?_
      refine lv_ldc hx hb hown (hts _ q128) dX2_ideaFunc_195 ?_
      refine lv_iand hx hb dX2_ideaFunc_197 ?_
      refine im_top (y := nI ((p0 + q) % 65536)) (nx_mod (p0 + q)) ?_
      obtain ⟨p1, hp1⟩ : ∃ z : Nat, z = (p0 + q) % 65536 := ⟨_, rfl⟩
      refine im_top (y := nI p1) (by rw [hp1]) ?_
      have lp1 : p1 < 65536 := by rw [hp1]; exact Nat.mod_lt _ (by decide)
      refine lv_istore (lv' := [(8, .int (nI p1)), (7, .int (nI q)), (12, .int (nI (6 * r + 6))), (11, .int (nI c2)), (10, .int (nI x1)), (9, .int (nI d1_)), (6, .int (nI a1)), (0, .ref h0), (1, .ref h3), (4, .ref h2), (5, .int (nI 0)), (13, .int (nI r))]) hx hb dX2_ideaFunc_198 hl (by decide) rfl (fun ls hl => ?_)
      refine lv_iload hx hb dX2_ideaFunc_200 (lv_at hl 6 rfl) ?_
      refine lv_iload hx hb dX2_ideaFunc_202 (lv_at hl 1 rfl) ?_
      refine lv_ixor hx hb dX2_ideaFunc_204 ?_
      refine im_top (y := nI (a1 ^^^ q)) (nx_xor a1 q) ?_
      refine lv_istore (lv' := [(6, .int (nI (a1 ^^^ q))), (8, .int (nI p1)), (7, .int (nI q)), (12, .int (nI (6 * r + 6))), (11, .int (nI c2)), (10, .int (nI x1)), (9, .int (nI d1_)), (0, .ref h0), (1, .ref h3), (4, .ref h2), (5, .int (nI 0)), (13, .int (nI r))]) hx hb dX2_ideaFunc_205 hl (by decide) rfl (fun ls hl => ?_)
      refine lv_iload hx hb dX2_ideaFunc_207 (lv_at hl 6 rfl) ?_
      refine lv_iload hx hb dX2_ideaFunc_209 (lv_at hl 1 rfl) ?_
      refine lv_ixor hx hb dX2_ideaFunc_211 ?_
      refine im_top (y := nI (d1_ ^^^ p1)) (nx_xor d1_ p1) ?_
      refine lv_istore (lv' := [(9, .int (nI (d1_ ^^^ p1))), (6, .int (nI (a1 ^^^ q))), (8, .int (nI p1)), (7, .int (nI q)), (12, .int (nI (6 * r + 6))), (11, .int (nI c2)), (10, .int (nI x1)), (0, .ref h0), (1, .ref h3), (4, .ref h2), (5, .int (nI 0)), (13, .int (nI r))]) hx hb dX2_ideaFunc_212 hl (by decide) rfl (fun ls hl => ?_)
      refine lv_iload hx hb dX2_ideaFunc_214 (lv_at hl 3 rfl) ?_
      refine lv_iload hx hb dX2_ideaFunc_216 (lv_at hl 5 rfl) ?_
      refine lv_ixor hx hb dX2_ideaFunc_218 ?_
      refine im_top (y := nI (q ^^^ c2)) (nx_xor q c2) ?_
      refine lv_istore (lv' := [(7, .int (nI (q ^^^ c2))), (9, .int (nI (d1_ ^^^ p1))), (6, .int (nI (a1 ^^^ q))), (8, .int (nI p1)), (12, .int (nI (6 * r + 6))), (11, .int (nI c2)), (10, .int (nI x1)), (0, .ref h0), (1, .ref h3), (4, .ref h2), (5, .int (nI 0)), (13, .int (nI r))]) hx hb dX2_ideaFunc_219 hl (by decide) rfl (fun ls hl => ?_)
      refine lv_iload hx hb dX2_ideaFunc_221 (lv_at hl 3 rfl) ?_
      refine lv_iload hx hb dX2_ideaFunc_223 (lv_at hl 6 rfl) ?_
      refine lv_ixor hx hb dX2_ideaFunc_225 ?_
      refine im_top (y := nI (p1 ^^^ x1)) (nx_xor p1 x1) ?_
      refine lv_istore (lv' := [(8, .int (nI (p1 ^^^ x1))), (7, .int (nI (q ^^^ c2))), (9, .int (nI (d1_ ^^^ p1))), (6, .int (nI (a1 ^^^ q))), (12, .int (nI (6 * r + 6))), (11, .int (nI c2)), (10, .int (nI x1)), (0, .ref h0), (1, .ref h3), (4, .ref h2), (5, .int (nI 0)), (13, .int (nI r))]) hx hb dX2_ideaFunc_226 hl (by decide) rfl (fun ls hl => ?_)
      refine lv_iinc (v := nI (r + 1)) (lv' := [(13, .int (nI (r + 1))), (8, .int (nI (p1 ^^^ x1))), (7, .int (nI (q ^^^ c2))), (9, .int (nI (d1_ ^^^ p1))), (6, .int (nI (a1 ^^^ q))), (12, .int (nI (6 * r + 6))), (11, .int (nI c2)), (10, .int (nI x1)), (0, .ref h0), (1, .ref h3), (4, .ref h2), (5, .int (nI 0))]) hx hb dX2_ideaFunc_228 hl (k := 11) rfl (nI_1 r) (by decide) rfl (fun ls hl => ?_)
      refine lv_goto (tgt := 45) hx hb dX2_ideaFunc_231 (by decide) ?_
      rw [show 6 * r + 6 = 6 * (r + 1) by omega] at hl
      rw [Nat.xor_comm c2 a1] at hp0
      rw [hy1] at hq
      rw [Nat.xor_comm q c2, Nat.xor_comm p1 x1] at hl
      exact ih _ _ _ ⟨r + 1, a1 ^^^ q, c2 ^^^ q, x1 ^^^ p1, d1_ ^^^ p1, by omega, by rw [rnds_s, ← hv, rnd_eq ha1 hx1 hc2 hd1_ hp0 hq hp1], im_x16 la1 lq, im_x16 lc2 lq, im_x16 lx1 lp1, im_x16 ld1_ lp1, rfl, rfl, lv_sub hl [8, 9, 10, 11, 4, 2, 1, 3, 5, 0] rfl⟩
end
section
/-! OBJECTS: KeyParameter, the engine -/
set_option maxHeartbeats 4000000 in
set_option maxRecDepth 100000 in
/-- KeyParameter(int) -/
theorem met_kp3 (l : Launch) (D : va_G) (sz : Nat) (h4 : Nat) : Met l yX3_init_3 (ws_ yX3_init_3 cX3_init_3 2 none) ({ frames := 1, cells := 1, slots := 16, locals := 12 }) (va_Pc [.ref h4, .int (nI 16)] (im_Pw D vwCl [(h4, .inr (3, [.null]))] [] sz)) (va_Qv (fun (u : Unit) => u = ()) (im_Bi D vwCl (va_A [(h4, .inr (3, [.null]))] sz) (fun (_ : Unit) (ra : Nat) (cA : ClassId) => [(h4, .inr (3, [.ref ra])), (ra, .inl (cA, 16, .inl (fun _ => 0)))]) .byte) (va_A [(h4, .inr (3, [.null]))] sz)) 1 16 (va_A [(h4, .inr (3, [.null]))] sz) := by
  refine Met.ofW (cc := cX3_init_3) (maxL := 2) (ret := none) (by decide) rfl ?_
  intro p e s m args below meth c s₁ B hml hv
  obtain ⟨rfl, hsz, hP, hK, hD0⟩ := hv
  have hx := B.exec
  have hb := B.bytes
  have hr := B.returns
  have hts := atoms_spec (ws := (ws_ yX3_init_3 cX3_init_3 2 none)) B.pre
  have hts : ∀ w ∈ lw_all, w.before _ s = true := fun w h => hts w (List.mem_cons_of_mem _ h)
  have hown : s.vm.findClass RX3 = some m.cls := findClass_of_methodNamed B.named
  have hlocks := B.notSynchronized
  have hin : meth.name = "<init>" := (name_of_methodNamed B.named B.method).1
  subst hsz
  have hD := hD0.self (sz := s.heap.size)
  generalize hAe : va_A [(h4, .inr (3, [.null]))] s.heap.size = A at hD ⊢
  have hA : ∀ q : Nat, s.heap.size ≤ q → A q := fun q h => by rw [← hAe]; exact Or.inr h
  have hS : va_S A s.heap s.heap [] := va_S.rf
  have hP : va_P D vwCl [(h4, .inr (3, [.null]))] s.heap := hP
  have hl := lv_entry ([.ref h4, .int (nI 16)]) (n := 2) (Nat.le_of_ble_eq_true rfl)
  rw [lg_entry_eq]
  generalize (lg_sl ([.ref h4, .int (nI 16)]) ++ List.replicate (2 - (lg_sl ([.ref h4, .int (nI 16)])).length) Slot.unset).toArray = ls at hl ⊢
  have hl : lv_has ls 2 [(0, .ref h4), (1, .int (nI 16))] := hl
  refine lv_aload_n hx hb dX3_init_3_0 rfl (lv_at hl 0 rfl) ?_
  refine W.objInit hx hb hown (hts _ q91) (hts _ q32) (hts _ q33) rfl (by rw [hml]; exact hl.1) rfl dX3_init_3_1 (Nat.le_of_ble_eq_true rfl) (Nat.le_of_ble_eq_true rfl) ?_
  refine W.eq (g2 := F0 m 4 ls []) rfl ?_
  refine lv_aload_n hx hb dX3_init_3_4 rfl (lv_at hl 0 rfl) ?_
  refine lv_iload_n hx hb dX3_init_3_5 rfl (lv_at hl 1 rfl) ?_
  refine va_newa (atype := .byte) (ty := .byte) (N' := 16) (a0 := (16, .inl (fun _ => 0))) hx hb (hts _ q44) rfl hK hP hD hS hA (fun _ => rfl) (nI_pos (n := 16) (by omega)) (nI_clamp (n := 16) (by omega)) (Nat.le_of_ble_eq_true rfl) (Nat.le_of_ble_eq_true rfl) (Nat.le_of_ble_eq_true rfl) dX3_init_3_6 (fun a_6 da_6 H hK hP hD hS => ?_)
  have hK : va_K D vwCl [(da_6, .byte)] s := hK
  have hP : va_P D vwCl [(h4, .inr (3, [.null])), (a_6, .inl (da_6, 16, .inl (fun _ => 0)))] H := hP
  have hD : va_D A [(h4, .inr (3, [.null])), (a_6, .inl (da_6, 16, .inl (fun _ => 0)))] := hD
  refine va_put (ci := 3) (v := .ref a_6) (ty := .array .byte) (C := RX3) (T := TX3) (N := 1) hx hb hts in_X3 tyX3 tyX3_ok nmX3 hown hK hP hD hS 0 rfl rfl 0 (by decide) (hts _ q92) (fun _ h9 => h9) rfl (by decide +kernel) rfl rfl (Nat.le_of_ble_eq_true rfl) dX3_init_3_8 (fun H locs hP hD hS => ?_)
  have hP : va_P D vwCl [(h4, .inr (3, [.ref a_6])), (a_6, .inl (da_6, 16, .inl (fun _ => 0)))] H := hP
  have hD : va_D A [(h4, .inr (3, [.ref a_6])), (a_6, .inl (da_6, 16, .inl (fun _ => 0)))] := hD
  have hP9 := hP.sub (ws' := [(h4, .inr (3, [.ref a_6])), (a_6, .inl (da_6, 16, .inl (fun _ => 0)))]) [0, 1] rfl
  have hD9 := hD.sub (ws' := [(h4, .inr (3, [.ref a_6])), (a_6, .inl (da_6, 16, .inl (fun _ => 0)))]) [0, 1] (by decide) rfl
  have hK9 := hK.sub (tys' := [(da_6, .byte)]) [0] rfl
  refine W.widen (k := 1) (n := 16) (Nat.le_of_ble_eq_true rfl) (Nat.le_of_ble_eq_true rfl) ?_
  exact W.vret hx hb hr (fun t ht hW => ⟨⟨(), rfl, rfl, a_6, da_6, by rw [ht]; exact hP9, va_K.moved hW.alike hK9, hD9⟩, hS.F ht⟩) hS.2.2 dX3_init_3_11
set_option maxHeartbeats 4000000 in
set_option maxRecDepth 100000 in
/-- KeyParameter(byte[], int, int) -/
theorem met_kp2 (l : Launch) (D : va_G) (sz : Nat) (h4 h1 : Nat) (d1 : ClassId) (f : Nat → Int32) (hfit : ∀ i, i < 16 → fits .byte (.int (f i)) = true) : Met l yX3_init_2 (ws_ yX3_init_2 cX3_init_2 4 none) ({ frames := 2, cells := 1, slots := 16, locals := 60 }) (va_Pc [.ref h4, .ref h1, .int (nI 0), .int (nI 16)] (im_Pw D vwCl [(h4, .inr (3, [.null])), (h1, .inl (d1, 16, .inl f))] [(d1, .byte)] sz)) (va_Qv (fun (u : Unit) => u = ()) (im_Bi D vwCl (va_A [(h4, .inr (3, [.null])), (h1, .inl (d1, 16, .inl f))] sz) (fun (_ : Unit) (ra : Nat) (cA : ClassId) => [(h4, .inr (3, [.ref ra])), (h1, .inl (d1, 16, .inl f)), (ra, .inl (cA, 16, .inl (va_cpy f (fun _ => 0) 0 0 16)))]) .byte) (va_A [(h4, .inr (3, [.null])), (h1, .inl (d1, 16, .inl f))] sz)) 1 16 (va_A [(h4, .inr (3, [.null])), (h1, .inl (d1, 16, .inl f))] sz) := by
  refine Met.ofW (cc := cX3_init_2) (maxL := 4) (ret := none) (by decide) rfl ?_
  intro p e s m args below meth c s₁ B hml hv
  obtain ⟨rfl, hsz, hP, hK, hD0⟩ := hv
  have hx := B.exec
  have hb := B.bytes
  have hr := B.returns
  have hts := atoms_spec (ws := (ws_ yX3_init_2 cX3_init_2 4 none)) B.pre
  have hts : ∀ w ∈ lw_all, w.before _ s = true := fun w h => hts w (List.mem_cons_of_mem _ h)
  have hown : s.vm.findClass RX3 = some m.cls := findClass_of_methodNamed B.named
  have hlocks := B.notSynchronized
  have hin : meth.name = "<init>" := (name_of_methodNamed B.named B.method).1
  subst hsz
  have hD := hD0.self (sz := s.heap.size)
  generalize hAe : va_A [(h4, .inr (3, [.null])), (h1, .inl (d1, 16, .inl f))] s.heap.size = A at hD ⊢
  have hA : ∀ q : Nat, s.heap.size ≤ q → A q := fun q h => by rw [← hAe]; exact Or.inr h
  have hS : va_S A s.heap s.heap [] := va_S.rf
  have hP : va_P D vwCl [(h4, .inr (3, [.null])), (h1, .inl (d1, 16, .inl f))] s.heap := hP
  have hl := lv_entry ([.ref h4, .ref h1, .int (nI 0), .int (nI 16)]) (n := 4) (Nat.le_of_ble_eq_true rfl)
  rw [lg_entry_eq]
  generalize (lg_sl ([.ref h4, .ref h1, .int (nI 0), .int (nI 16)]) ++ List.replicate (4 - (lg_sl ([.ref h4, .ref h1, .int (nI 0), .int (nI 16)])).length) Slot.unset).toArray = ls at hl ⊢
  have hl : lv_has ls 4 [(0, .ref h4), (1, .ref h1), (2, .int (nI 0)), (3, .int (nI 16))] := hl
  refine lv_aload_n hx hb dX3_init_2_0 rfl (lv_at hl 0 rfl) ?_
  refine lv_iload_n hx hb dX3_init_2_1 rfl (lv_at hl 3 rfl) ?_
  have hPc := hP.sub (ws' := [(h4, .inr (3, [.null]))]) [0] rfl
  have hKc := hK.sub (tys' := []) [] rfl
  have hDc := hD.sub (ws' := [(h4, .inr (3, [.null]))]) [0] (by decide) rfl
  have hFc := va_free (wc := [(h4, .inr (3, [.null]))]) hD hS hA [0] rfl
  refine va_callv (va_runI (As := [.int (nI 16)]) (rest := []) ⟨hx, hb, hml, hown, hts⟩ (met_kp3 l D s.heap.size h4) (cwI 1 hts (lw_meth q90) rfl rfl rfl (hts _ q16) (hts _ q88) (hts _ q89) rfl (by decide +kernel) ⟨Nat.le_of_ble_eq_true rfl, Nat.le_of_ble_eq_true rfl⟩) ⟨im_Pw.blind, im_Pw.of hPc hKc hDc⟩ rfl rfl hl.1 rfl (lv_room (Nat.le_of_ble_eq_true rfl)) dX3_init_2_2 ⟨Nat.le_of_ble_eq_true rfl, Nat.le_of_ble_eq_true rfl⟩) hS (fun q _ h => hFc q h) hFc (fun u t H1 locs ht hvm eu hB hz1 hk1 hS => ?_)
  obtain ⟨ra, dra, hP1, hK1, hD1⟩ := hB
  rw [ht] at hP1
  obtain ⟨hP, hD⟩ := va_join (wr := [(h1, .inl (d1, 16, .inl f))]) (w1 := [(h4, .inr (3, [.ref ra])), (ra, .inl (dra, 16, .inl (fun _ => 0)))]) hP hD [0] [1] rfl rfl (by decide) (by decide) hk1 hFc hP1 hD1
  have hK1 := va_K.moved hvm.symm hK1
  have hK : va_K D vwCl [(d1, .byte), (dra, .byte)] s := hK.app hK1
  generalize H1 = H at hP hS ⊢
  have hP : va_P D vwCl [(h1, .inl (d1, 16, .inl f)), (h4, .inr (3, [.ref ra])), (ra, .inl (dra, 16, .inl (fun _ => 0)))] H := hP
  have hD : va_D A [(h1, .inl (d1, 16, .inl f)), (h4, .inr (3, [.ref ra])), (ra, .inl (dra, 16, .inl (fun _ => 0)))] := hD
  have hfit2 : ∀ i, i < (nI 16).toNatClampNeg → fits .byte (.int (f ((nI 0).toNatClampNeg + i))) = true := by
    intro i hi
    rw [nI_clamp (n := 16) (by omega)] at hi
    rw [nI_clamp (n := 0) (by omega), Nat.zero_add]
    exact hfit i hi
  refine lv_aload_n hx hb dX3_init_2_5 rfl (lv_at hl 1 rfl) ?_
  refine lv_iload_n hx hb dX3_init_2_6 rfl (lv_at hl 2 rfl) ?_
  refine lv_aload_n hx hb dX3_init_2_7 rfl (lv_at hl 0 rfl) ?_
  refine va_get (ci := 3) (v := .ref ra) (C := RX3) (T := TX3) (N := 1) hx hb hts in_X3 hown hK hP 1 rfl rfl 0 (by decide) (hts _ q92) (fun _ h9 => h9) rfl dX3_init_2_8 ?_
  refine lv_iconst (v := nI 0) hx hb dX3_init_2_11 (by decide) ?_
  refine lv_iload_n hx hb dX3_init_2_12 rfl (lv_at hl 3 rfl) ?_
  refine va_copyi hx hb (by rw [hml]; exact hl.1.symm) hown (hts _ q96) (hts _ q98) (hts _ q97) (hts _ q17) hK hP hD hS 0 2 0 1 (ty := .byte) rfl rfl rfl rfl rfl (nI_pos (n := 0) (by omega)) (nI_pos (n := 0) (by omega)) (nI_pos (n := 16) (by omega)) (by decide) (by decide) (hfit2) (Nat.le_of_ble_eq_true rfl) (Nat.le_of_ble_eq_true rfl) dX3_init_2_13 (fun H locs hP hD hS => ?_)
  have hP : va_P D vwCl [(h1, .inl (d1, 16, .inl f)), (h4, .inr (3, [.ref ra])), (ra, .inl (dra, 16, .inl (va_cpy f (fun _ => 0) (nI 0).toNatClampNeg (nI 0).toNatClampNeg (nI 16).toNatClampNeg)))] H := hP
  have hD : va_D A [(h1, .inl (d1, 16, .inl f)), (h4, .inr (3, [.ref ra])), (ra, .inl (dra, 16, .inl (va_cpy f (fun _ => 0) (nI 0).toNatClampNeg (nI 0).toNatClampNeg (nI 16).toNatClampNeg)))] := hD
  rw [nI_clamp (n := 0) (by omega), nI_clamp (n := 16) (by omega)] at hP hD
  have hP9 := hP.sub (ws' := [(h4, .inr (3, [.ref ra])), (h1, .inl (d1, 16, .inl f)), (ra, .inl (dra, 16, .inl (va_cpy f (fun _ => 0) 0 0 16)))]) [1, 0, 2] rfl
  have hD9 := hD.sub (ws' := [(h4, .inr (3, [.ref ra])), (h1, .inl (d1, 16, .inl f)), (ra, .inl (dra, 16, .inl (va_cpy f (fun _ => 0) 0 0 16)))]) [1, 0, 2] (by decide) rfl
  have hK9 := hK.sub (tys' := [(dra, .byte)]) [1] rfl
  refine W.widen (k := 1) (n := 16) (Nat.le_of_ble_eq_true rfl) (Nat.le_of_ble_eq_true rfl) ?_
  exact W.vret hx hb hr (fun t ht hW => ⟨⟨(), rfl, rfl, ra, dra, by rw [ht]; exact hP9, va_K.moved hW.alike hK9, hD9⟩, hS.F ht⟩) hS.2.2 dX3_init_2_16
set_option maxHeartbeats 4000000 in
set_option maxRecDepth 100000 in
/-- KeyParameter(byte[]) -/
theorem met_kp (l : Launch) (D : va_G) (sz : Nat) (h4 h1 : Nat) (d1 : ClassId) (f : Nat → Int32) (hfit : ∀ i, i < 16 → fits .byte (.int (f i)) = true) : Met l yX3_init (ws_ yX3_init cX3_init 2 none) ({ frames := 3, cells := 1, slots := 16, locals := 83 }) (va_Pc [.ref h4, .ref h1] (im_Pw D vwCl [(h4, .inr (3, [.null])), (h1, .inl (d1, 16, .inl f))] [(d1, .byte)] sz)) (va_Qv (fun (u : Unit) => u = ()) (im_Bi D vwCl (va_A [(h4, .inr (3, [.null])), (h1, .inl (d1, 16, .inl f))] sz) (fun (_ : Unit) (ra : Nat) (cA : ClassId) => [(h4, .inr (3, [.ref ra])), (h1, .inl (d1, 16, .inl f)), (ra, .inl (cA, 16, .inl (va_cpy f (fun _ => 0) 0 0 16)))]) .byte) (va_A [(h4, .inr (3, [.null])), (h1, .inl (d1, 16, .inl f))] sz)) 1 16 (va_A [(h4, .inr (3, [.null])), (h1, .inl (d1, 16, .inl f))] sz) := by
  refine Met.ofW (cc := cX3_init) (maxL := 2) (ret := none) (by decide) rfl ?_
  intro p e s m args below meth c s₁ B hml hv
  obtain ⟨rfl, hsz, hP, hK, hD0⟩ := hv
  have hx := B.exec
  have hb := B.bytes
  have hr := B.returns
  have hts := atoms_spec (ws := (ws_ yX3_init cX3_init 2 none)) B.pre
  have hts : ∀ w ∈ lw_all, w.before _ s = true := fun w h => hts w (List.mem_cons_of_mem _ h)
  have hown : s.vm.findClass RX3 = some m.cls := findClass_of_methodNamed B.named
  have hlocks := B.notSynchronized
  have hin : meth.name = "<init>" := (name_of_methodNamed B.named B.method).1
  subst hsz
  have hD := hD0.self (sz := s.heap.size)
  generalize hAe : va_A [(h4, .inr (3, [.null])), (h1, .inl (d1, 16, .inl f))] s.heap.size = A at hD ⊢
  have hA : ∀ q : Nat, s.heap.size ≤ q → A q := fun q h => by rw [← hAe]; exact Or.inr h
  have hS : va_S A s.heap s.heap [] := va_S.rf
  have hP : va_P D vwCl [(h4, .inr (3, [.null])), (h1, .inl (d1, 16, .inl f))] s.heap := hP
  have hl := lv_entry ([.ref h4, .ref h1]) (n := 2) (Nat.le_of_ble_eq_true rfl)
  rw [lg_entry_eq]
  generalize (lg_sl ([.ref h4, .ref h1]) ++ List.replicate (2 - (lg_sl ([.ref h4, .ref h1])).length) Slot.unset).toArray = ls at hl ⊢
  have hl : lv_has ls 2 [(0, .ref h4), (1, .ref h1)] := hl
  refine lv_aload_n hx hb dX3_init_0 rfl (lv_at hl 0 rfl) ?_
  refine lv_aload_n hx hb dX3_init_1 rfl (lv_at hl 1 rfl) ?_
  refine lv_iconst (v := nI 0) hx hb dX3_init_2 (by decide) ?_
  refine lv_aload_n hx hb dX3_init_3 rfl (lv_at hl 1 rfl) ?_
  refine va_alen (v := nI 16) hx hb hK hP 1 0 rfl rfl rfl dX3_init_4 ?_
  have hPc := hP.sub (ws' := [(h4, .inr (3, [.null])), (h1, .inl (d1, 16, .inl f))]) [0, 1] rfl
  have hKc := hK.sub (tys' := [(d1, .byte)]) [0] rfl
  have hDc := hD.sub (ws' := [(h4, .inr (3, [.null])), (h1, .inl (d1, 16, .inl f))]) [0, 1] (by decide) rfl
  have hFc := va_free (wc := [(h4, .inr (3, [.null])), (h1, .inl (d1, 16, .inl f))]) hD hS hA [0, 1] rfl
  refine va_callv (va_runI (As := [.ref h1, .int (nI 0), .int (nI 16)]) (rest := []) ⟨hx, hb, hml, hown, hts⟩ (met_kp2 l D s.heap.size h4 h1 d1 f hfit) (cwI 3 hts (lw_meth q87) rfl rfl rfl (hts _ q16) (hts _ q85) (hts _ q86) rfl (by decide +kernel) ⟨Nat.le_of_ble_eq_true rfl, Nat.le_of_ble_eq_true rfl⟩) ⟨im_Pw.blind, im_Pw.of hPc hKc hDc⟩ rfl rfl hl.1 rfl (lv_room (Nat.le_of_ble_eq_true rfl)) dX3_init_5 ⟨Nat.le_of_ble_eq_true rfl, Nat.le_of_ble_eq_true rfl⟩) hS (fun q _ h => hFc q h) hFc (fun u t H1 locs ht hvm eu hB hz1 hk1 hS => ?_)
  obtain ⟨ra, dra, hP1, hK1, hD1⟩ := hB
  rw [ht] at hP1
  obtain ⟨hP, hD⟩ := va_join (wr := []) (w1 := [(h4, .inr (3, [.ref ra])), (h1, .inl (d1, 16, .inl f)), (ra, .inl (dra, 16, .inl (va_cpy f (fun _ => 0) 0 0 16)))]) hP hD [0, 1] [] rfl rfl (by decide) (by decide) hk1 hFc hP1 hD1
  have hK1 := va_K.moved hvm.symm hK1
  have hK : va_K D vwCl [(d1, .byte), (dra, .byte)] s := hK.app hK1
  generalize H1 = H at hP hS ⊢
  have hP : va_P D vwCl [(h4, .inr (3, [.ref ra])), (h1, .inl (d1, 16, .inl f)), (ra, .inl (dra, 16, .inl (va_cpy f (fun _ => 0) 0 0 16)))] H := hP
  have hD : va_D A [(h4, .inr (3, [.ref ra])), (h1, .inl (d1, 16, .inl f)), (ra, .inl (dra, 16, .inl (va_cpy f (fun _ => 0) 0 0 16)))] := hD
  have hP9 := hP.sub (ws' := [(h4, .inr (3, [.ref ra])), (h1, .inl (d1, 16, .inl f)), (ra, .inl (dra, 16, .inl (va_cpy f (fun _ => 0) 0 0 16)))]) [0, 1, 2] rfl
  have hD9 := hD.sub (ws' := [(h4, .inr (3, [.ref ra])), (h1, .inl (d1, 16, .inl f)), (ra, .inl (dra, 16, .inl (va_cpy f (fun _ => 0) 0 0 16)))]) [0, 1, 2] (by decide) rfl
  have hK9 := hK.sub (tys' := [(dra, .byte)]) [1] rfl
  refine W.widen (k := 1) (n := 16) (Nat.le_of_ble_eq_true rfl) (Nat.le_of_ble_eq_true rfl) ?_
  exact W.vret hx hb hr (fun t ht hW => ⟨⟨(), rfl, rfl, ra, dra, by rw [ht]; exact hP9, va_K.moved hW.alike hK9, hD9⟩, hS.F ht⟩) hS.2.2 dX3_init_8
set_option maxHeartbeats 4000000 in
set_option maxRecDepth 100000 in
/-- KeyParameter.getKey -/
theorem met_getKey (l : Launch) (D : va_G) (h4 h1 : Nat) : Met l yX3_getKey (ws_ yX3_getKey cX3_getKey 1 (some (.array .byte))) ({ frames := 0, cells := 0, slots := 0, locals := 0 }) (va_Pc [.ref h4] (im_Pr D vwCl [(h4, .inr (3, [.ref h1]))] [])) (va_Sr (fun _ => True) (fun _ => .ref h1)) 0 0 (fun _ => False) := by
  refine Met.ofW (cc := cX3_getKey) (maxL := 1) (ret := (some (.array .byte))) (by decide) rfl ?_
  intro p e s m args below meth c s₁ B hml hv
  obtain ⟨rfl, hP, hK⟩ := hv
  have hx := B.exec
  have hb := B.bytes
  have hr := B.returns
  have hts := atoms_spec (ws := (ws_ yX3_getKey cX3_getKey 1 (some (.array .byte)))) B.pre
  have hts : ∀ w ∈ lw_all, w.before _ s = true := fun w h => hts w (List.mem_cons_of_mem _ h)
  have hown : s.vm.findClass RX3 = some m.cls := findClass_of_methodNamed B.named
  have hlocks := B.notSynchronized
  have hl := lv_entry ([.ref h4]) (n := 1) (Nat.le_of_ble_eq_true rfl)
  rw [lg_entry_eq]
  generalize (lg_sl ([.ref h4]) ++ List.replicate (1 - (lg_sl ([.ref h4])).length) Slot.unset).toArray = ls at hl ⊢
  have hl : lv_has ls 1 [(0, .ref h4)] := hl
  refine lv_aload_n hx hb dX3_getKey_0 rfl (lv_at hl 0 rfl) ?_
  refine va_get (ci := 3) (v := .ref h1) (C := RX3) (T := TX3) (N := 1) hx hb hts in_X3 hown hK hP 0 rfl rfl 0 (by decide) (hts _ q92) (fun _ h9 => h9) rfl dX3_getKey_1 ?_
  exact W.aret (v := .ref h1) hx hb hr (Or.inr ⟨_, rfl⟩) (Or.inr ⟨_, rfl⟩) (fun t ht hW => ⟨0, rfl, trivial, ht⟩) (fun q hq => by cases hq) dX3_getKey_4
set_option maxHeartbeats 4000000 in
set_option maxRecDepth 100000 in
/-- IDEAEngine() -/
theorem met_eng0 (l : Launch) (D : va_G) (sz : Nat) (h0 : Nat) : Met l yX2_init (ws_ yX2_init cX2_init 1 none) ({ frames := 1, cells := 0, slots := 0, locals := 12 }) (va_Pc [.ref h0] (im_Pw D vwCl [(h0, .inr (2, [.null, .int 0]))] [] sz)) (va_Qv (fun (u : Unit) => u = ()) (im_B D vwCl (va_A [(h0, .inr (2, [.null, .int 0]))] sz) (fun (u : Unit) => [(h0, .inr (2, [.null, .int 0]))])) (va_A [(h0, .inr (2, [.null, .int 0]))] sz)) 0 0 (va_A [(h0, .inr (2, [.null, .int 0]))] sz) := by
  refine Met.ofW (cc := cX2_init) (maxL := 1) (ret := none) (by decide) rfl ?_
  intro p e s m args below meth c s₁ B hml hv
  obtain ⟨rfl, hsz, hP, hK, hD0⟩ := hv
  have hx := B.exec
  have hb := B.bytes
  have hr := B.returns
  have hts := atoms_spec (ws := (ws_ yX2_init cX2_init 1 none)) B.pre
  have hts : ∀ w ∈ lw_all, w.before _ s = true := fun w h => hts w (List.mem_cons_of_mem _ h)
  have hown : s.vm.findClass RX2 = some m.cls := findClass_of_methodNamed B.named
  have hlocks := B.notSynchronized
  have hin : meth.name = "<init>" := (name_of_methodNamed B.named B.method).1
  subst hsz
  have hD := hD0.self (sz := s.heap.size)
  generalize hAe : va_A [(h0, .inr (2, [.null, .int 0]))] s.heap.size = A at hD ⊢
  have hA : ∀ q : Nat, s.heap.size ≤ q → A q := fun q h => by rw [← hAe]; exact Or.inr h
  have hS : va_S A s.heap s.heap [] := va_S.rf
  have hP : va_P D vwCl [(h0, .inr (2, [.null, .int 0]))] s.heap := hP
  have hl := lv_entry ([.ref h0]) (n := 1) (Nat.le_of_ble_eq_true rfl)
  rw [lg_entry_eq]
  generalize (lg_sl ([.ref h0]) ++ List.replicate (1 - (lg_sl ([.ref h0])).length) Slot.unset).toArray = ls at hl ⊢
  have hl : lv_has ls 1 [(0, .ref h0)] := hl
  refine lv_aload_n hx hb dX2_init_0 rfl (lv_at hl 0 rfl) ?_
  refine W.objInit hx hb hown (hts _ q72) (hts _ q32) (hts _ q33) rfl (by rw [hml]; exact hl.1) rfl dX2_init_1 (Nat.le_of_ble_eq_true rfl) (Nat.le_of_ble_eq_true rfl) ?_
  refine W.eq (g2 := F0 m 4 ls []) rfl ?_
  refine lv_aload_n hx hb dX2_init_4 rfl (lv_at hl 0 rfl) ?_
  refine lv_null hx hb dX2_init_5 ?_
  refine va_put (ci := 2) (v := .null) (ty := .array .int) (C := RX2) (T := TX2) (N := 2) hx hb hts in_X2 tyX2 tyX2_ok nmX2 hown hK hP hD hS 0 rfl rfl 0 (by decide) (hts _ q73) (fun _ h9 => h9) rfl (by decide +kernel) rfl rfl (Nat.le_of_ble_eq_true rfl) dX2_init_6 (fun H locs hP hD hS => ?_)
  have hP : va_P D vwCl [(h0, .inr (2, [.null, .int 0]))] H := hP
  have hD : va_D A [(h0, .inr (2, [.null, .int 0]))] := hD
  have hP9 := hP.sub (ws' := [(h0, .inr (2, [.null, .int 0]))]) [0] rfl
  have hD9 := hD.sub (ws' := [(h0, .inr (2, [.null, .int 0]))]) [0] (by decide) rfl
  exact W.vret hx hb hr (fun t ht hW => ⟨⟨(), rfl, rfl, by rw [ht]; exact hP9, hD9⟩, hS.F ht⟩) hS.2.2 dX2_init_9
set_option maxHeartbeats 8000000 in
set_option maxRecDepth 100000 in
/-- IDEAEngine.generateWorkingKey -/
theorem met_gwk (l : Launch) (D : va_G) (sz : Nat) (h0 h1 : Nat) (v1 v2 : Value) (d1 : ClassId) (f : Nat → Int32) (bb : Nat) (hbb : bb < 2) : Met l yX2_generateWorkingKey (ws_ yX2_generateWorkingKey cX2_generateWorkingKey 3 (some (.array .int))) ({ frames := 2, cells := 2, slots := 104, locals := 54 }) (va_Pc [.ref h0, .int (nI bb), .ref h1] (im_Pw D vwCl [(h0, .inr (2, [v1, v2])), (h1, .inl (d1, 16, .inl f))] [(d1, .byte)] sz)) (va_Qr (fun (u : Nat → Int32) => ∀ i, i < 52 → u i = nI (keyB bb f i)) (im_Br D vwCl (va_A [(h0, .inr (2, [v1, v2])), (h1, .inl (d1, 16, .inl f))] sz) (fun (u : Nat → Int32) (ra : Nat) (cA : ClassId) => [(h0, .inr (2, [v1, v2])), (h1, .inl (d1, 16, .inl f)), (ra, .inl (cA, 52, .inl u))]) .int) (va_A [(h0, .inr (2, [v1, v2])), (h1, .inl (d1, 16, .inl f))] sz)) 2 104 (va_A [(h0, .inr (2, [v1, v2])), (h1, .inl (d1, 16, .inl f))] sz) := by
  refine Met.ofW (cc := cX2_generateWorkingKey) (maxL := 3) (ret := (some (.array .int))) (by decide) rfl ?_
  intro p e s m args below meth c s₁ B hml hv
  obtain ⟨rfl, hsz, hP, hK, hD0⟩ := hv
  have hx := B.exec
  have hb := B.bytes
  have hr := B.returns
  have hts := atoms_spec (ws := (ws_ yX2_generateWorkingKey cX2_generateWorkingKey 3 (some (.array .int)))) B.pre
  have hts : ∀ w ∈ lw_all, w.before _ s = true := fun w h => hts w (List.mem_cons_of_mem _ h)
  have hown : s.vm.findClass RX2 = some m.cls := findClass_of_methodNamed B.named
  have hlocks := B.notSynchronized
  subst hsz
  have hD := hD0.self (sz := s.heap.size)
  generalize hAe : va_A [(h0, .inr (2, [v1, v2])), (h1, .inl (d1, 16, .inl f))] s.heap.size = A at hD ⊢
  have hA : ∀ q : Nat, s.heap.size ≤ q → A q := fun q h => by rw [← hAe]; exact Or.inr h
  have hS : va_S A s.heap s.heap [] := va_S.rf
  have hP : va_P D vwCl [(h0, .inr (2, [v1, v2])), (h1, .inl (d1, 16, .inl f))] s.heap := hP
  have hl := lv_entry ([.ref h0, .int (nI bb), .ref h1]) (n := 3) (Nat.le_of_ble_eq_true rfl)
  rw [lg_entry_eq]
  generalize (lg_sl ([.ref h0, .int (nI bb), .ref h1]) ++ List.replicate (3 - (lg_sl ([.ref h0, .int (nI bb), .ref h1])).length) Slot.unset).toArray = ls at hl ⊢
  have hl : lv_has ls 3 [(0, .ref h0), (1, .int (nI bb)), (2, .ref h1)] := hl
  refine lv_iload_n hx hb dX2_generateWorkingKey_0 rfl (lv_at hl 1 rfl) ?_
  refine lv_if_eq (tgt := 10) hx hb dX2_generateWorkingKey_1 (by decide) (fun c_1 => ?_) (fun c_1 => ?_)
  · have c_1 : bb = 0 := (nI_eq (a := bb) (b := 0) (by omega) (by omega)).mp c_1
    refine lv_aload_n hx hb dX2_generateWorkingKey_10 rfl (lv_at hl 0 rfl) ?_
    refine lv_aload_n hx hb dX2_generateWorkingKey_11 rfl (lv_at hl 0 rfl) ?_
    refine lv_aload_n hx hb dX2_generateWorkingKey_12 rfl (lv_at hl 2 rfl) ?_
    have hPc := hP.sub (ws' := [(h0, .inr (2, [v1, v2])), (h1, .inl (d1, 16, .inl f))]) [0, 1] rfl
    have hKc := hK.sub (tys' := [(d1, .byte)]) [0] rfl
    have hDc := hD.sub (ws' := [(h0, .inr (2, [v1, v2])), (h1, .inl (d1, 16, .inl f))]) [0, 1] (by decide) rfl
    have hFc := va_free (wc := [(h0, .inr (2, [v1, v2])), (h1, .inl (d1, 16, .inl f))]) hD hS hA [0, 1] rfl
    refine va_callr (va_runV (As := [.ref h1]) (rest := [.ref h0]) ⟨hx, hb, hml, hown, hts⟩ (met_expand l D s.heap.size h0 h1 v1 v2 d1 f) (cwV 1 hts (lw_V q118 q120 qs2 q15 q121) rfl rfl rfl (by decide +kernel) ⟨Nat.le_of_ble_eq_true rfl, Nat.le_of_ble_eq_true rfl⟩) ⟨im_Pw.blind, va_recv hK hP (ci := 2) (q0 := 0) rfl rfl, im_Pw.of hPc hKc hDc⟩ rfl rfl hl.1 rfl (lv_room (Nat.le_of_ble_eq_true rfl)) dX2_generateWorkingKey_13 ⟨Nat.le_of_ble_eq_true rfl, Nat.le_of_ble_eq_true rfl⟩) hS (fun q _ h => hFc q h) hFc (fun u1 r1 t H1 locs ht hvm eu1 hB hz1 hk1 hS => ?_)
    have eu1 : ∀ i, i < 52 → u1 i = nI (ks f i) := eu1
    obtain ⟨dr1, hP1, hK1, hD1⟩ := hB
    rw [ht] at hP1
    obtain ⟨hP, hD⟩ := va_join (wr := []) (w1 := [(h0, .inr (2, [v1, v2])), (h1, .inl (d1, 16, .inl f)), (r1, .inl (dr1, 52, .inl u1))]) hP hD [0, 1] [] rfl rfl (by decide) (by decide) hk1 hFc hP1 hD1
    have hK1 := va_K.moved hvm.symm hK1
    have hK : va_K D vwCl [(d1, .byte), (dr1, .int)] s := hK.app hK1
    generalize H1 = H at hP hS ⊢
    have hP : va_P D vwCl [(h0, .inr (2, [v1, v2])), (h1, .inl (d1, 16, .inl f)), (r1, .inl (dr1, 52, .inl u1))] H := hP
    have hD : va_D A [(h0, .inr (2, [v1, v2])), (h1, .inl (d1, 16, .inl f)), (r1, .inl (dr1, 52, .inl u1))] := hD
    have hPc := hP.sub (ws' := [(h0, .inr (2, [v1, v2])), (r1, .inl (dr1, 52, .inl u1))]) [0, 2] rfl
    have hKc := hK.sub (tys' := [(dr1, .int)]) [1] rfl
    have hDc := hD.sub (ws' := [(h0, .inr (2, [v1, v2])), (r1, .inl (dr1, 52, .inl u1))]) [0, 2] (by decide) rfl
    have hFc := va_free (wc := [(h0, .inr (2, [v1, v2])), (r1, .inl (dr1, 52, .inl u1))]) hD hS hA [0, 2] rfl
    refine va_callr (va_runV (As := [.ref r1]) (rest := []) ⟨hx, hb, hml, hown, hts⟩ (met_invert l D H.size h0 r1 v1 v2 dr1 u1 (ks f) eu1 (ks_lt f)) (cwV 1 hts (lw_V q129 q131 qs4 q15 q132) rfl rfl rfl (by decide +kernel) ⟨Nat.le_of_ble_eq_true rfl, Nat.le_of_ble_eq_true rfl⟩) ⟨im_Pw.blind, va_recv hK hP (ci := 2) (q0 := 0) rfl rfl, im_Pw.of hPc hKc hDc⟩ rfl rfl hl.1 rfl (lv_room (Nat.le_of_ble_eq_true rfl)) dX2_generateWorkingKey_16 ⟨Nat.le_of_ble_eq_true rfl, Nat.le_of_ble_eq_true rfl⟩) hS (fun q _ h => hFc q h) hFc (fun u2 r2 t H1 locs ht hvm eu2 hB hz1 hk1 hS => ?_)
    have eu2 : ∀ i, i < 52 → u2 i = nI (undo (ks f) i) := eu2
    obtain ⟨dr2, hP1, hK1, hD1⟩ := hB
    rw [ht] at hP1
    obtain ⟨hP, hD⟩ := va_join (wr := [(h1, .inl (d1, 16, .inl f))]) (w1 := [(h0, .inr (2, [v1, v2])), (r1, .inl (dr1, 52, .inl u1)), (r2, .inl (dr2, 52, .inl u2))]) hP hD [0, 2] [1] rfl rfl (by decide) (by decide) hk1 hFc hP1 hD1
    have hK1 := va_K.moved hvm.symm hK1
    have hK : va_K D vwCl [(d1, .byte), (dr1, .int), (dr2, .int)] s := hK.app hK1
    generalize H1 = H at hP hS ⊢
    have hP : va_P D vwCl [(h1, .inl (d1, 16, .inl f)), (h0, .inr (2, [v1, v2])), (r1, .inl (dr1, 52, .inl u1)), (r2, .inl (dr2, 52, .inl u2))] H := hP
    have hD : va_D A [(h1, .inl (d1, 16, .inl f)), (h0, .inr (2, [v1, v2])), (r1, .inl (dr1, 52, .inl u1)), (r2, .inl (dr2, 52, .inl u2))] := hD
    have hP9 := hP.sub (ws' := [(h0, .inr (2, [v1, v2])), (h1, .inl (d1, 16, .inl f)), (r2, .inl (dr2, 52, .inl u2))]) [1, 0, 3] rfl
    have hD9 := hD.sub (ws' := [(h0, .inr (2, [v1, v2])), (h1, .inl (d1, 16, .inl f)), (r2, .inl (dr2, 52, .inl u2))]) [1, 0, 3] (by decide) rfl
    have hK9 := hK.sub (tys' := [(dr2, .int)]) [2] rfl
    refine W.widen (k := 2) (n := 104) (Nat.le_of_ble_eq_true rfl) (Nat.le_of_ble_eq_true rfl) ?_
    exact W.aret (v := .ref r2) hx hb hr (Or.inr ⟨_, rfl⟩) (Or.inr ⟨_, rfl⟩) (fun t ht hW => ⟨⟨u2, r2, rfl, (fun i hi => by rw [eu2 i hi]; unfold keyB; rw [if_pos c_1]), _, by rw [ht]; exact hP9, va_K.moved hW.alike hK9, hD9⟩, hS.F ht⟩) hS.2.2 dX2_generateWorkingKey_19
  · have c_1 : ¬ (bb = 0) := fun z => c_1 ((nI_eq (a := bb) (b := 0) (by omega) (by omega)).mpr z)
    refine lv_aload_n hx hb dX2_generateWorkingKey_4 rfl (lv_at hl 0 rfl) ?_
    refine lv_aload_n hx hb dX2_generateWorkingKey_5 rfl (lv_at hl 2 rfl) ?_
    have hPc := hP.sub (ws' := [(h0, .inr (2, [v1, v2])), (h1, .inl (d1, 16, .inl f))]) [0, 1] rfl
    have hKc := hK.sub (tys' := [(d1, .byte)]) [0] rfl
    have hDc := hD.sub (ws' := [(h0, .inr (2, [v1, v2])), (h1, .inl (d1, 16, .inl f))]) [0, 1] (by decide) rfl
    have hFc := va_free (wc := [(h0, .inr (2, [v1, v2])), (h1, .inl (d1, 16, .inl f))]) hD hS hA [0, 1] rfl
    refine va_callr (va_runV (As := [.ref h1]) (rest := []) ⟨hx, hb, hml, hown, hts⟩ (met_expand l D s.heap.size h0 h1 v1 v2 d1 f) (cwV 1 hts (lw_V q118 q120 qs2 q15 q121) rfl rfl rfl (by decide +kernel) ⟨Nat.le_of_ble_eq_true rfl, Nat.le_of_ble_eq_true rfl⟩) ⟨im_Pw.blind, va_recv hK hP (ci := 2) (q0 := 0) rfl rfl, im_Pw.of hPc hKc hDc⟩ rfl rfl hl.1 rfl (lv_room (Nat.le_of_ble_eq_true rfl)) dX2_generateWorkingKey_6 ⟨Nat.le_of_ble_eq_true rfl, Nat.le_of_ble_eq_true rfl⟩) hS (fun q _ h => hFc q h) hFc (fun u1 r1 t H1 locs ht hvm eu1 hB hz1 hk1 hS => ?_)
    have eu1 : ∀ i, i < 52 → u1 i = nI (ks f i) := eu1
    obtain ⟨dr1, hP1, hK1, hD1⟩ := hB
    rw [ht] at hP1
    obtain ⟨hP, hD⟩ := va_join (wr := []) (w1 := [(h0, .inr (2, [v1, v2])), (h1, .inl (d1, 16, .inl f)), (r1, .inl (dr1, 52, .inl u1))]) hP hD [0, 1] [] rfl rfl (by decide) (by decide) hk1 hFc hP1 hD1
    have hK1 := va_K.moved hvm.symm hK1
    have hK : va_K D vwCl [(d1, .byte), (dr1, .int)] s := hK.app hK1
    generalize H1 = H at hP hS ⊢
    have hP : va_P D vwCl [(h0, .inr (2, [v1, v2])), (h1, .inl (d1, 16, .inl f)), (r1, .inl (dr1, 52, .inl u1))] H := hP
    have hD : va_D A [(h0, .inr (2, [v1, v2])), (h1, .inl (d1, 16, .inl f)), (r1, .inl (dr1, 52, .inl u1))] := hD
    have hP9 := hP.sub (ws' := [(h0, .inr (2, [v1, v2])), (h1, .inl (d1, 16, .inl f)), (r1, .inl (dr1, 52, .inl u1))]) [0, 1, 2] rfl
    have hD9 := hD.sub (ws' := [(h0, .inr (2, [v1, v2])), (h1, .inl (d1, 16, .inl f)), (r1, .inl (dr1, 52, .inl u1))]) [0, 1, 2] (by decide) rfl
    have hK9 := hK.sub (tys' := [(dr1, .int)]) [1] rfl
    refine W.widen (k := 2) (n := 104) (Nat.le_of_ble_eq_true rfl) (Nat.le_of_ble_eq_true rfl) ?_
    exact W.aret (v := .ref r1) hx hb hr (Or.inr ⟨_, rfl⟩) (Or.inr ⟨_, rfl⟩) (fun t ht hW => ⟨⟨u1, r1, rfl, (fun i hi => by rw [eu1 i hi]; unfold keyB; rw [if_neg c_1]), _, by rw [ht]; exact hP9, va_K.moved hW.alike hK9, hD9⟩, hS.F ht⟩) hS.2.2 dX2_generateWorkingKey_9
set_option maxHeartbeats 4000000 in
set_option maxRecDepth 100000 in
/-- IDEAEngine.init -/
theorem met_init (l : Launch) (D : va_G) (sz : Nat) (h0 h4 h1 : Nat) (v1 v2 : Value) (d1 : ClassId) (f : Nat → Int32) (bb : Nat) (hbb : bb < 2) : Met l yX2_init_2 (ws_ yX2_init_2 cX2_init_2 4 none) ({ frames := 3, cells := 2, slots := 104, locals := 76 }) (va_Pc [.ref h0, .int (nI bb), .ref h4] (im_Pw D vwCl [(h0, .inr (2, [v1, v2])), (h4, .inr (3, [.ref h1])), (h1, .inl (d1, 16, .inl f))] [(d1, .byte)] sz)) (va_Qv (fun (u : Nat → Int32) => ∀ i, i < 52 → u i = nI (keyB bb f i)) (im_Bi D vwCl (va_A [(h0, .inr (2, [v1, v2])), (h4, .inr (3, [.ref h1])), (h1, .inl (d1, 16, .inl f))] sz) (fun (u : Nat → Int32) (ra : Nat) (cA : ClassId) => [(h0, .inr (2, [.ref ra, .int (nI bb)])), (h4, .inr (3, [.ref h1])), (h1, .inl (d1, 16, .inl f)), (ra, .inl (cA, 52, .inl u))]) .int) (va_A [(h0, .inr (2, [v1, v2])), (h4, .inr (3, [.ref h1])), (h1, .inl (d1, 16, .inl f))] sz)) 2 104 (va_A [(h0, .inr (2, [v1, v2])), (h4, .inr (3, [.ref h1])), (h1, .inl (d1, 16, .inl f))] sz) := by
  refine Met.ofW (cc := cX2_init_2) (maxL := 4) (ret := none) (by decide) rfl ?_
  intro p e s m args below meth c s₁ B hml hv
  obtain ⟨rfl, hsz, hP, hK, hD0⟩ := hv
  have hx := B.exec
  have hb := B.bytes
  have hr := B.returns
  have hts := atoms_spec (ws := (ws_ yX2_init_2 cX2_init_2 4 none)) B.pre
  have hts : ∀ w ∈ lw_all, w.before _ s = true := fun w h => hts w (List.mem_cons_of_mem _ h)
  have hown : s.vm.findClass RX2 = some m.cls := findClass_of_methodNamed B.named
  have hlocks := B.notSynchronized
  subst hsz
  have hD := hD0.self (sz := s.heap.size)
  generalize hAe : va_A [(h0, .inr (2, [v1, v2])), (h4, .inr (3, [.ref h1])), (h1, .inl (d1, 16, .inl f))] s.heap.size = A at hD ⊢
  have hA : ∀ q : Nat, s.heap.size ≤ q → A q := fun q h => by rw [← hAe]; exact Or.inr h
  have hS : va_S A s.heap s.heap [] := va_S.rf
  have hP : va_P D vwCl [(h0, .inr (2, [v1, v2])), (h4, .inr (3, [.ref h1])), (h1, .inl (d1, 16, .inl f))] s.heap := hP
  have hl := lv_entry ([.ref h0, .int (nI bb), .ref h4]) (n := 4) (Nat.le_of_ble_eq_true rfl)
  rw [lg_entry_eq]
  generalize (lg_sl ([.ref h0, .int (nI bb), .ref h4]) ++ List.replicate (4 - (lg_sl ([.ref h0, .int (nI bb), .ref h4])).length) Slot.unset).toArray = ls at hl ⊢
  have hl : lv_has ls 4 [(0, .ref h0), (1, .int (nI bb)), (2, .ref h4)] := hl
  refine lv_aload_n hx hb dX2_init_2_0 rfl (lv_at hl 2 rfl) ?_
  refine va_instS hx hb hown (hts _ q109) (im_cls hK (k := 3) rfl) (va_recv hK hP (ci := 3) (q0 := 1) rfl rfl) dX2_init_2_1 ?_
  refine lv_if_eq (tgt := 31) hx hb dX2_init_2_4 (by decide) (fun c_4 => ?_) (fun c_4 => ?_)
  · exact absurd c_4 (by decide)
  · skip
    refine lv_aload_n hx hb dX2_init_2_7 rfl (lv_at hl 2 rfl) ?_
    refine va_castS hx hb hown (hts _ q109) (im_cls hK (k := 3) rfl) (va_recv hK hP (ci := 3) (q0 := 1) rfl rfl) dX2_init_2_8 ?_
    have hPc := hP.sub (ws' := [(h4, .inr (3, [.ref h1]))]) [1] rfl
    have hKc := hK.sub (tys' := []) [] rfl
    refine va_csr (W.runV (As := []) (rest := []) ⟨hx, hb, hml, hown, hts⟩ (met_getKey l D h4 h1) (cwV 0 hts (lw_V q110 q111 q112 q16 q113) rfl rfl rfl (by decide +kernel) ⟨Nat.le_of_ble_eq_true rfl, Nat.le_of_ble_eq_true rfl⟩) ⟨im_Pr.blind, va_recv hK hP (ci := 3) (q0 := 1) rfl rfl, im_Pr.of hPc hKc⟩ rfl rfl hl.1 rfl (lv_room (Nat.le_of_ble_eq_true rfl)) dX2_init_2_11 ⟨Nat.le_of_ble_eq_true rfl, Nat.le_of_ble_eq_true rfl⟩) (fun _ _ => ?_)
    refine lv_astore_n (lv' := [(3, .ref h1), (0, .ref h0), (1, .int (nI bb)), (2, .ref h4)]) hx hb dX2_init_2_14 rfl hl (by decide) rfl (fun ls hl => ?_)
    refine lv_aload_n hx hb dX2_init_2_15 rfl (lv_at hl 1 rfl) ?_
    refine lv_aload_n hx hb dX2_init_2_16 rfl (lv_at hl 1 rfl) ?_
    refine lv_iload_n hx hb dX2_init_2_17 rfl (lv_at hl 2 rfl) ?_
    refine lv_aload_n hx hb dX2_init_2_18 rfl (lv_at hl 0 rfl) ?_
    have hPc := hP.sub (ws' := [(h0, .inr (2, [v1, v2])), (h1, .inl (d1, 16, .inl f))]) [0, 2] rfl
    have hKc := hK.sub (tys' := [(d1, .byte)]) [0] rfl
    have hDc := hD.sub (ws' := [(h0, .inr (2, [v1, v2])), (h1, .inl (d1, 16, .inl f))]) [0, 2] (by decide) rfl
    have hFc := va_free (wc := [(h0, .inr (2, [v1, v2])), (h1, .inl (d1, 16, .inl f))]) hD hS hA [0, 2] rfl
    refine va_callr (va_runV (As := [.int (nI bb), .ref h1]) (rest := [.ref h0]) ⟨hx, hb, hml, hown, hts⟩ (met_gwk l D s.heap.size h0 h1 v1 v2 d1 f bb hbb) (cwV 2 hts (lw_V q114 q116 qs1 q15 q117) rfl rfl rfl (by decide +kernel) ⟨Nat.le_of_ble_eq_true rfl, Nat.le_of_ble_eq_true rfl⟩) ⟨im_Pw.blind, va_recv hK hP (ci := 2) (q0 := 0) rfl rfl, im_Pw.of hPc hKc hDc⟩ rfl rfl hl.1 rfl (lv_room (Nat.le_of_ble_eq_true rfl)) dX2_init_2_19 ⟨Nat.le_of_ble_eq_true rfl, Nat.le_of_ble_eq_true rfl⟩) hS (fun q _ h => hFc q h) hFc (fun u1 r1 t H1 locs ht hvm eu1 hB hz1 hk1 hS => ?_)
    have eu1 : ∀ i, i < 52 → u1 i = nI (keyB bb f i) := eu1
    obtain ⟨dr1, hP1, hK1, hD1⟩ := hB
    rw [ht] at hP1
    obtain ⟨hP, hD⟩ := va_join (wr := [(h4, .inr (3, [.ref h1]))]) (w1 := [(h0, .inr (2, [v1, v2])), (h1, .inl (d1, 16, .inl f)), (r1, .inl (dr1, 52, .inl u1))]) hP hD [0, 2] [1] rfl rfl (by decide) (by decide) hk1 hFc hP1 hD1
    have hK1 := va_K.moved hvm.symm hK1
    have hK : va_K D vwCl [(d1, .byte), (dr1, .int)] s := hK.app hK1
    generalize H1 = H at hP hS ⊢
    have hP : va_P D vwCl [(h4, .inr (3, [.ref h1])), (h0, .inr (2, [v1, v2])), (h1, .inl (d1, 16, .inl f)), (r1, .inl (dr1, 52, .inl u1))] H := hP
    have hD : va_D A [(h4, .inr (3, [.ref h1])), (h0, .inr (2, [v1, v2])), (h1, .inl (d1, 16, .inl f)), (r1, .inl (dr1, 52, .inl u1))] := hD
    have hn9 : narrow .boolean (.int (nI bb)) = .int (nI bb) := by rcases (show bb = 0 ∨ bb = 1 by omega) with e | e <;> rw [e] <;> rfl
    have hf9 : fits .boolean (.int (nI bb)) = true := by rcases (show bb = 0 ∨ bb = 1 by omega) with e | e <;> rw [e] <;> rfl
    refine va_put (ci := 2) (v := .ref r1) (ty := .array .int) (C := RX2) (T := TX2) (N := 2) hx hb hts in_X2 tyX2 tyX2_ok nmX2 hown hK hP hD hS 1 rfl rfl 0 (by decide) (hts _ q73) (fun _ h9 => h9) rfl (by decide +kernel) rfl rfl (Nat.le_of_ble_eq_true rfl) dX2_init_2_22 (fun H locs hP hD hS => ?_)
    have hP : va_P D vwCl [(h4, .inr (3, [.ref h1])), (h0, .inr (2, [.ref r1, v2])), (h1, .inl (d1, 16, .inl f)), (r1, .inl (dr1, 52, .inl u1))] H := hP
    have hD : va_D A [(h4, .inr (3, [.ref h1])), (h0, .inr (2, [.ref r1, v2])), (h1, .inl (d1, 16, .inl f)), (r1, .inl (dr1, 52, .inl u1))] := hD
    refine lv_aload_n hx hb dX2_init_2_25 rfl (lv_at hl 1 rfl) ?_
    refine lv_iload_n hx hb dX2_init_2_26 rfl (lv_at hl 2 rfl) ?_
    refine va_put (ci := 2) (v := .int (nI bb)) (ty := .boolean) (C := RX2) (T := TX2) (N := 2) hx hb hts in_X2 tyX2 tyX2_ok nmX2 hown hK hP hD hS 1 rfl rfl 1 (by decide) (hts _ q74) (fun _ h9 => h9) rfl (by decide +kernel) hn9 hf9 (Nat.le_of_ble_eq_true rfl) dX2_init_2_27 (fun H locs hP hD hS => ?_)
    have hP : va_P D vwCl [(h4, .inr (3, [.ref h1])), (h0, .inr (2, [.ref r1, .int (nI bb)])), (h1, .inl (d1, 16, .inl f)), (r1, .inl (dr1, 52, .inl u1))] H := hP
    have hD : va_D A [(h4, .inr (3, [.ref h1])), (h0, .inr (2, [.ref r1, .int (nI bb)])), (h1, .inl (d1, 16, .inl f)), (r1, .inl (dr1, 52, .inl u1))] := hD
    have hP9 := hP.sub (ws' := [(h0, .inr (2, [.ref r1, .int (nI bb)])), (h4, .inr (3, [.ref h1])), (h1, .inl (d1, 16, .inl f)), (r1, .inl (dr1, 52, .inl u1))]) [1, 0, 2, 3] rfl
    have hD9 := hD.sub (ws' := [(h0, .inr (2, [.ref r1, .int (nI bb)])), (h4, .inr (3, [.ref h1])), (h1, .inl (d1, 16, .inl f)), (r1, .inl (dr1, 52, .inl u1))]) [1, 0, 2, 3] (by decide) rfl
    have hK9 := hK.sub (tys' := [(dr1, .int)]) [1] rfl
    refine W.widen (k := 2) (n := 104) (Nat.le_of_ble_eq_true rfl) (Nat.le_of_ble_eq_true rfl) ?_
    exact W.vret hx hb hr (fun t ht hW => ⟨⟨u1, rfl, eu1, r1, dr1, by rw [ht]; exact hP9, va_K.moved hW.alike hK9, hD9⟩, hS.F ht⟩) hS.2.2 dX2_init_2_30
set_option maxHeartbeats 4000000 in
set_option maxRecDepth 100000 in
/-- IDEAEngine.processBlock -/
theorem met_process (l : Launch) (D : va_G) (sz : Nat) (h0 h1 h2 h3 : Nat) (v2 : Value) (d1 d2 d3 : ClassId) (b g f : Nat → Int32) (K : Nat → Nat) (hf : ∀ i, i < 52 → f i = nI (K i)) (hKl : ∀ i, K i < 65536) : Met l yX2_processBlock (ws_ yX2_processBlock cX2_processBlock 5 (some .int)) ({ frames := 2, cells := 0, slots := 0, locals := 56 }) (va_Pc [.ref h0, .ref h1, .int (nI 0), .ref h2, .int (nI 0)] (im_Pw D vwCl [(h0, .inr (2, [.ref h3, v2])), (h3, .inl (d3, 52, .inl f)), (h1, .inl (d1, 8, .inl b)), (h2, .inl (d2, 8, .inl g))] [(d3, .int), (d1, .byte), (d2, .byte)] sz)) (va_Qi (fun (r : Int32) (u : Nat → Int32) => u = outS K b g) (im_B D vwCl (va_A [(h0, .inr (2, [.ref h3, v2])), (h3, .inl (d3, 52, .inl f)), (h1, .inl (d1, 8, .inl b)), (h2, .inl (d2, 8, .inl g))] sz) (fun (u : Nat → Int32) => [(h0, .inr (2, [.ref h3, v2])), (h3, .inl (d3, 52, .inl f)), (h1, .inl (d1, 8, .inl b)), (h2, .inl (d2, 8, .inl u))])) (va_A [(h0, .inr (2, [.ref h3, v2])), (h3, .inl (d3, 52, .inl f)), (h1, .inl (d1, 8, .inl b)), (h2, .inl (d2, 8, .inl g))] sz)) 0 0 (va_A [(h0, .inr (2, [.ref h3, v2])), (h3, .inl (d3, 52, .inl f)), (h1, .inl (d1, 8, .inl b)), (h2, .inl (d2, 8, .inl g))] sz) := by
  refine Met.ofW (cc := cX2_processBlock) (maxL := 5) (ret := (some .int)) (by decide) rfl ?_
  intro p e s m args below meth c s₁ B hml hv
  obtain ⟨rfl, hsz, hP, hK, hD0⟩ := hv
  have hx := B.exec
  have hb := B.bytes
  have hr := B.returns
  have hts := atoms_spec (ws := (ws_ yX2_processBlock cX2_processBlock 5 (some .int))) B.pre
  have hts : ∀ w ∈ lw_all, w.before _ s = true := fun w h => hts w (List.mem_cons_of_mem _ h)
  have hown : s.vm.findClass RX2 = some m.cls := findClass_of_methodNamed B.named
  have hlocks := B.notSynchronized
  subst hsz
  have hD := hD0.self (sz := s.heap.size)
  generalize hAe : va_A [(h0, .inr (2, [.ref h3, v2])), (h3, .inl (d3, 52, .inl f)), (h1, .inl (d1, 8, .inl b)), (h2, .inl (d2, 8, .inl g))] s.heap.size = A at hD ⊢
  have hA : ∀ q : Nat, s.heap.size ≤ q → A q := fun q h => by rw [← hAe]; exact Or.inr h
  have hS : va_S A s.heap s.heap [] := va_S.rf
  have hP : va_P D vwCl [(h0, .inr (2, [.ref h3, v2])), (h3, .inl (d3, 52, .inl f)), (h1, .inl (d1, 8, .inl b)), (h2, .inl (d2, 8, .inl g))] s.heap := hP
  have hl := lv_entry ([.ref h0, .ref h1, .int (nI 0), .ref h2, .int (nI 0)]) (n := 5) (Nat.le_of_ble_eq_true rfl)
  rw [lg_entry_eq]
  generalize (lg_sl ([.ref h0, .ref h1, .int (nI 0), .ref h2, .int (nI 0)]) ++ List.replicate (5 - (lg_sl ([.ref h0, .ref h1, .int (nI 0), .ref h2, .int (nI 0)])).length) Slot.unset).toArray = ls at hl ⊢
  have hl : lv_has ls 5 [(0, .ref h0), (1, .ref h1), (2, .int (nI 0)), (3, .ref h2), (4, .int (nI 0))] := hl
  refine lv_aload_n hx hb dX2_processBlock_0 rfl (lv_at hl 0 rfl) ?_
  refine va_get (ci := 2) (v := .ref h3) (C := RX2) (T := TX2) (N := 2) hx hb hts in_X2 hown hK hP 0 rfl rfl 0 (by decide) (hts _ q73) (fun _ h9 => h9) rfl dX2_processBlock_1 ?_
  refine lv_ifnonnull (tgt := 17) hx hb dX2_processBlock_4 (by decide) ?_
  refine lv_iload_n hx hb dX2_processBlock_17 rfl (lv_at hl 2 rfl) ?_
  refine lv_bipush (v := nI 8) hx hb dX2_processBlock_18 (by decide) ?_
  refine lv_iadd hx hb dX2_processBlock_20 ?_
  refine im_top (y := nI 8) (show (nI 0) + (nI 8) = nI 8 from by decide) ?_
  refine lv_aload_n hx hb dX2_processBlock_21 rfl (lv_at hl 1 rfl) ?_
  refine va_alen (v := nI 8) hx hb hK hP 2 1 rfl rfl rfl dX2_processBlock_22 ?_
  refine lv_icmp_le (tgt := 36) hx hb dX2_processBlock_23 (by decide) (fun c_23 => ?_) (fun c_23 => ?_)
  · have c_23 : 8 ≤ 8 := (nI_leI (a := 8) (b := 8) (by omega) (by omega)).mp c_23
    refine lv_iload hx hb dX2_processBlock_36 (lv_at hl 4 rfl) ?_
    refine lv_bipush (v := nI 8) hx hb dX2_processBlock_38 (by decide) ?_
    refine lv_iadd hx hb dX2_processBlock_40 ?_
    refine im_top (y := nI 8) (show (nI 0) + (nI 8) = nI 8 from by decide) ?_
    refine lv_aload_n hx hb dX2_processBlock_41 rfl (lv_at hl 3 rfl) ?_
    refine va_alen (v := nI 8) hx hb hK hP 3 2 rfl rfl rfl dX2_processBlock_42 ?_
    refine lv_icmp_le (tgt := 56) hx hb dX2_processBlock_43 (by decide) (fun c_43 => ?_) (fun c_43 => ?_)
    · have c_43 : 8 ≤ 8 := (nI_leI (a := 8) (b := 8) (by omega) (by omega)).mp c_43
      refine lv_aload_n hx hb dX2_processBlock_56 rfl (lv_at hl 0 rfl) ?_
      refine lv_aload_n hx hb dX2_processBlock_57 rfl (lv_at hl 0 rfl) ?_
      refine va_get (ci := 2) (v := .ref h3) (C := RX2) (T := TX2) (N := 2) hx hb hts in_X2 hown hK hP 0 rfl rfl 0 (by decide) (hts _ q73) (fun _ h9 => h9) rfl dX2_processBlock_58 ?_
      refine lv_aload_n hx hb dX2_processBlock_61 rfl (lv_at hl 1 rfl) ?_
      refine lv_iload_n hx hb dX2_processBlock_62 rfl (lv_at hl 2 rfl) ?_
      refine lv_aload_n hx hb dX2_processBlock_63 rfl (lv_at hl 3 rfl) ?_
      refine lv_iload hx hb dX2_processBlock_64 (lv_at hl 4 rfl) ?_
      have hPc := hP.sub (ws' := [(h0, .inr (2, [.ref h3, v2])), (h3, .inl (d3, 52, .inl f)), (h1, .inl (d1, 8, .inl b)), (h2, .inl (d2, 8, .inl g))]) [0, 1, 2, 3] rfl
      have hKc := hK.sub (tys' := [(d3, .int), (d1, .byte), (d2, .byte)]) [0, 1, 2] rfl
      have hDc := hD.sub (ws' := [(h0, .inr (2, [.ref h3, v2])), (h3, .inl (d3, 52, .inl f)), (h1, .inl (d1, 8, .inl b)), (h2, .inl (d2, 8, .inl g))]) [0, 1, 2, 3] (by decide) rfl
      have hFc := va_free (wc := [(h0, .inr (2, [.ref h3, v2])), (h3, .inl (d3, 52, .inl f)), (h1, .inl (d1, 8, .inl b)), (h2, .inl (d2, 8, .inl g))]) hD hS hA [0, 1, 2, 3] rfl
      refine va_callv (va_runV (As := [.ref h3, .ref h1, .int (nI 0), .ref h2, .int (nI 0)]) (rest := []) ⟨hx, hb, hml, hown, hts⟩ (met_idea l D s.heap.size h0 h1 h2 h3 (.ref h3) v2 d1 d2 d3 b g f K hf hKl) (cwV 5 hts (lw_V q273 q275 qs7 q15 q276) rfl rfl rfl (by decide +kernel) ⟨Nat.le_of_ble_eq_true rfl, Nat.le_of_ble_eq_true rfl⟩) ⟨im_Pw.blind, va_recv hK hP (ci := 2) (q0 := 0) rfl rfl, im_Pw.of hPc hKc hDc⟩ rfl rfl hl.1 rfl (lv_room (Nat.le_of_ble_eq_true rfl)) dX2_processBlock_66 ⟨Nat.le_of_ble_eq_true rfl, Nat.le_of_ble_eq_true rfl⟩) hS (fun q _ h => hFc q h) hFc (fun u1 t H1 locs ht hvm eu1 hB hz1 hk1 hS => ?_)
      have eu1 : u1 = outS K b g := eu1
      obtain ⟨hP1, hD1⟩ := hB
      rw [ht] at hP1
      obtain ⟨hP, hD⟩ := va_join (wr := []) (w1 := [(h0, .inr (2, [.ref h3, v2])), (h3, .inl (d3, 52, .inl f)), (h1, .inl (d1, 8, .inl b)), (h2, .inl (d2, 8, .inl u1))]) hP hD [0, 1, 2, 3] [] rfl rfl (by decide) (by decide) hk1 hFc hP1 hD1
      generalize H1 = H at hP hS ⊢
      have hP : va_P D vwCl [(h0, .inr (2, [.ref h3, v2])), (h3, .inl (d3, 52, .inl f)), (h1, .inl (d1, 8, .inl b)), (h2, .inl (d2, 8, .inl u1))] H := hP
      have hD : va_D A [(h0, .inr (2, [.ref h3, v2])), (h3, .inl (d3, 52, .inl f)), (h1, .inl (d1, 8, .inl b)), (h2, .inl (d2, 8, .inl u1))] := hD
      refine lv_bipush (v := nI 8) hx hb dX2_processBlock_69 (by decide) ?_
      exact W.iret (v := nI 8) hx hb hr (fun t ht hW => ⟨⟨_, u1, rfl, eu1, by rw [ht]; exact hP, hD⟩, hS.F ht⟩) hS.2.2 dX2_processBlock_71
    · have c_43 : ¬ (8 ≤ 8) := fun z => c_43 ((nI_leI (a := 8) (b := 8) (by omega) (by omega)).mpr z)
      exfalso
      omega
  · have c_23 : ¬ (8 ≤ 8) := fun z => c_23 ((nI_leI (a := 8) (b := 8) (by omega) (by omega)).mpr z)
    exfalso
    omega
end
section
/-! THE TWO DESKS -/
/-- the interface's two methods, and what a call through it asks of the tables -/
def im_yI : MethodName := ⟨"BlockCipher", "init", "(ZLCipherParameters;)V"⟩
def im_yP : MethodName := ⟨"BlockCipher", "processBlock", "([BI[BI)I"⟩
def im_Ff (U : State) : Prop := va_Fw RX2 im_yI yX2_init_2 U ∧ va_Fw RX2 im_yP yX2_processBlock U
theorem im_Ff.moved {u U : State} (hvm : u.vm.Alike U.vm) (h : im_Ff u) : im_Ff U := by
  obtain ⟨h1, h2⟩ := h
  exact ⟨va_Fw.moved (by decide) hvm h1, va_Fw.moved (by decide) hvm h2⟩
def im_Pf (D : va_G) (cl : List vw_C) (ws : va_W) (tys : List (ClassId × FieldType)) (sz : Nat) : State → Prop := fun U => im_Pw D cl ws tys sz U ∧ im_Ff U
theorem im_Pf.blind {av : List Value} {D : va_G} {cl : List vw_C} {ws : va_W} {tys : List (ClassId × FieldType)} {sz : Nat} : FrameBlind (va_Pc av (im_Pf D cl ws tys sz)) := by
  intro a U g mk q
  obtain ⟨q0, ⟨q1, qP, qK, qD⟩, qF⟩ := q
  exact ⟨q0, ⟨q1, qP, va_K.moved (u := U) (U := U.calling g mk a) (Vm.Alike.refl U.vm) qK, qD⟩, im_Ff.moved (u := U) (U := U.calling g mk a) (Vm.Alike.refl U.vm) qF⟩
theorem im_Pf.of {s : State} {H : Heap} {A : Nat → Prop} {av : List Value} {D : va_G} {cl : List vw_C} {ws : va_W} {tys : List (ClassId × FieldType)} (hP : va_P D cl ws H) (hK : va_K D cl tys s) (hD : va_D A ws) (hF : im_Ff s) : ∀ U : State, U.heap = H → s.WarmedH U.vm → va_Pc av (im_Pf D cl ws tys H.size) av.toArray U :=
  fun U hU hW => ⟨rfl, ⟨by rw [hU], by rw [hU]; exact hP, va_K.moved hW.alike hK, hD.weaken (fun _ _ _ _ => trivial)⟩, im_Ff.moved hW.alike hF⟩
theorem lw_F {own : String} {idx : Nat} {C : String} {x y : MethodName} {b : ByteArray} {L : Nat} {r : Option FieldType} (h1 : Cond.methodLink own idx x ∈ lw_all) (h2 : Cond.selects C x y ∈ lw_all) (h3 : Cond.instanceMethod y ∈ lw_all) (h4 : Cond.initialized y.cls ∈ lw_all) (h5 : Cond.code y b L r ∈ lw_all) : GoodIn lw_all (va_wsF own idx C x y (ws_ y b L r)) := by
  refine lw_app ?_ (lw_meth h5)
  intro w hw
  simp only [List.mem_cons, List.not_mem_nil, or_false] at hw
  rcases hw with e | e | e | e
  · rw [e]; exact h1
  · rw [e]; exact h2
  · rw [e]; exact h3
  · rw [e]; exact h4
set_option maxHeartbeats 4000000 in
set_option maxRecDepth 100000 in
/-- IdeaDesk() -/
theorem met_new_d (l : Launch) (D : va_G) (sz : Nat) (h0 : Nat) : Met l yX0_init (ws_ yX0_init cX0_init 1 none) ({ frames := 1, cells := 3, slots := 48, locals := 12 }) (va_Pc [.ref h0] (im_Pw D vwCl [(h0, .inr (0, [.null, .null, .null]))] [] sz)) (va_Qv (fun (u : Unit) => u = ()) (fun (_ : Unit) (t : State) => ∃ (k b o : Nat) (dk db dd : ClassId), va_P D vwCl [(h0, .inr (0, [.ref k, .ref b, .ref o])), (k, .inl (dk, 32, .inl (fun _ => 0))), (b, .inl (db, 8, .inl (fun _ => 0))), (o, .inl (dd, 8, .inl (fun _ => 0)))] t.heap ∧ va_K D vwCl [(dk, .byte), (db, .byte), (dd, .byte)] t ∧ va_D (va_A [(h0, .inr (0, [.null, .null, .null]))] sz) [(h0, .inr (0, [.ref k, .ref b, .ref o])), (k, .inl (dk, 32, .inl (fun _ => 0))), (b, .inl (db, 8, .inl (fun _ => 0))), (o, .inl (dd, 8, .inl (fun _ => 0)))]) (va_A [(h0, .inr (0, [.null, .null, .null]))] sz)) 3 48 (va_A [(h0, .inr (0, [.null, .null, .null]))] sz) := by
  refine Met.ofW (cc := cX0_init) (maxL := 1) (ret := none) (by decide) rfl ?_
  intro p e s m args below meth c s₁ B hml hv
  obtain ⟨rfl, hsz, hP, hK, hD0⟩ := hv
  have hx := B.exec
  have hb := B.bytes
  have hr := B.returns
  have hts := atoms_spec (ws := (ws_ yX0_init cX0_init 1 none)) B.pre
  have hts : ∀ w ∈ lw_all, w.before _ s = true := fun w h => hts w (List.mem_cons_of_mem _ h)
  have hown : s.vm.findClass RX0 = some m.cls := findClass_of_methodNamed B.named
  have hlocks := B.notSynchronized
  have hin : meth.name = "<init>" := (name_of_methodNamed B.named B.method).1
  subst hsz
  have hD := hD0.self (sz := s.heap.size)
  generalize hAe : va_A [(h0, .inr (0, [.null, .null, .null]))] s.heap.size = A at hD ⊢
  have hA : ∀ q : Nat, s.heap.size ≤ q → A q := fun q h => by rw [← hAe]; exact Or.inr h
  have hS : va_S A s.heap s.heap [] := va_S.rf
  have hP : va_P D vwCl [(h0, .inr (0, [.null, .null, .null]))] s.heap := hP
  have hl := lv_entry ([.ref h0]) (n := 1) (Nat.le_of_ble_eq_true rfl)
  rw [lg_entry_eq]
  generalize (lg_sl ([.ref h0]) ++ List.replicate (1 - (lg_sl ([.ref h0])).length) Slot.unset).toArray = ls at hl ⊢
  have hl : lv_has ls 1 [(0, .ref h0)] := hl
  refine lv_aload_n hx hb dX0_init_0 rfl (lv_at hl 0 rfl) ?_
  refine W.objInit hx hb hown (hts _ q31) (hts _ q32) (hts _ q33) rfl (by rw [hml]; exact hl.1) rfl dX0_init_1 (Nat.le_of_ble_eq_true rfl) (Nat.le_of_ble_eq_true rfl) ?_
  refine W.eq (g2 := F0 m 4 ls []) rfl ?_
  refine lv_aload_n hx hb dX0_init_4 rfl (lv_at hl 0 rfl) ?_
  refine lv_bipush (v := nI 32) hx hb dX0_init_5 (by decide) ?_
  refine va_newa (atype := .byte) (ty := .byte) (N' := 32) (a0 := (32, .inl (fun _ => 0))) hx hb (hts _ q44) rfl hK hP hD hS hA (fun _ => rfl) (nI_pos (n := 32) (by omega)) (nI_clamp (n := 32) (by omega)) (Nat.le_of_ble_eq_true rfl) (Nat.le_of_ble_eq_true rfl) (Nat.le_of_ble_eq_true rfl) dX0_init_7 (fun a_7 da_7 H hK hP hD hS => ?_)
  have hK : va_K D vwCl [(da_7, .byte)] s := hK
  have hP : va_P D vwCl [(h0, .inr (0, [.null, .null, .null])), (a_7, .inl (da_7, 32, .inl (fun _ => 0)))] H := hP
  have hD : va_D A [(h0, .inr (0, [.null, .null, .null])), (a_7, .inl (da_7, 32, .inl (fun _ => 0)))] := hD
  refine va_putF (ci := 0) (v := .ref a_7) (ty := .array .byte) (C := RX0) (T := TX0) (N := 3) hx hb hts in_X0 tyX0 tyX0_ok nmX0 hown hK hP hD hS 0 rfl rfl 0 (by decide) (hts _ q34) (fun _ h9 => h9) rfl hin rfl (by decide +kernel) rfl rfl (Nat.le_of_ble_eq_true rfl) dX0_init_9 (fun H locs hP hD hS => ?_)
  have hP : va_P D vwCl [(h0, .inr (0, [.ref a_7, .null, .null])), (a_7, .inl (da_7, 32, .inl (fun _ => 0)))] H := hP
  have hD : va_D A [(h0, .inr (0, [.ref a_7, .null, .null])), (a_7, .inl (da_7, 32, .inl (fun _ => 0)))] := hD
  refine lv_aload_n hx hb dX0_init_12 rfl (lv_at hl 0 rfl) ?_
  refine lv_bipush (v := nI 8) hx hb dX0_init_13 (by decide) ?_
  refine va_newa (atype := .byte) (ty := .byte) (N' := 8) (a0 := (8, .inl (fun _ => 0))) hx hb (hts _ q44) rfl hK hP hD hS hA (fun _ => rfl) (nI_pos (n := 8) (by omega)) (nI_clamp (n := 8) (by omega)) (Nat.le_of_ble_eq_true rfl) (Nat.le_of_ble_eq_true rfl) (Nat.le_of_ble_eq_true rfl) dX0_init_15 (fun a_15 da_15 H hK hP hD hS => ?_)
  have hK : va_K D vwCl [(da_7, .byte), (da_15, .byte)] s := hK
  have hP : va_P D vwCl [(h0, .inr (0, [.ref a_7, .null, .null])), (a_7, .inl (da_7, 32, .inl (fun _ => 0))), (a_15, .inl (da_15, 8, .inl (fun _ => 0)))] H := hP
  have hD : va_D A [(h0, .inr (0, [.ref a_7, .null, .null])), (a_7, .inl (da_7, 32, .inl (fun _ => 0))), (a_15, .inl (da_15, 8, .inl (fun _ => 0)))] := hD
  refine va_putF (ci := 0) (v := .ref a_15) (ty := .array .byte) (C := RX0) (T := TX0) (N := 3) hx hb hts in_X0 tyX0 tyX0_ok nmX0 hown hK hP hD hS 0 rfl rfl 1 (by decide) (hts _ q35) (fun _ h9 => h9) rfl hin rfl (by decide +kernel) rfl rfl (Nat.le_of_ble_eq_true rfl) dX0_init_17 (fun H locs hP hD hS => ?_)
  have hP : va_P D vwCl [(h0, .inr (0, [.ref a_7, .ref a_15, .null])), (a_7, .inl (da_7, 32, .inl (fun _ => 0))), (a_15, .inl (da_15, 8, .inl (fun _ => 0)))] H := hP
  have hD : va_D A [(h0, .inr (0, [.ref a_7, .ref a_15, .null])), (a_7, .inl (da_7, 32, .inl (fun _ => 0))), (a_15, .inl (da_15, 8, .inl (fun _ => 0)))] := hD
  refine lv_aload_n hx hb dX0_init_20 rfl (lv_at hl 0 rfl) ?_
  refine lv_bipush (v := nI 8) hx hb dX0_init_21 (by decide) ?_
  refine va_newa (atype := .byte) (ty := .byte) (N' := 8) (a0 := (8, .inl (fun _ => 0))) hx hb (hts _ q44) rfl hK hP hD hS hA (fun _ => rfl) (nI_pos (n := 8) (by omega)) (nI_clamp (n := 8) (by omega)) (Nat.le_of_ble_eq_true rfl) (Nat.le_of_ble_eq_true rfl) (Nat.le_of_ble_eq_true rfl) dX0_init_23 (fun a_23 da_23 H hK hP hD hS => ?_)
  have hK : va_K D vwCl [(da_7, .byte), (da_15, .byte), (da_23, .byte)] s := hK
  have hP : va_P D vwCl [(h0, .inr (0, [.ref a_7, .ref a_15, .null])), (a_7, .inl (da_7, 32, .inl (fun _ => 0))), (a_15, .inl (da_15, 8, .inl (fun _ => 0))), (a_23, .inl (da_23, 8, .inl (fun _ => 0)))] H := hP
  have hD : va_D A [(h0, .inr (0, [.ref a_7, .ref a_15, .null])), (a_7, .inl (da_7, 32, .inl (fun _ => 0))), (a_15, .inl (da_15, 8, .inl (fun _ => 0))), (a_23, .inl (da_23, 8, .inl (fun _ => 0)))] := hD
  refine va_putF (ci := 0) (v := .ref a_23) (ty := .array .byte) (C := RX0) (T := TX0) (N := 3) hx hb hts in_X0 tyX0 tyX0_ok nmX0 hown hK hP hD hS 0 rfl rfl 2 (by decide) (hts _ q36) (fun _ h9 => h9) rfl hin rfl (by decide +kernel) rfl rfl (Nat.le_of_ble_eq_true rfl) dX0_init_25 (fun H locs hP hD hS => ?_)
  have hP : va_P D vwCl [(h0, .inr (0, [.ref a_7, .ref a_15, .ref a_23])), (a_7, .inl (da_7, 32, .inl (fun _ => 0))), (a_15, .inl (da_15, 8, .inl (fun _ => 0))), (a_23, .inl (da_23, 8, .inl (fun _ => 0)))] H := hP
  have hD : va_D A [(h0, .inr (0, [.ref a_7, .ref a_15, .ref a_23])), (a_7, .inl (da_7, 32, .inl (fun _ => 0))), (a_15, .inl (da_15, 8, .inl (fun _ => 0))), (a_23, .inl (da_23, 8, .inl (fun _ => 0)))] := hD
  refine W.widen (k := 3) (n := 48) (Nat.le_of_ble_eq_true rfl) (Nat.le_of_ble_eq_true rfl) ?_
  exact W.vret hx hb hr (fun t ht hW => ⟨⟨(), rfl, rfl, a_7, a_15, a_23, da_7, da_15, da_23, by rw [ht]; exact hP, va_K.moved hW.alike hK, hD⟩, hS.F ht⟩) hS.2.2 dX0_init_28
set_option maxHeartbeats 4000000 in
set_option maxRecDepth 100000 in
/-- IdeaDesk.key -/
theorem met_key_d (l : Launch) (D : va_G) (sz : Nat) (h0 hk h1 h2 : Nat) (dk : ClassId) (f : Nat → Int32) (hh k1 k2 k3 k4 : Int32) : Met l yX0_key (ws_ yX0_key cX0_key 7 none) ({ frames := 1, cells := 0, slots := 0, locals := 22 }) (va_Pc [.ref h0, .int hh, .int k1, .int k2, .int k3, .int k4] (im_Pw D vwCl [(h0, .inr (0, [.ref hk, .ref h1, .ref h2])), (hk, .inl (dk, 32, .inl f))] [(dk, .byte)] sz)) (va_Qv (fun (u : Nat → Int32) => u = keyW f hh k1 k2 k3 k4) (im_B D vwCl (va_A [(h0, .inr (0, [.ref hk, .ref h1, .ref h2])), (hk, .inl (dk, 32, .inl f))] sz) (fun (u : Nat → Int32) => [(h0, .inr (0, [.ref hk, .ref h1, .ref h2])), (hk, .inl (dk, 32, .inl u))])) (va_A [(h0, .inr (0, [.ref hk, .ref h1, .ref h2])), (hk, .inl (dk, 32, .inl f))] sz)) 0 0 (va_A [(h0, .inr (0, [.ref hk, .ref h1, .ref h2])), (hk, .inl (dk, 32, .inl f))] sz) := by
  refine Met.ofW (cc := cX0_key) (maxL := 7) (ret := none) (by decide) rfl ?_
  intro p e s m args below meth c s₁ B hml hv
  obtain ⟨rfl, hsz, hP, hK, hD0⟩ := hv
  have hx := B.exec
  have hb := B.bytes
  have hr := B.returns
  have hts := atoms_spec (ws := (ws_ yX0_key cX0_key 7 none)) B.pre
  have hts : ∀ w ∈ lw_all, w.before _ s = true := fun w h => hts w (List.mem_cons_of_mem _ h)
  have hown : s.vm.findClass RX0 = some m.cls := findClass_of_methodNamed B.named
  have hlocks := B.notSynchronized
  subst hsz
  have hD := hD0.self (sz := s.heap.size)
  generalize hAe : va_A [(h0, .inr (0, [.ref hk, .ref h1, .ref h2])), (hk, .inl (dk, 32, .inl f))] s.heap.size = A at hD ⊢
  have hA : ∀ q : Nat, s.heap.size ≤ q → A q := fun q h => by rw [← hAe]; exact Or.inr h
  have hS : va_S A s.heap s.heap [] := va_S.rf
  have hP : va_P D vwCl [(h0, .inr (0, [.ref hk, .ref h1, .ref h2])), (hk, .inl (dk, 32, .inl f))] s.heap := hP
  have hl := lv_entry ([.ref h0, .int hh, .int k1, .int k2, .int k3, .int k4]) (n := 7) (Nat.le_of_ble_eq_true rfl)
  rw [lg_entry_eq]
  generalize (lg_sl ([.ref h0, .int hh, .int k1, .int k2, .int k3, .int k4]) ++ List.replicate (7 - (lg_sl ([.ref h0, .int hh, .int k1, .int k2, .int k3, .int k4])).length) Slot.unset).toArray = ls at hl ⊢
  have hl : lv_has ls 7 [(0, .ref h0), (1, .int hh), (2, .int k1), (3, .int k2), (4, .int k3), (5, .int k4)] := hl
  obtain ⟨z, hz⟩ : ∃ z : Nat, z = hh.toBitVec.toNat % 2 := ⟨_, rfl⟩
  have lz : z < 2 := by rw [hz]; exact Nat.mod_lt _ (by decide)
  refine lv_iload_n hx hb dX0_key_0 rfl (lv_at hl 1 rfl) ?_
  refine lv_iconst (v := nI 1) hx hb dX0_key_1 (by decide) ?_
  refine lv_iand hx hb dX0_key_2 ?_
  refine im_top (y := nI z) (by rw [hz]; exact pk_and hh (m := nI 1) 1 (by decide)) ?_
  refine lv_iconst (v := nI 4) hx hb dX0_key_3 (by decide) ?_
  refine lv_ishl hx hb dX0_key_4 ?_
  refine im_top (y := nI (16 * z)) (by rw [pk_shlN (n := z) (nI 4 &&& 31) 4 (by decide) (by omega)]; exact congrArg nI (by omega)) ?_
  refine lv_istore (lv' := [(6, .int (nI (16 * z))), (0, .ref h0), (1, .int hh), (2, .int k1), (3, .int k2), (4, .int k3), (5, .int k4)]) hx hb dX0_key_5 hl (by decide) rfl (fun ls hl => ?_)
  refine lv_aload_n hx hb dX0_key_7 rfl (lv_at hl 1 rfl) ?_
  refine va_get (ci := 0) (v := .ref hk) (C := RX0) (T := TX0) (N := 3) hx hb hts in_X0 hown hK hP 0 rfl rfl 0 (by decide) (hts _ q34) (fun _ h9 => h9) rfl dX0_key_8 ?_
  refine lv_iload hx hb dX0_key_11 (lv_at hl 0 rfl) ?_
  refine lv_iload_n hx hb dX0_key_13 rfl (lv_at hl 3 rfl) ?_
  have hPc := hP.sub (ws' := [(hk, .inl (dk, 32, .inl f))]) [1] rfl
  have hKc := hK.sub (tys' := [(dk, .byte)]) [0] rfl
  have hDc := hD.sub (ws' := [(hk, .inl (dk, 32, .inl f))]) [1] (by decide) rfl
  have hFc := va_free (wc := [(hk, .inl (dk, 32, .inl f))]) hD hS hA [1] rfl
  refine va_callv (va_runS (As := [.ref hk, .int (nI (16 * z)), .int k1]) (rest := []) ⟨hx, hb, hml, hown, hts⟩ (met_word l D s.heap.size hk dk 32 f (16 * z) k1 (by omega) (by omega)) (va_cwS 3 hts (lw_S q49 q50 q13 q51) rfl rfl rfl (by decide +kernel) ⟨Nat.le_of_ble_eq_true rfl, Nat.le_of_ble_eq_true rfl⟩) ⟨im_Pw.blind, im_Pw.of hPc hKc hDc⟩ rfl rfl hl.1 rfl (lv_room (Nat.le_of_ble_eq_true rfl)) dX0_key_14 ⟨Nat.le_of_ble_eq_true rfl, Nat.le_of_ble_eq_true rfl⟩) hS (fun q _ h => hFc q h) hFc (fun u1 t H1 locs ht hvm eu1 hB hz1 hk1 hS => ?_)
  have eu1 : u1 = wr4 f (16 * z) k1 := eu1
  obtain ⟨hP1, hD1⟩ := hB
  rw [ht] at hP1
  obtain ⟨hP, hD⟩ := va_join (wr := [(h0, .inr (0, [.ref hk, .ref h1, .ref h2]))]) (w1 := [(hk, .inl (dk, 32, .inl u1))]) hP hD [1] [0] rfl rfl (by decide) (by decide) hk1 hFc hP1 hD1
  generalize H1 = H at hP hS ⊢
  have hP : va_P D vwCl [(h0, .inr (0, [.ref hk, .ref h1, .ref h2])), (hk, .inl (dk, 32, .inl u1))] H := hP
  have hD : va_D A [(h0, .inr (0, [.ref hk, .ref h1, .ref h2])), (hk, .inl (dk, 32, .inl u1))] := hD
  refine lv_aload_n hx hb dX0_key_17 rfl (lv_at hl 1 rfl) ?_
  refine va_get (ci := 0) (v := .ref hk) (C := RX0) (T := TX0) (N := 3) hx hb hts in_X0 hown hK hP 0 rfl rfl 0 (by decide) (hts _ q34) (fun _ h9 => h9) rfl dX0_key_18 ?_
  refine lv_iload hx hb dX0_key_21 (lv_at hl 0 rfl) ?_
  refine lv_iconst (v := nI 4) hx hb dX0_key_23 (by decide) ?_
  refine lv_iadd hx hb dX0_key_24 ?_
  refine im_top (y := nI (16 * z + 4)) (nI_add (16 * z) 4) ?_
  refine lv_iload_n hx hb dX0_key_25 rfl (lv_at hl 4 rfl) ?_
  have hPc := hP.sub (ws' := [(hk, .inl (dk, 32, .inl u1))]) [1] rfl
  have hKc := hK.sub (tys' := [(dk, .byte)]) [0] rfl
  have hDc := hD.sub (ws' := [(hk, .inl (dk, 32, .inl u1))]) [1] (by decide) rfl
  have hFc := va_free (wc := [(hk, .inl (dk, 32, .inl u1))]) hD hS hA [1] rfl
  refine va_callv (va_runS (As := [.ref hk, .int (nI (16 * z + 4)), .int k2]) (rest := []) ⟨hx, hb, hml, hown, hts⟩ (met_word l D H.size hk dk 32 u1 (16 * z + 4) k2 (by omega) (by omega)) (va_cwS 3 hts (lw_S q49 q50 q13 q51) rfl rfl rfl (by decide +kernel) ⟨Nat.le_of_ble_eq_true rfl, Nat.le_of_ble_eq_true rfl⟩) ⟨im_Pw.blind, im_Pw.of hPc hKc hDc⟩ rfl rfl hl.1 rfl (lv_room (Nat.le_of_ble_eq_true rfl)) dX0_key_26 ⟨Nat.le_of_ble_eq_true rfl, Nat.le_of_ble_eq_true rfl⟩) hS (fun q _ h => hFc q h) hFc (fun u2 t H1 locs ht hvm eu2 hB hz1 hk1 hS => ?_)
  have eu2 : u2 = wr4 u1 (16 * z + 4) k2 := eu2
  obtain ⟨hP1, hD1⟩ := hB
  rw [ht] at hP1
  obtain ⟨hP, hD⟩ := va_join (wr := [(h0, .inr (0, [.ref hk, .ref h1, .ref h2]))]) (w1 := [(hk, .inl (dk, 32, .inl u2))]) hP hD [1] [0] rfl rfl (by decide) (by decide) hk1 hFc hP1 hD1
  generalize H1 = H at hP hS ⊢
  have hP : va_P D vwCl [(h0, .inr (0, [.ref hk, .ref h1, .ref h2])), (hk, .inl (dk, 32, .inl u2))] H := hP
  have hD : va_D A [(h0, .inr (0, [.ref hk, .ref h1, .ref h2])), (hk, .inl (dk, 32, .inl u2))] := hD
  refine lv_aload_n hx hb dX0_key_29 rfl (lv_at hl 1 rfl) ?_
  refine va_get (ci := 0) (v := .ref hk) (C := RX0) (T := TX0) (N := 3) hx hb hts in_X0 hown hK hP 0 rfl rfl 0 (by decide) (hts _ q34) (fun _ h9 => h9) rfl dX0_key_30 ?_
  refine lv_iload hx hb dX0_key_33 (lv_at hl 0 rfl) ?_
  refine lv_bipush (v := nI 8) hx hb dX0_key_35 (by decide) ?_
  refine lv_iadd hx hb dX0_key_37 ?_
  refine im_top (y := nI (16 * z + 8)) (nI_add (16 * z) 8) ?_
  refine lv_iload hx hb dX0_key_38 (lv_at hl 5 rfl) ?_
  have hPc := hP.sub (ws' := [(hk, .inl (dk, 32, .inl u2))]) [1] rfl
  have hKc := hK.sub (tys' := [(dk, .byte)]) [0] rfl
  have hDc := hD.sub (ws' := [(hk, .inl (dk, 32, .inl u2))]) [1] (by decide) rfl
  have hFc := va_free (wc := [(hk, .inl (dk, 32, .inl u2))]) hD hS hA [1] rfl
  refine va_callv (va_runS (As := [.ref hk, .int (nI (16 * z + 8)), .int k3]) (rest := []) ⟨hx, hb, hml, hown, hts⟩ (met_word l D H.size hk dk 32 u2 (16 * z + 8) k3 (by omega) (by omega)) (va_cwS 3 hts (lw_S q49 q50 q13 q51) rfl rfl rfl (by decide +kernel) ⟨Nat.le_of_ble_eq_true rfl, Nat.le_of_ble_eq_true rfl⟩) ⟨im_Pw.blind, im_Pw.of hPc hKc hDc⟩ rfl rfl hl.1 rfl (lv_room (Nat.le_of_ble_eq_true rfl)) dX0_key_40 ⟨Nat.le_of_ble_eq_true rfl, Nat.le_of_ble_eq_true rfl⟩) hS (fun q _ h => hFc q h) hFc (fun u3 t H1 locs ht hvm eu3 hB hz1 hk1 hS => ?_)
  have eu3 : u3 = wr4 u2 (16 * z + 8) k3 := eu3
  obtain ⟨hP1, hD1⟩ := hB
  rw [ht] at hP1
  obtain ⟨hP, hD⟩ := va_join (wr := [(h0, .inr (0, [.ref hk, .ref h1, .ref h2]))]) (w1 := [(hk, .inl (dk, 32, .inl u3))]) hP hD [1] [0] rfl rfl (by decide) (by decide) hk1 hFc hP1 hD1
  generalize H1 = H at hP hS ⊢
  have hP : va_P D vwCl [(h0, .inr (0, [.ref hk, .ref h1, .ref h2])), (hk, .inl (dk, 32, .inl u3))] H := hP
  have hD : va_D A [(h0, .inr (0, [.ref hk, .ref h1, .ref h2])), (hk, .inl (dk, 32, .inl u3))] := hD
  refine lv_aload_n hx hb dX0_key_43 rfl (lv_at hl 1 rfl) ?_
  refine va_get (ci := 0) (v := .ref hk) (C := RX0) (T := TX0) (N := 3) hx hb hts in_X0 hown hK hP 0 rfl rfl 0 (by decide) (hts _ q34) (fun _ h9 => h9) rfl dX0_key_44 ?_
  refine lv_iload hx hb dX0_key_47 (lv_at hl 0 rfl) ?_
  refine lv_bipush (v := nI 12) hx hb dX0_key_49 (by decide) ?_
  refine lv_iadd hx hb dX0_key_51 ?_
  refine im_top (y := nI (16 * z + 12)) (nI_add (16 * z) 12) ?_
  refine lv_iload hx hb dX0_key_52 (lv_at hl 6 rfl) ?_
  have hPc := hP.sub (ws' := [(hk, .inl (dk, 32, .inl u3))]) [1] rfl
  have hKc := hK.sub (tys' := [(dk, .byte)]) [0] rfl
  have hDc := hD.sub (ws' := [(hk, .inl (dk, 32, .inl u3))]) [1] (by decide) rfl
  have hFc := va_free (wc := [(hk, .inl (dk, 32, .inl u3))]) hD hS hA [1] rfl
  refine va_callv (va_runS (As := [.ref hk, .int (nI (16 * z + 12)), .int k4]) (rest := []) ⟨hx, hb, hml, hown, hts⟩ (met_word l D H.size hk dk 32 u3 (16 * z + 12) k4 (by omega) (by omega)) (va_cwS 3 hts (lw_S q49 q50 q13 q51) rfl rfl rfl (by decide +kernel) ⟨Nat.le_of_ble_eq_true rfl, Nat.le_of_ble_eq_true rfl⟩) ⟨im_Pw.blind, im_Pw.of hPc hKc hDc⟩ rfl rfl hl.1 rfl (lv_room (Nat.le_of_ble_eq_true rfl)) dX0_key_54 ⟨Nat.le_of_ble_eq_true rfl, Nat.le_of_ble_eq_true rfl⟩) hS (fun q _ h => hFc q h) hFc (fun u4 t H1 locs ht hvm eu4 hB hz1 hk1 hS => ?_)
  have eu4 : u4 = wr4 u3 (16 * z + 12) k4 := eu4
  obtain ⟨hP1, hD1⟩ := hB
  rw [ht] at hP1
  obtain ⟨hP, hD⟩ := va_join (wr := [(h0, .inr (0, [.ref hk, .ref h1, .ref h2]))]) (w1 := [(hk, .inl (dk, 32, .inl u4))]) hP hD [1] [0] rfl rfl (by decide) (by decide) hk1 hFc hP1 hD1
  generalize H1 = H at hP hS ⊢
  have hP : va_P D vwCl [(h0, .inr (0, [.ref hk, .ref h1, .ref h2])), (hk, .inl (dk, 32, .inl u4))] H := hP
  have hD : va_D A [(h0, .inr (0, [.ref hk, .ref h1, .ref h2])), (hk, .inl (dk, 32, .inl u4))] := hD
  have hP9 := hP.sub (ws' := [(h0, .inr (0, [.ref hk, .ref h1, .ref h2])), (hk, .inl (dk, 32, .inl u4))]) [0, 1] rfl
  have hD9 := hD.sub (ws' := [(h0, .inr (0, [.ref hk, .ref h1, .ref h2])), (hk, .inl (dk, 32, .inl u4))]) [0, 1] (by decide) rfl
  exact W.vret hx hb hr (fun t ht hW => ⟨⟨u4, rfl, by rw [eu4, eu3, eu2, eu1, hz]; rfl, by rw [ht]; exact hP9, hD9⟩, hS.F ht⟩) hS.2.2 dX0_key_57
set_option maxHeartbeats 4000000 in
set_option maxRecDepth 100000 in
/-- IdeaDesk.block -/
theorem met_block_d (l : Launch) (D : va_G) (sz : Nat) (h0 hk h1 h2 : Nat) (d1 : ClassId) (b : Nat → Int32) (k1 k2 : Int32) : Met l yX0_block (ws_ yX0_block cX0_block 3 none) ({ frames := 1, cells := 0, slots := 0, locals := 22 }) (va_Pc [.ref h0, .int k1, .int k2] (im_Pw D vwCl [(h0, .inr (0, [.ref hk, .ref h1, .ref h2])), (h1, .inl (d1, 8, .inl b))] [(d1, .byte)] sz)) (va_Qv (fun (u : Nat → Int32) => u = blkW b k1 k2) (im_B D vwCl (va_A [(h0, .inr (0, [.ref hk, .ref h1, .ref h2])), (h1, .inl (d1, 8, .inl b))] sz) (fun (u : Nat → Int32) => [(h0, .inr (0, [.ref hk, .ref h1, .ref h2])), (h1, .inl (d1, 8, .inl u))])) (va_A [(h0, .inr (0, [.ref hk, .ref h1, .ref h2])), (h1, .inl (d1, 8, .inl b))] sz)) 0 0 (va_A [(h0, .inr (0, [.ref hk, .ref h1, .ref h2])), (h1, .inl (d1, 8, .inl b))] sz) := by
  refine Met.ofW (cc := cX0_block) (maxL := 3) (ret := none) (by decide) rfl ?_
  intro p e s m args below meth c s₁ B hml hv
  obtain ⟨rfl, hsz, hP, hK, hD0⟩ := hv
  have hx := B.exec
  have hb := B.bytes
  have hr := B.returns
  have hts := atoms_spec (ws := (ws_ yX0_block cX0_block 3 none)) B.pre
  have hts : ∀ w ∈ lw_all, w.before _ s = true := fun w h => hts w (List.mem_cons_of_mem _ h)
  have hown : s.vm.findClass RX0 = some m.cls := findClass_of_methodNamed B.named
  have hlocks := B.notSynchronized
  subst hsz
  have hD := hD0.self (sz := s.heap.size)
  generalize hAe : va_A [(h0, .inr (0, [.ref hk, .ref h1, .ref h2])), (h1, .inl (d1, 8, .inl b))] s.heap.size = A at hD ⊢
  have hA : ∀ q : Nat, s.heap.size ≤ q → A q := fun q h => by rw [← hAe]; exact Or.inr h
  have hS : va_S A s.heap s.heap [] := va_S.rf
  have hP : va_P D vwCl [(h0, .inr (0, [.ref hk, .ref h1, .ref h2])), (h1, .inl (d1, 8, .inl b))] s.heap := hP
  have hl := lv_entry ([.ref h0, .int k1, .int k2]) (n := 3) (Nat.le_of_ble_eq_true rfl)
  rw [lg_entry_eq]
  generalize (lg_sl ([.ref h0, .int k1, .int k2]) ++ List.replicate (3 - (lg_sl ([.ref h0, .int k1, .int k2])).length) Slot.unset).toArray = ls at hl ⊢
  have hl : lv_has ls 3 [(0, .ref h0), (1, .int k1), (2, .int k2)] := hl
  refine lv_aload_n hx hb dX0_block_0 rfl (lv_at hl 0 rfl) ?_
  refine va_get (ci := 0) (v := .ref h1) (C := RX0) (T := TX0) (N := 3) hx hb hts in_X0 hown hK hP 0 rfl rfl 1 (by decide) (hts _ q35) (fun _ h9 => h9) rfl dX0_block_1 ?_
  refine lv_iconst (v := nI 0) hx hb dX0_block_4 (by decide) ?_
  refine lv_iload_n hx hb dX0_block_5 rfl (lv_at hl 1 rfl) ?_
  have hPc := hP.sub (ws' := [(h1, .inl (d1, 8, .inl b))]) [1] rfl
  have hKc := hK.sub (tys' := [(d1, .byte)]) [0] rfl
  have hDc := hD.sub (ws' := [(h1, .inl (d1, 8, .inl b))]) [1] (by decide) rfl
  have hFc := va_free (wc := [(h1, .inl (d1, 8, .inl b))]) hD hS hA [1] rfl
  refine va_callv (va_runS (As := [.ref h1, .int (nI 0), .int k1]) (rest := []) ⟨hx, hb, hml, hown, hts⟩ (met_word l D s.heap.size h1 d1 8 b 0 k1 (by omega) (by omega)) (va_cwS 3 hts (lw_S q49 q50 q13 q51) rfl rfl rfl (by decide +kernel) ⟨Nat.le_of_ble_eq_true rfl, Nat.le_of_ble_eq_true rfl⟩) ⟨im_Pw.blind, im_Pw.of hPc hKc hDc⟩ rfl rfl hl.1 rfl (lv_room (Nat.le_of_ble_eq_true rfl)) dX0_block_6 ⟨Nat.le_of_ble_eq_true rfl, Nat.le_of_ble_eq_true rfl⟩) hS (fun q _ h => hFc q h) hFc (fun u1 t H1 locs ht hvm eu1 hB hz1 hk1 hS => ?_)
  have eu1 : u1 = wr4 b 0 k1 := eu1
  obtain ⟨hP1, hD1⟩ := hB
  rw [ht] at hP1
  obtain ⟨hP, hD⟩ := va_join (wr := [(h0, .inr (0, [.ref hk, .ref h1, .ref h2]))]) (w1 := [(h1, .inl (d1, 8, .inl u1))]) hP hD [1] [0] rfl rfl (by decide) (by decide) hk1 hFc hP1 hD1
  generalize H1 = H at hP hS ⊢
  have hP : va_P D vwCl [(h0, .inr (0, [.ref hk, .ref h1, .ref h2])), (h1, .inl (d1, 8, .inl u1))] H := hP
  have hD : va_D A [(h0, .inr (0, [.ref hk, .ref h1, .ref h2])), (h1, .inl (d1, 8, .inl u1))] := hD
  refine lv_aload_n hx hb dX0_block_9 rfl (lv_at hl 0 rfl) ?_
  refine va_get (ci := 0) (v := .ref h1) (C := RX0) (T := TX0) (N := 3) hx hb hts in_X0 hown hK hP 0 rfl rfl 1 (by decide) (hts _ q35) (fun _ h9 => h9) rfl dX0_block_10 ?_
  refine lv_iconst (v := nI 4) hx hb dX0_block_13 (by decide) ?_
  refine lv_iload_n hx hb dX0_block_14 rfl (lv_at hl 2 rfl) ?_
  have hPc := hP.sub (ws' := [(h1, .inl (d1, 8, .inl u1))]) [1] rfl
  have hKc := hK.sub (tys' := [(d1, .byte)]) [0] rfl
  have hDc := hD.sub (ws' := [(h1, .inl (d1, 8, .inl u1))]) [1] (by decide) rfl
  have hFc := va_free (wc := [(h1, .inl (d1, 8, .inl u1))]) hD hS hA [1] rfl
  refine va_callv (va_runS (As := [.ref h1, .int (nI 4), .int k2]) (rest := []) ⟨hx, hb, hml, hown, hts⟩ (met_word l D H.size h1 d1 8 u1 4 k2 (by omega) (by omega)) (va_cwS 3 hts (lw_S q49 q50 q13 q51) rfl rfl rfl (by decide +kernel) ⟨Nat.le_of_ble_eq_true rfl, Nat.le_of_ble_eq_true rfl⟩) ⟨im_Pw.blind, im_Pw.of hPc hKc hDc⟩ rfl rfl hl.1 rfl (lv_room (Nat.le_of_ble_eq_true rfl)) dX0_block_15 ⟨Nat.le_of_ble_eq_true rfl, Nat.le_of_ble_eq_true rfl⟩) hS (fun q _ h => hFc q h) hFc (fun u2 t H1 locs ht hvm eu2 hB hz1 hk1 hS => ?_)
  have eu2 : u2 = wr4 u1 4 k2 := eu2
  obtain ⟨hP1, hD1⟩ := hB
  rw [ht] at hP1
  obtain ⟨hP, hD⟩ := va_join (wr := [(h0, .inr (0, [.ref hk, .ref h1, .ref h2]))]) (w1 := [(h1, .inl (d1, 8, .inl u2))]) hP hD [1] [0] rfl rfl (by decide) (by decide) hk1 hFc hP1 hD1
  generalize H1 = H at hP hS ⊢
  have hP : va_P D vwCl [(h0, .inr (0, [.ref hk, .ref h1, .ref h2])), (h1, .inl (d1, 8, .inl u2))] H := hP
  have hD : va_D A [(h0, .inr (0, [.ref hk, .ref h1, .ref h2])), (h1, .inl (d1, 8, .inl u2))] := hD
  have hP9 := hP.sub (ws' := [(h0, .inr (0, [.ref hk, .ref h1, .ref h2])), (h1, .inl (d1, 8, .inl u2))]) [0, 1] rfl
  have hD9 := hD.sub (ws' := [(h0, .inr (0, [.ref hk, .ref h1, .ref h2])), (h1, .inl (d1, 8, .inl u2))]) [0, 1] (by decide) rfl
  exact W.vret hx hb hr (fun t ht hW => ⟨⟨u2, rfl, by rw [eu2, eu1]; rfl, by rw [ht]; exact hP9, hD9⟩, hS.F ht⟩) hS.2.2 dX0_block_18
set_option maxHeartbeats 4000000 in
set_option maxRecDepth 100000 in
/-- IdeaDeskModel() -/
theorem met_new_m (l : Launch) (D : va_G) (sz : Nat) (h0 : Nat) : Met l yX1_init (ws_ yX1_init cX1_init 1 none) ({ frames := 1, cells := 3, slots := 48, locals := 12 }) (va_Pc [.ref h0] (im_Pw D vwCl [(h0, .inr (1, [.null, .null, .null]))] [] sz)) (va_Qv (fun (u : Unit) => u = ()) (fun (_ : Unit) (t : State) => ∃ (k b o : Nat) (dk db dd : ClassId), va_P D vwCl [(h0, .inr (1, [.ref k, .ref b, .ref o])), (k, .inl (dk, 32, .inl (fun _ => 0))), (b, .inl (db, 8, .inl (fun _ => 0))), (o, .inl (dd, 8, .inl (fun _ => 0)))] t.heap ∧ va_K D vwCl [(dk, .byte), (db, .byte), (dd, .byte)] t ∧ va_D (va_A [(h0, .inr (1, [.null, .null, .null]))] sz) [(h0, .inr (1, [.ref k, .ref b, .ref o])), (k, .inl (dk, 32, .inl (fun _ => 0))), (b, .inl (db, 8, .inl (fun _ => 0))), (o, .inl (dd, 8, .inl (fun _ => 0)))]) (va_A [(h0, .inr (1, [.null, .null, .null]))] sz)) 3 48 (va_A [(h0, .inr (1, [.null, .null, .null]))] sz) := by
  refine Met.ofW (cc := cX1_init) (maxL := 1) (ret := none) (by decide) rfl ?_
  intro p e s m args below meth c s₁ B hml hv
  obtain ⟨rfl, hsz, hP, hK, hD0⟩ := hv
  have hx := B.exec
  have hb := B.bytes
  have hr := B.returns
  have hts := atoms_spec (ws := (ws_ yX1_init cX1_init 1 none)) B.pre
  have hts : ∀ w ∈ lw_all, w.before _ s = true := fun w h => hts w (List.mem_cons_of_mem _ h)
  have hown : s.vm.findClass RX1 = some m.cls := findClass_of_methodNamed B.named
  have hlocks := B.notSynchronized
  have hin : meth.name = "<init>" := (name_of_methodNamed B.named B.method).1
  subst hsz
  have hD := hD0.self (sz := s.heap.size)
  generalize hAe : va_A [(h0, .inr (1, [.null, .null, .null]))] s.heap.size = A at hD ⊢
  have hA : ∀ q : Nat, s.heap.size ≤ q → A q := fun q h => by rw [← hAe]; exact Or.inr h
  have hS : va_S A s.heap s.heap [] := va_S.rf
  have hP : va_P D vwCl [(h0, .inr (1, [.null, .null, .null]))] s.heap := hP
  have hl := lv_entry ([.ref h0]) (n := 1) (Nat.le_of_ble_eq_true rfl)
  rw [lg_entry_eq]
  generalize (lg_sl ([.ref h0]) ++ List.replicate (1 - (lg_sl ([.ref h0])).length) Slot.unset).toArray = ls at hl ⊢
  have hl : lv_has ls 1 [(0, .ref h0)] := hl
  refine lv_aload_n hx hb dX1_init_0 rfl (lv_at hl 0 rfl) ?_
  refine W.objInit hx hb hown (hts _ q302) (hts _ q32) (hts _ q33) rfl (by rw [hml]; exact hl.1) rfl dX1_init_1 (Nat.le_of_ble_eq_true rfl) (Nat.le_of_ble_eq_true rfl) ?_
  refine W.eq (g2 := F0 m 4 ls []) rfl ?_
  refine lv_aload_n hx hb dX1_init_4 rfl (lv_at hl 0 rfl) ?_
  refine lv_bipush (v := nI 32) hx hb dX1_init_5 (by decide) ?_
  refine va_newa (atype := .byte) (ty := .byte) (N' := 32) (a0 := (32, .inl (fun _ => 0))) hx hb (hts _ q44) rfl hK hP hD hS hA (fun _ => rfl) (nI_pos (n := 32) (by omega)) (nI_clamp (n := 32) (by omega)) (Nat.le_of_ble_eq_true rfl) (Nat.le_of_ble_eq_true rfl) (Nat.le_of_ble_eq_true rfl) dX1_init_7 (fun a_7 da_7 H hK hP hD hS => ?_)
  have hK : va_K D vwCl [(da_7, .byte)] s := hK
  have hP : va_P D vwCl [(h0, .inr (1, [.null, .null, .null])), (a_7, .inl (da_7, 32, .inl (fun _ => 0)))] H := hP
  have hD : va_D A [(h0, .inr (1, [.null, .null, .null])), (a_7, .inl (da_7, 32, .inl (fun _ => 0)))] := hD
  refine va_putF (ci := 1) (v := .ref a_7) (ty := .array .byte) (C := RX1) (T := TX1) (N := 3) hx hb hts in_X1 tyX1 tyX1_ok nmX1 hown hK hP hD hS 0 rfl rfl 0 (by decide) (hts _ q303) (fun _ h9 => h9) rfl hin rfl (by decide +kernel) rfl rfl (Nat.le_of_ble_eq_true rfl) dX1_init_9 (fun H locs hP hD hS => ?_)
  have hP : va_P D vwCl [(h0, .inr (1, [.ref a_7, .null, .null])), (a_7, .inl (da_7, 32, .inl (fun _ => 0)))] H := hP
  have hD : va_D A [(h0, .inr (1, [.ref a_7, .null, .null])), (a_7, .inl (da_7, 32, .inl (fun _ => 0)))] := hD
  refine lv_aload_n hx hb dX1_init_12 rfl (lv_at hl 0 rfl) ?_
  refine lv_bipush (v := nI 8) hx hb dX1_init_13 (by decide) ?_
  refine va_newa (atype := .byte) (ty := .byte) (N' := 8) (a0 := (8, .inl (fun _ => 0))) hx hb (hts _ q44) rfl hK hP hD hS hA (fun _ => rfl) (nI_pos (n := 8) (by omega)) (nI_clamp (n := 8) (by omega)) (Nat.le_of_ble_eq_true rfl) (Nat.le_of_ble_eq_true rfl) (Nat.le_of_ble_eq_true rfl) dX1_init_15 (fun a_15 da_15 H hK hP hD hS => ?_)
  have hK : va_K D vwCl [(da_7, .byte), (da_15, .byte)] s := hK
  have hP : va_P D vwCl [(h0, .inr (1, [.ref a_7, .null, .null])), (a_7, .inl (da_7, 32, .inl (fun _ => 0))), (a_15, .inl (da_15, 8, .inl (fun _ => 0)))] H := hP
  have hD : va_D A [(h0, .inr (1, [.ref a_7, .null, .null])), (a_7, .inl (da_7, 32, .inl (fun _ => 0))), (a_15, .inl (da_15, 8, .inl (fun _ => 0)))] := hD
  refine va_putF (ci := 1) (v := .ref a_15) (ty := .array .byte) (C := RX1) (T := TX1) (N := 3) hx hb hts in_X1 tyX1 tyX1_ok nmX1 hown hK hP hD hS 0 rfl rfl 1 (by decide) (hts _ q304) (fun _ h9 => h9) rfl hin rfl (by decide +kernel) rfl rfl (Nat.le_of_ble_eq_true rfl) dX1_init_17 (fun H locs hP hD hS => ?_)
  have hP : va_P D vwCl [(h0, .inr (1, [.ref a_7, .ref a_15, .null])), (a_7, .inl (da_7, 32, .inl (fun _ => 0))), (a_15, .inl (da_15, 8, .inl (fun _ => 0)))] H := hP
  have hD : va_D A [(h0, .inr (1, [.ref a_7, .ref a_15, .null])), (a_7, .inl (da_7, 32, .inl (fun _ => 0))), (a_15, .inl (da_15, 8, .inl (fun _ => 0)))] := hD
  refine lv_aload_n hx hb dX1_init_20 rfl (lv_at hl 0 rfl) ?_
  refine lv_bipush (v := nI 8) hx hb dX1_init_21 (by decide) ?_
  refine va_newa (atype := .byte) (ty := .byte) (N' := 8) (a0 := (8, .inl (fun _ => 0))) hx hb (hts _ q44) rfl hK hP hD hS hA (fun _ => rfl) (nI_pos (n := 8) (by omega)) (nI_clamp (n := 8) (by omega)) (Nat.le_of_ble_eq_true rfl) (Nat.le_of_ble_eq_true rfl) (Nat.le_of_ble_eq_true rfl) dX1_init_23 (fun a_23 da_23 H hK hP hD hS => ?_)
  have hK : va_K D vwCl [(da_7, .byte), (da_15, .byte), (da_23, .byte)] s := hK
  have hP : va_P D vwCl [(h0, .inr (1, [.ref a_7, .ref a_15, .null])), (a_7, .inl (da_7, 32, .inl (fun _ => 0))), (a_15, .inl (da_15, 8, .inl (fun _ => 0))), (a_23, .inl (da_23, 8, .inl (fun _ => 0)))] H := hP
  have hD : va_D A [(h0, .inr (1, [.ref a_7, .ref a_15, .null])), (a_7, .inl (da_7, 32, .inl (fun _ => 0))), (a_15, .inl (da_15, 8, .inl (fun _ => 0))), (a_23, .inl (da_23, 8, .inl (fun _ => 0)))] := hD
  refine va_putF (ci := 1) (v := .ref a_23) (ty := .array .byte) (C := RX1) (T := TX1) (N := 3) hx hb hts in_X1 tyX1 tyX1_ok nmX1 hown hK hP hD hS 0 rfl rfl 2 (by decide) (hts _ q305) (fun _ h9 => h9) rfl hin rfl (by decide +kernel) rfl rfl (Nat.le_of_ble_eq_true rfl) dX1_init_25 (fun H locs hP hD hS => ?_)
  have hP : va_P D vwCl [(h0, .inr (1, [.ref a_7, .ref a_15, .ref a_23])), (a_7, .inl (da_7, 32, .inl (fun _ => 0))), (a_15, .inl (da_15, 8, .inl (fun _ => 0))), (a_23, .inl (da_23, 8, .inl (fun _ => 0)))] H := hP
  have hD : va_D A [(h0, .inr (1, [.ref a_7, .ref a_15, .ref a_23])), (a_7, .inl (da_7, 32, .inl (fun _ => 0))), (a_15, .inl (da_15, 8, .inl (fun _ => 0))), (a_23, .inl (da_23, 8, .inl (fun _ => 0)))] := hD
  refine W.widen (k := 3) (n := 48) (Nat.le_of_ble_eq_true rfl) (Nat.le_of_ble_eq_true rfl) ?_
  exact W.vret hx hb hr (fun t ht hW => ⟨⟨(), rfl, rfl, a_7, a_15, a_23, da_7, da_15, da_23, by rw [ht]; exact hP, va_K.moved hW.alike hK, hD⟩, hS.F ht⟩) hS.2.2 dX1_init_28
set_option maxHeartbeats 4000000 in
set_option maxRecDepth 100000 in
/-- IdeaDeskModel.key -/
theorem met_key_m (l : Launch) (D : va_G) (sz : Nat) (h0 hk h1 h2 : Nat) (dk : ClassId) (f : Nat → Int32) (hh k1 k2 k3 k4 : Int32) : Met l yX1_key (ws_ yX1_key cX1_key 7 none) ({ frames := 1, cells := 0, slots := 0, locals := 23 }) (va_Pc [.ref h0, .int hh, .int k1, .int k2, .int k3, .int k4] (im_Pw D vwCl [(h0, .inr (1, [.ref hk, .ref h1, .ref h2])), (hk, .inl (dk, 32, .inl f))] [(dk, .byte)] sz)) (va_Qv (fun (u : Nat → Int32) => u = keyW f hh k1 k2 k3 k4) (im_B D vwCl (va_A [(h0, .inr (1, [.ref hk, .ref h1, .ref h2])), (hk, .inl (dk, 32, .inl f))] sz) (fun (u : Nat → Int32) => [(h0, .inr (1, [.ref hk, .ref h1, .ref h2])), (hk, .inl (dk, 32, .inl u))])) (va_A [(h0, .inr (1, [.ref hk, .ref h1, .ref h2])), (hk, .inl (dk, 32, .inl f))] sz)) 0 0 (va_A [(h0, .inr (1, [.ref hk, .ref h1, .ref h2])), (hk, .inl (dk, 32, .inl f))] sz) := by
  refine Met.ofW (cc := cX1_key) (maxL := 7) (ret := none) (by decide) rfl ?_
  intro p e s m args below meth c s₁ B hml hv
  obtain ⟨rfl, hsz, hP, hK, hD0⟩ := hv
  have hx := B.exec
  have hb := B.bytes
  have hr := B.returns
  have hts := atoms_spec (ws := (ws_ yX1_key cX1_key 7 none)) B.pre
  have hts : ∀ w ∈ lw_all, w.before _ s = true := fun w h => hts w (List.mem_cons_of_mem _ h)
  have hown : s.vm.findClass RX1 = some m.cls := findClass_of_methodNamed B.named
  have hlocks := B.notSynchronized
  subst hsz
  have hD := hD0.self (sz := s.heap.size)
  generalize hAe : va_A [(h0, .inr (1, [.ref hk, .ref h1, .ref h2])), (hk, .inl (dk, 32, .inl f))] s.heap.size = A at hD ⊢
  have hA : ∀ q : Nat, s.heap.size ≤ q → A q := fun q h => by rw [← hAe]; exact Or.inr h
  have hS : va_S A s.heap s.heap [] := va_S.rf
  have hP : va_P D vwCl [(h0, .inr (1, [.ref hk, .ref h1, .ref h2])), (hk, .inl (dk, 32, .inl f))] s.heap := hP
  have hl := lv_entry ([.ref h0, .int hh, .int k1, .int k2, .int k3, .int k4]) (n := 7) (Nat.le_of_ble_eq_true rfl)
  rw [lg_entry_eq]
  generalize (lg_sl ([.ref h0, .int hh, .int k1, .int k2, .int k3, .int k4]) ++ List.replicate (7 - (lg_sl ([.ref h0, .int hh, .int k1, .int k2, .int k3, .int k4])).length) Slot.unset).toArray = ls at hl ⊢
  have hl : lv_has ls 7 [(0, .ref h0), (1, .int hh), (2, .int k1), (3, .int k2), (4, .int k3), (5, .int k4)] := hl
  obtain ⟨z, hz⟩ : ∃ z : Nat, z = hh.toBitVec.toNat % 2 := ⟨_, rfl⟩
  have lz : z < 2 := by rw [hz]; exact Nat.mod_lt _ (by decide)
  refine lv_bipush (v := nI 16) hx hb dX1_key_0 (by decide) ?_
  refine lv_iload_n hx hb dX1_key_2 rfl (lv_at hl 1 rfl) ?_
  refine lv_iconst (v := nI 1) hx hb dX1_key_3 (by decide) ?_
  refine lv_iand hx hb dX1_key_4 ?_
  refine im_top (y := nI z) (by rw [hz]; exact pk_and hh (m := nI 1) 1 (by decide)) ?_
  refine lv_imul hx hb dX1_key_5 ?_
  refine im_top (y := nI (16 * z)) (pk_mul 16 z) ?_
  refine lv_istore (lv' := [(6, .int (nI (16 * z))), (0, .ref h0), (1, .int hh), (2, .int k1), (3, .int k2), (4, .int k3), (5, .int k4)]) hx hb dX1_key_6 hl (by decide) rfl (fun ls hl => ?_)
  refine lv_aload_n hx hb dX1_key_8 rfl (lv_at hl 1 rfl) ?_
  refine va_get (ci := 1) (v := .ref hk) (C := RX1) (T := TX1) (N := 3) hx hb hts in_X1 hown hK hP 0 rfl rfl 0 (by decide) (hts _ q303) (fun _ h9 => h9) rfl dX1_key_9 ?_
  refine lv_iload hx hb dX1_key_12 (lv_at hl 0 rfl) ?_
  refine lv_iload_n hx hb dX1_key_14 rfl (lv_at hl 3 rfl) ?_
  have hPc := hP.sub (ws' := [(hk, .inl (dk, 32, .inl f))]) [1] rfl
  have hKc := hK.sub (tys' := [(dk, .byte)]) [0] rfl
  have hDc := hD.sub (ws' := [(hk, .inl (dk, 32, .inl f))]) [1] (by decide) rfl
  have hFc := va_free (wc := [(hk, .inl (dk, 32, .inl f))]) hD hS hA [1] rfl
  refine va_callv (va_runS (As := [.ref hk, .int (nI (16 * z)), .int k1]) (rest := []) ⟨hx, hb, hml, hown, hts⟩ (met_put l D s.heap.size hk dk 32 f (16 * z) k1 (by omega) (by omega)) (va_cwS 3 hts (lw_S q317 q318 q14 q319) rfl rfl rfl (by decide +kernel) ⟨Nat.le_of_ble_eq_true rfl, Nat.le_of_ble_eq_true rfl⟩) ⟨im_Pw.blind, im_Pw.of hPc hKc hDc⟩ rfl rfl hl.1 rfl (lv_room (Nat.le_of_ble_eq_true rfl)) dX1_key_15 ⟨Nat.le_of_ble_eq_true rfl, Nat.le_of_ble_eq_true rfl⟩) hS (fun q _ h => hFc q h) hFc (fun u1 t H1 locs ht hvm eu1 hB hz1 hk1 hS => ?_)
  have eu1 : u1 = wr4 f (16 * z) k1 := eu1
  obtain ⟨hP1, hD1⟩ := hB
  rw [ht] at hP1
  obtain ⟨hP, hD⟩ := va_join (wr := [(h0, .inr (1, [.ref hk, .ref h1, .ref h2]))]) (w1 := [(hk, .inl (dk, 32, .inl u1))]) hP hD [1] [0] rfl rfl (by decide) (by decide) hk1 hFc hP1 hD1
  generalize H1 = H at hP hS ⊢
  have hP : va_P D vwCl [(h0, .inr (1, [.ref hk, .ref h1, .ref h2])), (hk, .inl (dk, 32, .inl u1))] H := hP
  have hD : va_D A [(h0, .inr (1, [.ref hk, .ref h1, .ref h2])), (hk, .inl (dk, 32, .inl u1))] := hD
  refine lv_aload_n hx hb dX1_key_18 rfl (lv_at hl 1 rfl) ?_
  refine va_get (ci := 1) (v := .ref hk) (C := RX1) (T := TX1) (N := 3) hx hb hts in_X1 hown hK hP 0 rfl rfl 0 (by decide) (hts _ q303) (fun _ h9 => h9) rfl dX1_key_19 ?_
  refine lv_iload hx hb dX1_key_22 (lv_at hl 0 rfl) ?_
  refine lv_iconst (v := nI 4) hx hb dX1_key_24 (by decide) ?_
  refine lv_iadd hx hb dX1_key_25 ?_
  refine im_top (y := nI (16 * z + 4)) (nI_add (16 * z) 4) ?_
  refine lv_iload_n hx hb dX1_key_26 rfl (lv_at hl 4 rfl) ?_
  have hPc := hP.sub (ws' := [(hk, .inl (dk, 32, .inl u1))]) [1] rfl
  have hKc := hK.sub (tys' := [(dk, .byte)]) [0] rfl
  have hDc := hD.sub (ws' := [(hk, .inl (dk, 32, .inl u1))]) [1] (by decide) rfl
  have hFc := va_free (wc := [(hk, .inl (dk, 32, .inl u1))]) hD hS hA [1] rfl
  refine va_callv (va_runS (As := [.ref hk, .int (nI (16 * z + 4)), .int k2]) (rest := []) ⟨hx, hb, hml, hown, hts⟩ (met_put l D H.size hk dk 32 u1 (16 * z + 4) k2 (by omega) (by omega)) (va_cwS 3 hts (lw_S q317 q318 q14 q319) rfl rfl rfl (by decide +kernel) ⟨Nat.le_of_ble_eq_true rfl, Nat.le_of_ble_eq_true rfl⟩) ⟨im_Pw.blind, im_Pw.of hPc hKc hDc⟩ rfl rfl hl.1 rfl (lv_room (Nat.le_of_ble_eq_true rfl)) dX1_key_27 ⟨Nat.le_of_ble_eq_true rfl, Nat.le_of_ble_eq_true rfl⟩) hS (fun q _ h => hFc q h) hFc (fun u2 t H1 locs ht hvm eu2 hB hz1 hk1 hS => ?_)
  have eu2 : u2 = wr4 u1 (16 * z + 4) k2 := eu2
  obtain ⟨hP1, hD1⟩ := hB
  rw [ht] at hP1
  obtain ⟨hP, hD⟩ := va_join (wr := [(h0, .inr (1, [.ref hk, .ref h1, .ref h2]))]) (w1 := [(hk, .inl (dk, 32, .inl u2))]) hP hD [1] [0] rfl rfl (by decide) (by decide) hk1 hFc hP1 hD1
  generalize H1 = H at hP hS ⊢
  have hP : va_P D vwCl [(h0, .inr (1, [.ref hk, .ref h1, .ref h2])), (hk, .inl (dk, 32, .inl u2))] H := hP
  have hD : va_D A [(h0, .inr (1, [.ref hk, .ref h1, .ref h2])), (hk, .inl (dk, 32, .inl u2))] := hD
  refine lv_aload_n hx hb dX1_key_30 rfl (lv_at hl 1 rfl) ?_
  refine va_get (ci := 1) (v := .ref hk) (C := RX1) (T := TX1) (N := 3) hx hb hts in_X1 hown hK hP 0 rfl rfl 0 (by decide) (hts _ q303) (fun _ h9 => h9) rfl dX1_key_31 ?_
  refine lv_iload hx hb dX1_key_34 (lv_at hl 0 rfl) ?_
  refine lv_bipush (v := nI 8) hx hb dX1_key_36 (by decide) ?_
  refine lv_iadd hx hb dX1_key_38 ?_
  refine im_top (y := nI (16 * z + 8)) (nI_add (16 * z) 8) ?_
  refine lv_iload hx hb dX1_key_39 (lv_at hl 5 rfl) ?_
  have hPc := hP.sub (ws' := [(hk, .inl (dk, 32, .inl u2))]) [1] rfl
  have hKc := hK.sub (tys' := [(dk, .byte)]) [0] rfl
  have hDc := hD.sub (ws' := [(hk, .inl (dk, 32, .inl u2))]) [1] (by decide) rfl
  have hFc := va_free (wc := [(hk, .inl (dk, 32, .inl u2))]) hD hS hA [1] rfl
  refine va_callv (va_runS (As := [.ref hk, .int (nI (16 * z + 8)), .int k3]) (rest := []) ⟨hx, hb, hml, hown, hts⟩ (met_put l D H.size hk dk 32 u2 (16 * z + 8) k3 (by omega) (by omega)) (va_cwS 3 hts (lw_S q317 q318 q14 q319) rfl rfl rfl (by decide +kernel) ⟨Nat.le_of_ble_eq_true rfl, Nat.le_of_ble_eq_true rfl⟩) ⟨im_Pw.blind, im_Pw.of hPc hKc hDc⟩ rfl rfl hl.1 rfl (lv_room (Nat.le_of_ble_eq_true rfl)) dX1_key_41 ⟨Nat.le_of_ble_eq_true rfl, Nat.le_of_ble_eq_true rfl⟩) hS (fun q _ h => hFc q h) hFc (fun u3 t H1 locs ht hvm eu3 hB hz1 hk1 hS => ?_)
  have eu3 : u3 = wr4 u2 (16 * z + 8) k3 := eu3
  obtain ⟨hP1, hD1⟩ := hB
  rw [ht] at hP1
  obtain ⟨hP, hD⟩ := va_join (wr := [(h0, .inr (1, [.ref hk, .ref h1, .ref h2]))]) (w1 := [(hk, .inl (dk, 32, .inl u3))]) hP hD [1] [0] rfl rfl (by decide) (by decide) hk1 hFc hP1 hD1
  generalize H1 = H at hP hS ⊢
  have hP : va_P D vwCl [(h0, .inr (1, [.ref hk, .ref h1, .ref h2])), (hk, .inl (dk, 32, .inl u3))] H := hP
  have hD : va_D A [(h0, .inr (1, [.ref hk, .ref h1, .ref h2])), (hk, .inl (dk, 32, .inl u3))] := hD
  refine lv_aload_n hx hb dX1_key_44 rfl (lv_at hl 1 rfl) ?_
  refine va_get (ci := 1) (v := .ref hk) (C := RX1) (T := TX1) (N := 3) hx hb hts in_X1 hown hK hP 0 rfl rfl 0 (by decide) (hts _ q303) (fun _ h9 => h9) rfl dX1_key_45 ?_
  refine lv_iload hx hb dX1_key_48 (lv_at hl 0 rfl) ?_
  refine lv_bipush (v := nI 12) hx hb dX1_key_50 (by decide) ?_
  refine lv_iadd hx hb dX1_key_52 ?_
  refine im_top (y := nI (16 * z + 12)) (nI_add (16 * z) 12) ?_
  refine lv_iload hx hb dX1_key_53 (lv_at hl 6 rfl) ?_
  have hPc := hP.sub (ws' := [(hk, .inl (dk, 32, .inl u3))]) [1] rfl
  have hKc := hK.sub (tys' := [(dk, .byte)]) [0] rfl
  have hDc := hD.sub (ws' := [(hk, .inl (dk, 32, .inl u3))]) [1] (by decide) rfl
  have hFc := va_free (wc := [(hk, .inl (dk, 32, .inl u3))]) hD hS hA [1] rfl
  refine va_callv (va_runS (As := [.ref hk, .int (nI (16 * z + 12)), .int k4]) (rest := []) ⟨hx, hb, hml, hown, hts⟩ (met_put l D H.size hk dk 32 u3 (16 * z + 12) k4 (by omega) (by omega)) (va_cwS 3 hts (lw_S q317 q318 q14 q319) rfl rfl rfl (by decide +kernel) ⟨Nat.le_of_ble_eq_true rfl, Nat.le_of_ble_eq_true rfl⟩) ⟨im_Pw.blind, im_Pw.of hPc hKc hDc⟩ rfl rfl hl.1 rfl (lv_room (Nat.le_of_ble_eq_true rfl)) dX1_key_55 ⟨Nat.le_of_ble_eq_true rfl, Nat.le_of_ble_eq_true rfl⟩) hS (fun q _ h => hFc q h) hFc (fun u4 t H1 locs ht hvm eu4 hB hz1 hk1 hS => ?_)
  have eu4 : u4 = wr4 u3 (16 * z + 12) k4 := eu4
  obtain ⟨hP1, hD1⟩ := hB
  rw [ht] at hP1
  obtain ⟨hP, hD⟩ := va_join (wr := [(h0, .inr (1, [.ref hk, .ref h1, .ref h2]))]) (w1 := [(hk, .inl (dk, 32, .inl u4))]) hP hD [1] [0] rfl rfl (by decide) (by decide) hk1 hFc hP1 hD1
  generalize H1 = H at hP hS ⊢
  have hP : va_P D vwCl [(h0, .inr (1, [.ref hk, .ref h1, .ref h2])), (hk, .inl (dk, 32, .inl u4))] H := hP
  have hD : va_D A [(h0, .inr (1, [.ref hk, .ref h1, .ref h2])), (hk, .inl (dk, 32, .inl u4))] := hD
  have hP9 := hP.sub (ws' := [(h0, .inr (1, [.ref hk, .ref h1, .ref h2])), (hk, .inl (dk, 32, .inl u4))]) [0, 1] rfl
  have hD9 := hD.sub (ws' := [(h0, .inr (1, [.ref hk, .ref h1, .ref h2])), (hk, .inl (dk, 32, .inl u4))]) [0, 1] (by decide) rfl
  exact W.vret hx hb hr (fun t ht hW => ⟨⟨u4, rfl, by rw [eu4, eu3, eu2, eu1, hz]; rfl, by rw [ht]; exact hP9, hD9⟩, hS.F ht⟩) hS.2.2 dX1_key_58
set_option maxHeartbeats 4000000 in
set_option maxRecDepth 100000 in
/-- IdeaDeskModel.block -/
theorem met_block_m (l : Launch) (D : va_G) (sz : Nat) (h0 hk h1 h2 : Nat) (d1 : ClassId) (b : Nat → Int32) (k1 k2 : Int32) : Met l yX1_block (ws_ yX1_block cX1_block 3 none) ({ frames := 1, cells := 0, slots := 0, locals := 23 }) (va_Pc [.ref h0, .int k1, .int k2] (im_Pw D vwCl [(h0, .inr (1, [.ref hk, .ref h1, .ref h2])), (h1, .inl (d1, 8, .inl b))] [(d1, .byte)] sz)) (va_Qv (fun (u : Nat → Int32) => u = blkW b k1 k2) (im_B D vwCl (va_A [(h0, .inr (1, [.ref hk, .ref h1, .ref h2])), (h1, .inl (d1, 8, .inl b))] sz) (fun (u : Nat → Int32) => [(h0, .inr (1, [.ref hk, .ref h1, .ref h2])), (h1, .inl (d1, 8, .inl u))])) (va_A [(h0, .inr (1, [.ref hk, .ref h1, .ref h2])), (h1, .inl (d1, 8, .inl b))] sz)) 0 0 (va_A [(h0, .inr (1, [.ref hk, .ref h1, .ref h2])), (h1, .inl (d1, 8, .inl b))] sz) := by
  refine Met.ofW (cc := cX1_block) (maxL := 3) (ret := none) (by decide) rfl ?_
  intro p e s m args below meth c s₁ B hml hv
  obtain ⟨rfl, hsz, hP, hK, hD0⟩ := hv
  have hx := B.exec
  have hb := B.bytes
  have hr := B.returns
  have hts := atoms_spec (ws := (ws_ yX1_block cX1_block 3 none)) B.pre
  have hts : ∀ w ∈ lw_all, w.before _ s = true := fun w h => hts w (List.mem_cons_of_mem _ h)
  have hown : s.vm.findClass RX1 = some m.cls := findClass_of_methodNamed B.named
  have hlocks := B.notSynchronized
  subst hsz
  have hD := hD0.self (sz := s.heap.size)
  generalize hAe : va_A [(h0, .inr (1, [.ref hk, .ref h1, .ref h2])), (h1, .inl (d1, 8, .inl b))] s.heap.size = A at hD ⊢
  have hA : ∀ q : Nat, s.heap.size ≤ q → A q := fun q h => by rw [← hAe]; exact Or.inr h
  have hS : va_S A s.heap s.heap [] := va_S.rf
  have hP : va_P D vwCl [(h0, .inr (1, [.ref hk, .ref h1, .ref h2])), (h1, .inl (d1, 8, .inl b))] s.heap := hP
  have hl := lv_entry ([.ref h0, .int k1, .int k2]) (n := 3) (Nat.le_of_ble_eq_true rfl)
  rw [lg_entry_eq]
  generalize (lg_sl ([.ref h0, .int k1, .int k2]) ++ List.replicate (3 - (lg_sl ([.ref h0, .int k1, .int k2])).length) Slot.unset).toArray = ls at hl ⊢
  have hl : lv_has ls 3 [(0, .ref h0), (1, .int k1), (2, .int k2)] := hl
  refine lv_aload_n hx hb dX1_block_0 rfl (lv_at hl 0 rfl) ?_
  refine va_get (ci := 1) (v := .ref h1) (C := RX1) (T := TX1) (N := 3) hx hb hts in_X1 hown hK hP 0 rfl rfl 1 (by decide) (hts _ q304) (fun _ h9 => h9) rfl dX1_block_1 ?_
  refine lv_iconst (v := nI 0) hx hb dX1_block_4 (by decide) ?_
  refine lv_iload_n hx hb dX1_block_5 rfl (lv_at hl 1 rfl) ?_
  have hPc := hP.sub (ws' := [(h1, .inl (d1, 8, .inl b))]) [1] rfl
  have hKc := hK.sub (tys' := [(d1, .byte)]) [0] rfl
  have hDc := hD.sub (ws' := [(h1, .inl (d1, 8, .inl b))]) [1] (by decide) rfl
  have hFc := va_free (wc := [(h1, .inl (d1, 8, .inl b))]) hD hS hA [1] rfl
  refine va_callv (va_runS (As := [.ref h1, .int (nI 0), .int k1]) (rest := []) ⟨hx, hb, hml, hown, hts⟩ (met_put l D s.heap.size h1 d1 8 b 0 k1 (by omega) (by omega)) (va_cwS 3 hts (lw_S q317 q318 q14 q319) rfl rfl rfl (by decide +kernel) ⟨Nat.le_of_ble_eq_true rfl, Nat.le_of_ble_eq_true rfl⟩) ⟨im_Pw.blind, im_Pw.of hPc hKc hDc⟩ rfl rfl hl.1 rfl (lv_room (Nat.le_of_ble_eq_true rfl)) dX1_block_6 ⟨Nat.le_of_ble_eq_true rfl, Nat.le_of_ble_eq_true rfl⟩) hS (fun q _ h => hFc q h) hFc (fun u1 t H1 locs ht hvm eu1 hB hz1 hk1 hS => ?_)
  have eu1 : u1 = wr4 b 0 k1 := eu1
  obtain ⟨hP1, hD1⟩ := hB
  rw [ht] at hP1
  obtain ⟨hP, hD⟩ := va_join (wr := [(h0, .inr (1, [.ref hk, .ref h1, .ref h2]))]) (w1 := [(h1, .inl (d1, 8, .inl u1))]) hP hD [1] [0] rfl rfl (by decide) (by decide) hk1 hFc hP1 hD1
  generalize H1 = H at hP hS ⊢
  have hP : va_P D vwCl [(h0, .inr (1, [.ref hk, .ref h1, .ref h2])), (h1, .inl (d1, 8, .inl u1))] H := hP
  have hD : va_D A [(h0, .inr (1, [.ref hk, .ref h1, .ref h2])), (h1, .inl (d1, 8, .inl u1))] := hD
  refine lv_aload_n hx hb dX1_block_9 rfl (lv_at hl 0 rfl) ?_
  refine va_get (ci := 1) (v := .ref h1) (C := RX1) (T := TX1) (N := 3) hx hb hts in_X1 hown hK hP 0 rfl rfl 1 (by decide) (hts _ q304) (fun _ h9 => h9) rfl dX1_block_10 ?_
  refine lv_iconst (v := nI 4) hx hb dX1_block_13 (by decide) ?_
  refine lv_iload_n hx hb dX1_block_14 rfl (lv_at hl 2 rfl) ?_
  have hPc := hP.sub (ws' := [(h1, .inl (d1, 8, .inl u1))]) [1] rfl
  have hKc := hK.sub (tys' := [(d1, .byte)]) [0] rfl
  have hDc := hD.sub (ws' := [(h1, .inl (d1, 8, .inl u1))]) [1] (by decide) rfl
  have hFc := va_free (wc := [(h1, .inl (d1, 8, .inl u1))]) hD hS hA [1] rfl
  refine va_callv (va_runS (As := [.ref h1, .int (nI 4), .int k2]) (rest := []) ⟨hx, hb, hml, hown, hts⟩ (met_put l D H.size h1 d1 8 u1 4 k2 (by omega) (by omega)) (va_cwS 3 hts (lw_S q317 q318 q14 q319) rfl rfl rfl (by decide +kernel) ⟨Nat.le_of_ble_eq_true rfl, Nat.le_of_ble_eq_true rfl⟩) ⟨im_Pw.blind, im_Pw.of hPc hKc hDc⟩ rfl rfl hl.1 rfl (lv_room (Nat.le_of_ble_eq_true rfl)) dX1_block_15 ⟨Nat.le_of_ble_eq_true rfl, Nat.le_of_ble_eq_true rfl⟩) hS (fun q _ h => hFc q h) hFc (fun u2 t H1 locs ht hvm eu2 hB hz1 hk1 hS => ?_)
  have eu2 : u2 = wr4 u1 4 k2 := eu2
  obtain ⟨hP1, hD1⟩ := hB
  rw [ht] at hP1
  obtain ⟨hP, hD⟩ := va_join (wr := [(h0, .inr (1, [.ref hk, .ref h1, .ref h2]))]) (w1 := [(h1, .inl (d1, 8, .inl u2))]) hP hD [1] [0] rfl rfl (by decide) (by decide) hk1 hFc hP1 hD1
  generalize H1 = H at hP hS ⊢
  have hP : va_P D vwCl [(h0, .inr (1, [.ref hk, .ref h1, .ref h2])), (h1, .inl (d1, 8, .inl u2))] H := hP
  have hD : va_D A [(h0, .inr (1, [.ref hk, .ref h1, .ref h2])), (h1, .inl (d1, 8, .inl u2))] := hD
  have hP9 := hP.sub (ws' := [(h0, .inr (1, [.ref hk, .ref h1, .ref h2])), (h1, .inl (d1, 8, .inl u2))]) [0, 1] rfl
  have hD9 := hD.sub (ws' := [(h0, .inr (1, [.ref hk, .ref h1, .ref h2])), (h1, .inl (d1, 8, .inl u2))]) [0, 1] (by decide) rfl
  exact W.vret hx hb hr (fun t ht hW => ⟨⟨u2, rfl, by rw [eu2, eu1]; rfl, by rw [ht]; exact hP9, hD9⟩, hS.F ht⟩) hS.2.2 dX1_block_18
set_option maxHeartbeats 8000000 in
set_option maxRecDepth 100000 in
/-- IdeaDesk.run -/
theorem met_run (l : Launch) (D : va_G) (sz : Nat) (h0 hk h1 h2 : Nat) (dk d1 d2 : ClassId) (f b g : Nat → Int32) (bb : Nat) (hbb : bb < 2) (k : Int32) : Met l yX0_run (ws_ yX0_run cX0_run 6 none) ({ frames := 4, cells := 6, slots := 139, locals := 104 }) (va_Pc [.ref h0, .int (nI bb), .int k] (im_Pf D vwCl [(h0, .inr (0, [.ref hk, .ref h1, .ref h2])), (hk, .inl (dk, 32, .inl f)), (h1, .inl (d1, 8, .inl b)), (h2, .inl (d2, 8, .inl g))] [(dk, .byte), (d1, .byte), (d2, .byte)] sz)) (va_Qv (fun (u : Nat → Int32) => u = outS (keyB bb f) b g) (im_B D vwCl (va_A [(h0, .inr (0, [.ref hk, .ref h1, .ref h2])), (hk, .inl (dk, 32, .inl f)), (h1, .inl (d1, 8, .inl b)), (h2, .inl (d2, 8, .inl g))] sz) (fun (u : Nat → Int32) => [(h0, .inr (0, [.ref hk, .ref h1, .ref h2])), (hk, .inl (dk, 32, .inl f)), (h1, .inl (d1, 8, .inl b)), (h2, .inl (d2, 8, .inl u))])) (va_A [(h0, .inr (0, [.ref hk, .ref h1, .ref h2])), (hk, .inl (dk, 32, .inl f)), (h1, .inl (d1, 8, .inl b)), (h2, .inl (d2, 8, .inl g))] sz)) 6 139 (va_A [(h0, .inr (0, [.ref hk, .ref h1, .ref h2])), (hk, .inl (dk, 32, .inl f)), (h1, .inl (d1, 8, .inl b)), (h2, .inl (d2, 8, .inl g))] sz) := by
  refine Met.ofW (cc := cX0_run) (maxL := 6) (ret := none) (by decide) rfl ?_
  intro p e s m args below meth c s₁ B hml hv
  obtain ⟨rfl, ⟨hsz, hP, hK, hD0⟩, hF⟩ := hv
  have hx := B.exec
  have hb := B.bytes
  have hr := B.returns
  have hts := atoms_spec (ws := (ws_ yX0_run cX0_run 6 none)) B.pre
  have hts : ∀ w ∈ lw_all, w.before _ s = true := fun w h => hts w (List.mem_cons_of_mem _ h)
  have hown : s.vm.findClass RX0 = some m.cls := findClass_of_methodNamed B.named
  have hlocks := B.notSynchronized
  subst hsz
  have hD := hD0.self (sz := s.heap.size)
  generalize hAe : va_A [(h0, .inr (0, [.ref hk, .ref h1, .ref h2])), (hk, .inl (dk, 32, .inl f)), (h1, .inl (d1, 8, .inl b)), (h2, .inl (d2, 8, .inl g))] s.heap.size = A at hD ⊢
  have hA : ∀ q : Nat, s.heap.size ≤ q → A q := fun q h => by rw [← hAe]; exact Or.inr h
  have hS : va_S A s.heap s.heap [] := va_S.rf
  have hP : va_P D vwCl [(h0, .inr (0, [.ref hk, .ref h1, .ref h2])), (hk, .inl (dk, 32, .inl f)), (h1, .inl (d1, 8, .inl b)), (h2, .inl (d2, 8, .inl g))] s.heap := hP
  have hl := lv_entry ([.ref h0, .int (nI bb), .int k]) (n := 6) (Nat.le_of_ble_eq_true rfl)
  rw [lg_entry_eq]
  generalize (lg_sl ([.ref h0, .int (nI bb), .int k]) ++ List.replicate (6 - (lg_sl ([.ref h0, .int (nI bb), .int k])).length) Slot.unset).toArray = ls at hl ⊢
  have hl : lv_has ls 6 [(0, .ref h0), (1, .int (nI bb)), (2, .int k)] := hl
  refine lv_iload_n hx hb dX0_run_0 rfl (lv_at hl 2 rfl) ?_
  refine lv_iconst (v := nI 3) hx hb dX0_run_1 (by decide) ?_
  refine lv_iand hx hb dX0_run_2 ?_
  refine vp_callSi (W.runS (As := [.int (k &&& (nI 3))]) (rest := []) ⟨hx, hb, hml, hown, hts⟩ (met_size l (k &&& (nI 3))) (va_cwS 1 hts (lw_S q64 q65 q13 q66) rfl rfl rfl (by decide +kernel) ⟨Nat.le_of_ble_eq_true rfl, Nat.le_of_ble_eq_true rfl⟩) ⟨im_P0.blind, im_P0.of⟩ rfl rfl hl.1 rfl (lv_room (Nat.le_of_ble_eq_true rfl)) dX0_run_3 ⟨Nat.le_of_ble_eq_true rfl, Nat.le_of_ble_eq_true rfl⟩) (fun r_3 hr_3 => ?_)
  have hr_3 : r_3 = nI 16 := hr_3
  subst hr_3
  refine lv_istore_n (lv' := [(3, .int (nI 16)), (0, .ref h0), (1, .int (nI bb)), (2, .int k)]) hx hb dX0_run_6 rfl hl (by decide) rfl (fun ls hl => ?_)
  refine lv_iload_n hx hb dX0_run_7 rfl (lv_at hl 0 rfl) ?_
  refine va_newa (atype := .byte) (ty := .byte) (N' := 16) (a0 := (16, .inl (fun _ => 0))) hx hb (hts _ q44) rfl hK hP hD hS hA (fun _ => rfl) (nI_pos (n := 16) (by omega)) (nI_clamp (n := 16) (by omega)) (Nat.le_of_ble_eq_true rfl) (Nat.le_of_ble_eq_true rfl) (Nat.le_of_ble_eq_true rfl) dX0_run_8 (fun a_8 da_8 H hK hP hD hS => ?_)
  have hK : va_K D vwCl [(dk, .byte), (d1, .byte), (d2, .byte), (da_8, .byte)] s := hK
  have hP : va_P D vwCl [(h0, .inr (0, [.ref hk, .ref h1, .ref h2])), (hk, .inl (dk, 32, .inl f)), (h1, .inl (d1, 8, .inl b)), (h2, .inl (d2, 8, .inl g)), (a_8, .inl (da_8, 16, .inl (fun _ => 0)))] H := hP
  have hD : va_D A [(h0, .inr (0, [.ref hk, .ref h1, .ref h2])), (hk, .inl (dk, 32, .inl f)), (h1, .inl (d1, 8, .inl b)), (h2, .inl (d2, 8, .inl g)), (a_8, .inl (da_8, 16, .inl (fun _ => 0)))] := hD
  refine lv_astore (lv' := [(4, .ref a_8), (3, .int (nI 16)), (0, .ref h0), (1, .int (nI bb)), (2, .int k)]) hx hb dX0_run_10 hl (by decide) rfl (fun ls hl => ?_)
  refine lv_iconst (v := nI 0) hx hb dX0_run_12 (by decide) ?_
  refine lv_istore (lv' := [(5, .int (nI 0)), (4, .ref a_8), (3, .int (nI 16)), (0, .ref h0), (1, .int (nI bb)), (2, .int k)]) hx hb dX0_run_13 hl (by decide) rfl (fun ls hl => ?_)
  refine im_loop (fun n H locs ls => ∃ (i : Nat) (z : Nat → Int32), i + n = 16 ∧ z = cpN (fun _ => 0) f i ∧ va_P D vwCl [(h0, .inr (0, [.ref hk, .ref h1, .ref h2])), (hk, .inl (dk, 32, .inl f)), (h1, .inl (d1, 8, .inl b)), (h2, .inl (d2, 8, .inl g)), (a_8, .inl (da_8, 16, .inl z))] H ∧ va_D A [(h0, .inr (0, [.ref hk, .ref h1, .ref h2])), (hk, .inl (dk, 32, .inl f)), (h1, .inl (d1, 8, .inl b)), (h2, .inl (d2, 8, .inl g)), (a_8, .inl (da_8, 16, .inl z))] ∧ va_S A s.heap H locs ∧ lv_has ls 6 [(0, .ref h0), (1, .int (nI bb)), (3, .int (nI 16)), (4, .ref a_8), (5, .int (nI i))]) ?_ ?_ (16) _ _ _ ⟨0, (fun _ => 0), rfl, rfl, hP.sub [0, 1, 2, 3, 4] rfl, hD.sub [0, 1, 2, 3, 4] (by decide) rfl, hS, lv_sub hl [3, 4, 2, 1, 0] rfl⟩
  · intro H locs ls hI
    obtain ⟨i, z, hin, hz, hP, hD, hS, hl⟩ := hI
    refine lv_iload hx hb dX0_run_15 (lv_at hl 4 rfl) ?_
    refine lv_iload_n hx hb dX0_run_17 rfl (lv_at hl 2 rfl) ?_
    refine lv_icmp_ge (tgt := 39) hx hb dX0_run_18 (by decide) (fun c_18 => ?_) (fun c_18 => ?_)
    · have c_18 : 16 ≤ i := (nI_leI (a := 16) (b := i) (by omega) (by omega)).mp c_18
      obtain rfl : i = 16 := by omega
      have hfz : ∀ i, i < 16 → fits .byte (.int (z i)) = true := by
        intro i hi
        rw [hz, cpN_at _ _ 16 i hi, vp_nar_byte]
        exact pk_fb _
      have hks : ks (va_cpy z (fun _ => 0) 0 0 16) = ks f := by
        refine ks_congr (fun j hj => ?_)
        rw [sb_cpy0 hj, hz, cpN_at _ _ 16 j hj, by8_nar]
      have hkB : keyB bb (va_cpy z (fun _ => 0) 0 0 16) = keyB bb f := by
        unfold keyB
        rw [hks]
      refine va_new (ci := 2) (fs := [.null, .int 0]) (C := RX2) (T := TX2) (N := 2) hx hb hts in_X2 tyX2 tyX2_ok hown (hts _ q67) (hts _ q68) (hts _ q15) hK hP hD hS hA rfl (fun j hj => by rcases (show j = 0 ∨ j = 1 by omega) with rfl | rfl <;> rfl) (Nat.le_of_ble_eq_true rfl) (Nat.le_of_ble_eq_true rfl) dX0_run_39 (fun o_39 H hP hD hS => ?_)
      have hP : va_P D vwCl [(h0, .inr (0, [.ref hk, .ref h1, .ref h2])), (hk, .inl (dk, 32, .inl f)), (h1, .inl (d1, 8, .inl b)), (h2, .inl (d2, 8, .inl g)), (a_8, .inl (da_8, 16, .inl z)), (o_39, .inr (2, [.null, .int 0]))] H := hP
      have hD : va_D A [(h0, .inr (0, [.ref hk, .ref h1, .ref h2])), (hk, .inl (dk, 32, .inl f)), (h1, .inl (d1, 8, .inl b)), (h2, .inl (d2, 8, .inl g)), (a_8, .inl (da_8, 16, .inl z)), (o_39, .inr (2, [.null, .int 0]))] := hD
      refine lv_dup hx hb dX0_run_42 rfl ?_
      have hPc := hP.sub (ws' := [(o_39, .inr (2, [.null, .int 0]))]) [5] rfl
      have hKc := hK.sub (tys' := []) [] rfl
      have hDc := hD.sub (ws' := [(o_39, .inr (2, [.null, .int 0]))]) [5] (by decide) rfl
      have hFc := va_free (wc := [(o_39, .inr (2, [.null, .int 0]))]) hD hS hA [5] rfl
      refine va_callv (va_runI (As := []) (rest := [.ref o_39]) ⟨hx, hb, hml, hown, hts⟩ (met_eng0 l D H.size o_39) (cwI 0 hts (lw_meth q71) rfl rfl rfl (hts _ q15) (hts _ q69) (hts _ q70) rfl (by decide +kernel) ⟨Nat.le_of_ble_eq_true rfl, Nat.le_of_ble_eq_true rfl⟩) ⟨im_Pw.blind, im_Pw.of hPc hKc hDc⟩ rfl rfl hl.1 rfl (lv_room (Nat.le_of_ble_eq_true rfl)) dX0_run_43 ⟨Nat.le_of_ble_eq_true rfl, Nat.le_of_ble_eq_true rfl⟩) hS (fun q _ h => hFc q h) hFc (fun u t H1 locs ht hvm eu hB hz1 hk1 hS => ?_)
      obtain ⟨hP1, hD1⟩ := hB
      rw [ht] at hP1
      obtain ⟨hP, hD⟩ := va_join (wr := [(h0, .inr (0, [.ref hk, .ref h1, .ref h2])), (hk, .inl (dk, 32, .inl f)), (h1, .inl (d1, 8, .inl b)), (h2, .inl (d2, 8, .inl g)), (a_8, .inl (da_8, 16, .inl z))]) (w1 := [(o_39, .inr (2, [.null, .int 0]))]) hP hD [5] [0, 1, 2, 3, 4] rfl rfl (by decide) (by decide) hk1 hFc hP1 hD1
      generalize H1 = H at hP hS ⊢
      have hP : va_P D vwCl [(h0, .inr (0, [.ref hk, .ref h1, .ref h2])), (hk, .inl (dk, 32, .inl f)), (h1, .inl (d1, 8, .inl b)), (h2, .inl (d2, 8, .inl g)), (a_8, .inl (da_8, 16, .inl z)), (o_39, .inr (2, [.null, .int 0]))] H := hP
      have hD : va_D A [(h0, .inr (0, [.ref hk, .ref h1, .ref h2])), (hk, .inl (dk, 32, .inl f)), (h1, .inl (d1, 8, .inl b)), (h2, .inl (d2, 8, .inl g)), (a_8, .inl (da_8, 16, .inl z)), (o_39, .inr (2, [.null, .int 0]))] := hD
      refine lv_astore (lv' := [(5, .ref o_39), (0, .ref h0), (1, .int (nI bb)), (3, .int (nI 16)), (4, .ref a_8)]) hx hb dX0_run_46 hl (by decide) rfl (fun ls hl => ?_)
      refine lv_aload hx hb dX0_run_48 (lv_at hl 0 rfl) ?_
      refine lv_iload_n hx hb dX0_run_50 rfl (lv_at hl 2 rfl) ?_
      refine va_new (ci := 3) (fs := [.null]) (C := RX3) (T := TX3) (N := 1) hx hb hts in_X3 tyX3 tyX3_ok hown (hts _ q80) (hts _ q81) (hts _ q16) hK hP hD hS hA rfl (fun j hj => by rcases (show j = 0 by omega) with rfl <;> rfl) (Nat.le_of_ble_eq_true rfl) (Nat.le_of_ble_eq_true rfl) dX0_run_51 (fun o_51 H hP hD hS => ?_)
      have hP : va_P D vwCl [(h0, .inr (0, [.ref hk, .ref h1, .ref h2])), (hk, .inl (dk, 32, .inl f)), (h1, .inl (d1, 8, .inl b)), (h2, .inl (d2, 8, .inl g)), (a_8, .inl (da_8, 16, .inl z)), (o_39, .inr (2, [.null, .int 0])), (o_51, .inr (3, [.null]))] H := hP
      have hD : va_D A [(h0, .inr (0, [.ref hk, .ref h1, .ref h2])), (hk, .inl (dk, 32, .inl f)), (h1, .inl (d1, 8, .inl b)), (h2, .inl (d2, 8, .inl g)), (a_8, .inl (da_8, 16, .inl z)), (o_39, .inr (2, [.null, .int 0])), (o_51, .inr (3, [.null]))] := hD
      refine lv_dup hx hb dX0_run_54 rfl ?_
      refine lv_aload hx hb dX0_run_55 (lv_at hl 4 rfl) ?_
      have hPc := hP.sub (ws' := [(o_51, .inr (3, [.null])), (a_8, .inl (da_8, 16, .inl z))]) [6, 4] rfl
      have hKc := hK.sub (tys' := [(da_8, .byte)]) [3] rfl
      have hDc := hD.sub (ws' := [(o_51, .inr (3, [.null])), (a_8, .inl (da_8, 16, .inl z))]) [6, 4] (by decide) rfl
      have hFc := va_free (wc := [(o_51, .inr (3, [.null])), (a_8, .inl (da_8, 16, .inl z))]) hD hS hA [6, 4] rfl
      refine va_callv (va_runI (As := [.ref a_8]) (rest := [.ref o_51, .int (nI bb), .ref o_39]) ⟨hx, hb, hml, hown, hts⟩ (met_kp l D H.size o_51 a_8 da_8 z hfz) (cwI 1 hts (lw_meth q84) rfl rfl rfl (hts _ q16) (hts _ q82) (hts _ q83) rfl (by decide +kernel) ⟨Nat.le_of_ble_eq_true rfl, Nat.le_of_ble_eq_true rfl⟩) ⟨im_Pw.blind, im_Pw.of hPc hKc hDc⟩ rfl rfl hl.1 rfl (lv_room (Nat.le_of_ble_eq_true rfl)) dX0_run_57 ⟨Nat.le_of_ble_eq_true rfl, Nat.le_of_ble_eq_true rfl⟩) hS (fun q _ h => hFc q h) hFc (fun u t H1 locs ht hvm eu hB hz1 hk1 hS => ?_)
      obtain ⟨ra, dra, hP1, hK1, hD1⟩ := hB
      rw [ht] at hP1
      obtain ⟨hP, hD⟩ := va_join (wr := [(h0, .inr (0, [.ref hk, .ref h1, .ref h2])), (hk, .inl (dk, 32, .inl f)), (h1, .inl (d1, 8, .inl b)), (h2, .inl (d2, 8, .inl g)), (o_39, .inr (2, [.null, .int 0]))]) (w1 := [(o_51, .inr (3, [.ref ra])), (a_8, .inl (da_8, 16, .inl z)), (ra, .inl (dra, 16, .inl (va_cpy z (fun _ => 0) 0 0 16)))]) hP hD [6, 4] [0, 1, 2, 3, 5] rfl rfl (by decide) (by decide) hk1 hFc hP1 hD1
      have hK1 := va_K.moved hvm.symm hK1
      have hK : va_K D vwCl [(dk, .byte), (d1, .byte), (d2, .byte), (da_8, .byte), (dra, .byte)] s := hK.app hK1
      generalize H1 = H at hP hS ⊢
      have hP : va_P D vwCl [(h0, .inr (0, [.ref hk, .ref h1, .ref h2])), (hk, .inl (dk, 32, .inl f)), (h1, .inl (d1, 8, .inl b)), (h2, .inl (d2, 8, .inl g)), (o_39, .inr (2, [.null, .int 0])), (o_51, .inr (3, [.ref ra])), (a_8, .inl (da_8, 16, .inl z)), (ra, .inl (dra, 16, .inl (va_cpy z (fun _ => 0) 0 0 16)))] H := hP
      have hD : va_D A [(h0, .inr (0, [.ref hk, .ref h1, .ref h2])), (hk, .inl (dk, 32, .inl f)), (h1, .inl (d1, 8, .inl b)), (h2, .inl (d2, 8, .inl g)), (o_39, .inr (2, [.null, .int 0])), (o_51, .inr (3, [.ref ra])), (a_8, .inl (da_8, 16, .inl z)), (ra, .inl (dra, 16, .inl (va_cpy z (fun _ => 0) 0 0 16)))] := hD
      have hPc := hP.sub (ws' := [(o_39, .inr (2, [.null, .int 0])), (o_51, .inr (3, [.ref ra])), (ra, .inl (dra, 16, .inl (va_cpy z (fun _ => 0) 0 0 16)))]) [4, 5, 7] rfl
      have hKc := hK.sub (tys' := [(dra, .byte)]) [4] rfl
      have hDc := hD.sub (ws' := [(o_39, .inr (2, [.null, .int 0])), (o_51, .inr (3, [.ref ra])), (ra, .inl (dra, 16, .inl (va_cpy z (fun _ => 0) 0 0 16)))]) [4, 5, 7] (by decide) rfl
      have hFc := va_free (wc := [(o_39, .inr (2, [.null, .int 0])), (o_51, .inr (3, [.ref ra])), (ra, .inl (dra, 16, .inl (va_cpy z (fun _ => 0) 0 0 16)))]) hD hS hA [4, 5, 7] rfl
      refine va_callFv (va_runF (im_cls hK (k := 2) rfl) (As := [.int (nI bb), .ref o_51]) (rest := []) ⟨hx, hb, hml, hown, hts⟩ (met_init l D H.size o_39 o_51 ra .null (.int 0) dra (va_cpy z (fun _ => 0) 0 0 16) bb hbb) (va_cwF 2 hts (lw_F q100 q104 q106 q15 q108) rfl rfl rfl hF.1 (by decide +kernel) ⟨Nat.le_of_ble_eq_true rfl, Nat.le_of_ble_eq_true rfl⟩) ⟨im_Pw.blind, va_recv hK hP (ci := 2) (q0 := 4) rfl rfl, im_Pw.of hPc hKc hDc⟩ rfl rfl hl.1 rfl (lv_room (Nat.le_of_ble_eq_true rfl)) dX0_run_60 ⟨Nat.le_of_ble_eq_true rfl, Nat.le_of_ble_eq_true rfl⟩) hS (fun q _ h => hFc q h) hFc (fun u1 t H1 locs ht hvm eu1 hB hz1 hk1 hS => ?_)
      have eu1 : ∀ i, i < 52 → u1 i = nI (keyB bb (va_cpy z (fun _ => 0) 0 0 16) i) := eu1
      obtain ⟨r1, dr1, hP1, hK1, hD1⟩ := hB
      rw [ht] at hP1
      obtain ⟨hP, hD⟩ := va_join (wr := [(h0, .inr (0, [.ref hk, .ref h1, .ref h2])), (hk, .inl (dk, 32, .inl f)), (h1, .inl (d1, 8, .inl b)), (h2, .inl (d2, 8, .inl g)), (a_8, .inl (da_8, 16, .inl z))]) (w1 := [(o_39, .inr (2, [.ref r1, .int (nI bb)])), (o_51, .inr (3, [.ref ra])), (ra, .inl (dra, 16, .inl (va_cpy z (fun _ => 0) 0 0 16))), (r1, .inl (dr1, 52, .inl u1))]) hP hD [4, 5, 7] [0, 1, 2, 3, 6] rfl rfl (by decide) (by decide) hk1 hFc hP1 hD1
      have hK1 := va_K.moved hvm.symm hK1
      have hK : va_K D vwCl [(dk, .byte), (d1, .byte), (d2, .byte), (da_8, .byte), (dra, .byte), (dr1, .int)] s := hK.app hK1
      generalize H1 = H at hP hS ⊢
      have hP : va_P D vwCl [(h0, .inr (0, [.ref hk, .ref h1, .ref h2])), (hk, .inl (dk, 32, .inl f)), (h1, .inl (d1, 8, .inl b)), (h2, .inl (d2, 8, .inl g)), (a_8, .inl (da_8, 16, .inl z)), (o_39, .inr (2, [.ref r1, .int (nI bb)])), (o_51, .inr (3, [.ref ra])), (ra, .inl (dra, 16, .inl (va_cpy z (fun _ => 0) 0 0 16))), (r1, .inl (dr1, 52, .inl u1))] H := hP
      have hD : va_D A [(h0, .inr (0, [.ref hk, .ref h1, .ref h2])), (hk, .inl (dk, 32, .inl f)), (h1, .inl (d1, 8, .inl b)), (h2, .inl (d2, 8, .inl g)), (a_8, .inl (da_8, 16, .inl z)), (o_39, .inr (2, [.ref r1, .int (nI bb)])), (o_51, .inr (3, [.ref ra])), (ra, .inl (dra, 16, .inl (va_cpy z (fun _ => 0) 0 0 16))), (r1, .inl (dr1, 52, .inl u1))] := hD
      rw [hkB] at eu1
      refine lv_aload hx hb dX0_run_65 (lv_at hl 0 rfl) ?_
      refine lv_aload_n hx hb dX0_run_67 rfl (lv_at hl 1 rfl) ?_
      refine va_get (ci := 0) (v := .ref h1) (C := RX0) (T := TX0) (N := 3) hx hb hts in_X0 hown hK hP 0 rfl rfl 1 (by decide) (hts _ q35) (fun _ h9 => h9) rfl dX0_run_68 ?_
      refine lv_iconst (v := nI 0) hx hb dX0_run_71 (by decide) ?_
      refine lv_aload_n hx hb dX0_run_72 rfl (lv_at hl 1 rfl) ?_
      refine va_get (ci := 0) (v := .ref h2) (C := RX0) (T := TX0) (N := 3) hx hb hts in_X0 hown hK hP 0 rfl rfl 2 (by decide) (hts _ q36) (fun _ h9 => h9) rfl dX0_run_73 ?_
      refine lv_iconst (v := nI 0) hx hb dX0_run_76 (by decide) ?_
      have hPc := hP.sub (ws' := [(o_39, .inr (2, [.ref r1, .int (nI bb)])), (r1, .inl (dr1, 52, .inl u1)), (h1, .inl (d1, 8, .inl b)), (h2, .inl (d2, 8, .inl g))]) [5, 8, 2, 3] rfl
      have hKc := hK.sub (tys' := [(dr1, .int), (d1, .byte), (d2, .byte)]) [5, 1, 2] rfl
      have hDc := hD.sub (ws' := [(o_39, .inr (2, [.ref r1, .int (nI bb)])), (r1, .inl (dr1, 52, .inl u1)), (h1, .inl (d1, 8, .inl b)), (h2, .inl (d2, 8, .inl g))]) [5, 8, 2, 3] (by decide) rfl
      have hFc := va_free (wc := [(o_39, .inr (2, [.ref r1, .int (nI bb)])), (r1, .inl (dr1, 52, .inl u1)), (h1, .inl (d1, 8, .inl b)), (h2, .inl (d2, 8, .inl g))]) hD hS hA [5, 8, 2, 3] rfl
      refine va_callFi (va_runF (im_cls hK (k := 2) rfl) (As := [.ref h1, .int (nI 0), .ref h2, .int (nI 0)]) (rest := []) ⟨hx, hb, hml, hown, hts⟩ (met_process l D H.size o_39 h1 h2 r1 (.int (nI bb)) d1 d2 dr1 b g u1 (keyB bb f) eu1 (keyB_lt bb f)) (va_cwF 4 hts (lw_F q212 q215 q217 q15 q219) rfl rfl rfl hF.2 (by decide +kernel) ⟨Nat.le_of_ble_eq_true rfl, Nat.le_of_ble_eq_true rfl⟩) ⟨im_Pw.blind, va_recv hK hP (ci := 2) (q0 := 5) rfl rfl, im_Pw.of hPc hKc hDc⟩ rfl rfl hl.1 rfl (lv_room (Nat.le_of_ble_eq_true rfl)) dX0_run_77 ⟨Nat.le_of_ble_eq_true rfl, Nat.le_of_ble_eq_true rfl⟩) hS (fun q _ h => hFc q h) hFc (fun rr u2 t H1 locs ht hvm eu2 hB hz1 hk1 hS => ?_)
      have eu2 : u2 = outS (keyB bb f) b g := eu2
      obtain ⟨hP1, hD1⟩ := hB
      rw [ht] at hP1
      obtain ⟨hP, hD⟩ := va_join (wr := [(h0, .inr (0, [.ref hk, .ref h1, .ref h2])), (hk, .inl (dk, 32, .inl f)), (a_8, .inl (da_8, 16, .inl z)), (o_51, .inr (3, [.ref ra])), (ra, .inl (dra, 16, .inl (va_cpy z (fun _ => 0) 0 0 16)))]) (w1 := [(o_39, .inr (2, [.ref r1, .int (nI bb)])), (r1, .inl (dr1, 52, .inl u1)), (h1, .inl (d1, 8, .inl b)), (h2, .inl (d2, 8, .inl u2))]) hP hD [5, 8, 2, 3] [0, 1, 4, 6, 7] rfl rfl (by decide) (by decide) hk1 hFc hP1 hD1
      generalize H1 = H at hP hS ⊢
      have hP : va_P D vwCl [(h0, .inr (0, [.ref hk, .ref h1, .ref h2])), (hk, .inl (dk, 32, .inl f)), (a_8, .inl (da_8, 16, .inl z)), (o_51, .inr (3, [.ref ra])), (ra, .inl (dra, 16, .inl (va_cpy z (fun _ => 0) 0 0 16))), (o_39, .inr (2, [.ref r1, .int (nI bb)])), (r1, .inl (dr1, 52, .inl u1)), (h1, .inl (d1, 8, .inl b)), (h2, .inl (d2, 8, .inl u2))] H := hP
      have hD : va_D A [(h0, .inr (0, [.ref hk, .ref h1, .ref h2])), (hk, .inl (dk, 32, .inl f)), (a_8, .inl (da_8, 16, .inl z)), (o_51, .inr (3, [.ref ra])), (ra, .inl (dra, 16, .inl (va_cpy z (fun _ => 0) 0 0 16))), (o_39, .inr (2, [.ref r1, .int (nI bb)])), (r1, .inl (dr1, 52, .inl u1)), (h1, .inl (d1, 8, .inl b)), (h2, .inl (d2, 8, .inl u2))] := hD
      refine lv_pop hx hb dX0_run_82 rfl ?_
      have hP9 := hP.sub (ws' := [(h0, .inr (0, [.ref hk, .ref h1, .ref h2])), (hk, .inl (dk, 32, .inl f)), (h1, .inl (d1, 8, .inl b)), (h2, .inl (d2, 8, .inl u2))]) [0, 1, 7, 8] rfl
      have hD9 := hD.sub (ws' := [(h0, .inr (0, [.ref hk, .ref h1, .ref h2])), (hk, .inl (dk, 32, .inl f)), (h1, .inl (d1, 8, .inl b)), (h2, .inl (d2, 8, .inl u2))]) [0, 1, 7, 8] (by decide) rfl
      refine W.widen (k := 6) (n := 139) (Nat.le_of_ble_eq_true rfl) (Nat.le_of_ble_eq_true rfl) ?_
      exact W.vret hx hb hr (fun t ht hW => ⟨⟨u2, rfl, eu2, by rw [ht]; exact hP9, hD9⟩, hS.F ht⟩) hS.2.2 dX0_run_83
    · have c_18 : ¬ (16 ≤ i) := fun z => c_18 ((nI_leI (a := 16) (b := i) (by omega) (by omega)).mpr z)
      exfalso
      omega
  · intro n ih H locs ls hI
    obtain ⟨i, z, hin, hz, hP, hD, hS, hl⟩ := hI
    refine lv_iload hx hb dX0_run_15 (lv_at hl 4 rfl) ?_
    refine lv_iload_n hx hb dX0_run_17 rfl (lv_at hl 2 rfl) ?_
    refine lv_icmp_ge (tgt := 39) hx hb dX0_run_18 (by decide) (fun c_18 => ?_) (fun c_18 => ?_)
    · have c_18 : 16 ≤ i := (nI_leI (a := 16) (b := i) (by omega) (by omega)).mp c_18
      exfalso
      omega
    · have c_18 : ¬ (16 ≤ i) := fun z => c_18 ((nI_leI (a := 16) (b := i) (by omega) (by omega)).mpr z)
      refine lv_aload hx hb dX0_run_21 (lv_at hl 3 rfl) ?_
      refine lv_iload hx hb dX0_run_23 (lv_at hl 4 rfl) ?_
      refine lv_aload_n hx hb dX0_run_25 rfl (lv_at hl 0 rfl) ?_
      refine va_get (ci := 0) (v := .ref hk) (C := RX0) (T := TX0) (N := 3) hx hb hts in_X0 hown hK hP 0 rfl rfl 0 (by decide) (hts _ q34) (fun _ h9 => h9) rfl dX0_run_26 ?_
      refine lv_iload hx hb dX0_run_29 (lv_at hl 4 rfl) ?_
      refine im_bald hx hb hK hP 1 0 rfl rfl (i := i) (by omega) (by omega) (v := f i) (rfl) dX0_run_31 ?_
      refine im_bast hx hb hK hP hD hS 4 3 rfl rfl (i := i) (by omega) (by omega) (y := vp_nar .byte (f i)) (rfl) dX0_run_32 (fun g_32 H locs eg_32 hP hD hS => ?_)
      have hP : va_P D vwCl [(h0, .inr (0, [.ref hk, .ref h1, .ref h2])), (hk, .inl (dk, 32, .inl f)), (h1, .inl (d1, 8, .inl b)), (h2, .inl (d2, 8, .inl g)), (a_8, .inl (da_8, 16, .inl g_32))] H := hP
      have hD : va_D A [(h0, .inr (0, [.ref hk, .ref h1, .ref h2])), (hk, .inl (dk, 32, .inl f)), (h1, .inl (d1, 8, .inl b)), (h2, .inl (d2, 8, .inl g)), (a_8, .inl (da_8, 16, .inl g_32))] := hD
      refine lv_iinc (v := nI (i + 1)) (lv' := [(5, .int (nI (i + 1))), (0, .ref h0), (1, .int (nI bb)), (3, .int (nI 16)), (4, .ref a_8)]) hx hb dX0_run_33 hl (k := 4) rfl (nI_1 i) (by decide) rfl (fun ls hl => ?_)
      refine lv_goto (tgt := 15) hx hb dX0_run_36 (by decide) ?_
      exact ih _ _ _ ⟨i + 1, g_32, by omega, by rw [eg_32, hz]; rfl, hP.sub [0, 1, 2, 3, 4] rfl, hD.sub [0, 1, 2, 3, 4] (by decide) rfl, hS, lv_sub hl [1, 2, 3, 4, 0] rfl⟩
set_option maxHeartbeats 8000000 in
set_option maxRecDepth 100000 in
/-- IdeaDesk.lock -/
theorem met_lock_d (l : Launch) (D : va_G) (sz : Nat) (h0 hk h1 h2 : Nat) (dk d1 d2 : ClassId) (f b g : Nat → Int32) (k : Int32) : Met l yX0_lock (ws_ yX0_lock cX0_lock 2 none) ({ frames := 5, cells := 6, slots := 139, locals := 129 }) (va_Pc [.ref h0, .int k] (im_Pf D vwCl [(h0, .inr (0, [.ref hk, .ref h1, .ref h2])), (hk, .inl (dk, 32, .inl f)), (h1, .inl (d1, 8, .inl b)), (h2, .inl (d2, 8, .inl g))] [(dk, .byte), (d1, .byte), (d2, .byte)] sz)) (va_Qv (fun (u : Nat → Int32) => u = outS (keyB 1 f) b g) (im_B D vwCl (va_A [(h0, .inr (0, [.ref hk, .ref h1, .ref h2])), (hk, .inl (dk, 32, .inl f)), (h1, .inl (d1, 8, .inl b)), (h2, .inl (d2, 8, .inl g))] sz) (fun (u : Nat → Int32) => [(h0, .inr (0, [.ref hk, .ref h1, .ref h2])), (hk, .inl (dk, 32, .inl f)), (h1, .inl (d1, 8, .inl b)), (h2, .inl (d2, 8, .inl u))])) (va_A [(h0, .inr (0, [.ref hk, .ref h1, .ref h2])), (hk, .inl (dk, 32, .inl f)), (h1, .inl (d1, 8, .inl b)), (h2, .inl (d2, 8, .inl g))] sz)) 6 139 (va_A [(h0, .inr (0, [.ref hk, .ref h1, .ref h2])), (hk, .inl (dk, 32, .inl f)), (h1, .inl (d1, 8, .inl b)), (h2, .inl (d2, 8, .inl g))] sz) := by
  refine Met.ofW (cc := cX0_lock) (maxL := 2) (ret := none) (by decide) rfl ?_
  intro p e s m args below meth c s₁ B hml hv
  obtain ⟨rfl, ⟨hsz, hP, hK, hD0⟩, hF⟩ := hv
  have hx := B.exec
  have hb := B.bytes
  have hr := B.returns
  have hts := atoms_spec (ws := (ws_ yX0_lock cX0_lock 2 none)) B.pre
  have hts : ∀ w ∈ lw_all, w.before _ s = true := fun w h => hts w (List.mem_cons_of_mem _ h)
  have hown : s.vm.findClass RX0 = some m.cls := findClass_of_methodNamed B.named
  have hlocks := B.notSynchronized
  subst hsz
  have hD := hD0.self (sz := s.heap.size)
  generalize hAe : va_A [(h0, .inr (0, [.ref hk, .ref h1, .ref h2])), (hk, .inl (dk, 32, .inl f)), (h1, .inl (d1, 8, .inl b)), (h2, .inl (d2, 8, .inl g))] s.heap.size = A at hD ⊢
  have hA : ∀ q : Nat, s.heap.size ≤ q → A q := fun q h => by rw [← hAe]; exact Or.inr h
  have hS : va_S A s.heap s.heap [] := va_S.rf
  have hP : va_P D vwCl [(h0, .inr (0, [.ref hk, .ref h1, .ref h2])), (hk, .inl (dk, 32, .inl f)), (h1, .inl (d1, 8, .inl b)), (h2, .inl (d2, 8, .inl g))] s.heap := hP
  have hl := lv_entry ([.ref h0, .int k]) (n := 2) (Nat.le_of_ble_eq_true rfl)
  rw [lg_entry_eq]
  generalize (lg_sl ([.ref h0, .int k]) ++ List.replicate (2 - (lg_sl ([.ref h0, .int k])).length) Slot.unset).toArray = ls at hl ⊢
  have hl : lv_has ls 2 [(0, .ref h0), (1, .int k)] := hl
  refine lv_aload_n hx hb dX0_lock_0 rfl (lv_at hl 0 rfl) ?_
  refine lv_iconst (v := nI 1) hx hb dX0_lock_1 (by decide) ?_
  refine lv_iload_n hx hb dX0_lock_2 rfl (lv_at hl 1 rfl) ?_
  have hPc := hP.sub (ws' := [(h0, .inr (0, [.ref hk, .ref h1, .ref h2])), (hk, .inl (dk, 32, .inl f)), (h1, .inl (d1, 8, .inl b)), (h2, .inl (d2, 8, .inl g))]) [0, 1, 2, 3] rfl
  have hKc := hK.sub (tys' := [(dk, .byte), (d1, .byte), (d2, .byte)]) [0, 1, 2] rfl
  have hDc := hD.sub (ws' := [(h0, .inr (0, [.ref hk, .ref h1, .ref h2])), (hk, .inl (dk, 32, .inl f)), (h1, .inl (d1, 8, .inl b)), (h2, .inl (d2, 8, .inl g))]) [0, 1, 2, 3] (by decide) rfl
  have hFc := va_free (wc := [(h0, .inr (0, [.ref hk, .ref h1, .ref h2])), (hk, .inl (dk, 32, .inl f)), (h1, .inl (d1, 8, .inl b)), (h2, .inl (d2, 8, .inl g))]) hD hS hA [0, 1, 2, 3] rfl
  refine va_callv (va_runV (As := [.int (nI 1), .int k]) (rest := []) ⟨hx, hb, hml, hown, hts⟩ (met_run l D s.heap.size h0 hk h1 h2 dk d1 d2 f b g 1 (by decide) k) (cwV 2 hts (lw_V q60 q62 qs0 q13 q63) rfl rfl rfl (by decide +kernel) ⟨Nat.le_of_ble_eq_true rfl, Nat.le_of_ble_eq_true rfl⟩) ⟨im_Pf.blind, va_recv hK hP (ci := 0) (q0 := 0) rfl rfl, im_Pf.of hPc hKc hDc hF⟩ rfl rfl hl.1 rfl (lv_room (Nat.le_of_ble_eq_true rfl)) dX0_lock_3 ⟨Nat.le_of_ble_eq_true rfl, Nat.le_of_ble_eq_true rfl⟩) hS (fun q _ h => hFc q h) hFc (fun u1 t H1 locs ht hvm eu1 hB hz1 hk1 hS => ?_)
  have eu1 : u1 = outS (keyB 1 f) b g := eu1
  obtain ⟨hP1, hD1⟩ := hB
  rw [ht] at hP1
  obtain ⟨hP, hD⟩ := va_join (wr := []) (w1 := [(h0, .inr (0, [.ref hk, .ref h1, .ref h2])), (hk, .inl (dk, 32, .inl f)), (h1, .inl (d1, 8, .inl b)), (h2, .inl (d2, 8, .inl u1))]) hP hD [0, 1, 2, 3] [] rfl rfl (by decide) (by decide) hk1 hFc hP1 hD1
  generalize H1 = H at hP hS ⊢
  have hP : va_P D vwCl [(h0, .inr (0, [.ref hk, .ref h1, .ref h2])), (hk, .inl (dk, 32, .inl f)), (h1, .inl (d1, 8, .inl b)), (h2, .inl (d2, 8, .inl u1))] H := hP
  have hD : va_D A [(h0, .inr (0, [.ref hk, .ref h1, .ref h2])), (hk, .inl (dk, 32, .inl f)), (h1, .inl (d1, 8, .inl b)), (h2, .inl (d2, 8, .inl u1))] := hD
  have hP9 := hP.sub (ws' := [(h0, .inr (0, [.ref hk, .ref h1, .ref h2])), (hk, .inl (dk, 32, .inl f)), (h1, .inl (d1, 8, .inl b)), (h2, .inl (d2, 8, .inl u1))]) [0, 1, 2, 3] rfl
  have hD9 := hD.sub (ws' := [(h0, .inr (0, [.ref hk, .ref h1, .ref h2])), (hk, .inl (dk, 32, .inl f)), (h1, .inl (d1, 8, .inl b)), (h2, .inl (d2, 8, .inl u1))]) [0, 1, 2, 3] (by decide) rfl
  refine W.widen (k := 6) (n := 139) (Nat.le_of_ble_eq_true rfl) (Nat.le_of_ble_eq_true rfl) ?_
  exact W.vret hx hb hr (fun t ht hW => ⟨⟨u1, rfl, eu1, by rw [ht]; exact hP9, hD9⟩, hS.F ht⟩) hS.2.2 dX0_lock_6
set_option maxHeartbeats 8000000 in
set_option maxRecDepth 100000 in
/-- IdeaDesk.open -/
theorem met_open_d (l : Launch) (D : va_G) (sz : Nat) (h0 hk h1 h2 : Nat) (dk d1 d2 : ClassId) (f b g : Nat → Int32) (k : Int32) : Met l yX0_open (ws_ yX0_open cX0_open 2 none) ({ frames := 5, cells := 6, slots := 139, locals := 129 }) (va_Pc [.ref h0, .int k] (im_Pf D vwCl [(h0, .inr (0, [.ref hk, .ref h1, .ref h2])), (hk, .inl (dk, 32, .inl f)), (h1, .inl (d1, 8, .inl b)), (h2, .inl (d2, 8, .inl g))] [(dk, .byte), (d1, .byte), (d2, .byte)] sz)) (va_Qv (fun (u : Nat → Int32) => u = outS (keyB 0 f) b g) (im_B D vwCl (va_A [(h0, .inr (0, [.ref hk, .ref h1, .ref h2])), (hk, .inl (dk, 32, .inl f)), (h1, .inl (d1, 8, .inl b)), (h2, .inl (d2, 8, .inl g))] sz) (fun (u : Nat → Int32) => [(h0, .inr (0, [.ref hk, .ref h1, .ref h2])), (hk, .inl (dk, 32, .inl f)), (h1, .inl (d1, 8, .inl b)), (h2, .inl (d2, 8, .inl u))])) (va_A [(h0, .inr (0, [.ref hk, .ref h1, .ref h2])), (hk, .inl (dk, 32, .inl f)), (h1, .inl (d1, 8, .inl b)), (h2, .inl (d2, 8, .inl g))] sz)) 6 139 (va_A [(h0, .inr (0, [.ref hk, .ref h1, .ref h2])), (hk, .inl (dk, 32, .inl f)), (h1, .inl (d1, 8, .inl b)), (h2, .inl (d2, 8, .inl g))] sz) := by
  refine Met.ofW (cc := cX0_open) (maxL := 2) (ret := none) (by decide) rfl ?_
  intro p e s m args below meth c s₁ B hml hv
  obtain ⟨rfl, ⟨hsz, hP, hK, hD0⟩, hF⟩ := hv
  have hx := B.exec
  have hb := B.bytes
  have hr := B.returns
  have hts := atoms_spec (ws := (ws_ yX0_open cX0_open 2 none)) B.pre
  have hts : ∀ w ∈ lw_all, w.before _ s = true := fun w h => hts w (List.mem_cons_of_mem _ h)
  have hown : s.vm.findClass RX0 = some m.cls := findClass_of_methodNamed B.named
  have hlocks := B.notSynchronized
  subst hsz
  have hD := hD0.self (sz := s.heap.size)
  generalize hAe : va_A [(h0, .inr (0, [.ref hk, .ref h1, .ref h2])), (hk, .inl (dk, 32, .inl f)), (h1, .inl (d1, 8, .inl b)), (h2, .inl (d2, 8, .inl g))] s.heap.size = A at hD ⊢
  have hA : ∀ q : Nat, s.heap.size ≤ q → A q := fun q h => by rw [← hAe]; exact Or.inr h
  have hS : va_S A s.heap s.heap [] := va_S.rf
  have hP : va_P D vwCl [(h0, .inr (0, [.ref hk, .ref h1, .ref h2])), (hk, .inl (dk, 32, .inl f)), (h1, .inl (d1, 8, .inl b)), (h2, .inl (d2, 8, .inl g))] s.heap := hP
  have hl := lv_entry ([.ref h0, .int k]) (n := 2) (Nat.le_of_ble_eq_true rfl)
  rw [lg_entry_eq]
  generalize (lg_sl ([.ref h0, .int k]) ++ List.replicate (2 - (lg_sl ([.ref h0, .int k])).length) Slot.unset).toArray = ls at hl ⊢
  have hl : lv_has ls 2 [(0, .ref h0), (1, .int k)] := hl
  refine lv_aload_n hx hb dX0_open_0 rfl (lv_at hl 0 rfl) ?_
  refine lv_iconst (v := nI 0) hx hb dX0_open_1 (by decide) ?_
  refine lv_iload_n hx hb dX0_open_2 rfl (lv_at hl 1 rfl) ?_
  have hPc := hP.sub (ws' := [(h0, .inr (0, [.ref hk, .ref h1, .ref h2])), (hk, .inl (dk, 32, .inl f)), (h1, .inl (d1, 8, .inl b)), (h2, .inl (d2, 8, .inl g))]) [0, 1, 2, 3] rfl
  have hKc := hK.sub (tys' := [(dk, .byte), (d1, .byte), (d2, .byte)]) [0, 1, 2] rfl
  have hDc := hD.sub (ws' := [(h0, .inr (0, [.ref hk, .ref h1, .ref h2])), (hk, .inl (dk, 32, .inl f)), (h1, .inl (d1, 8, .inl b)), (h2, .inl (d2, 8, .inl g))]) [0, 1, 2, 3] (by decide) rfl
  have hFc := va_free (wc := [(h0, .inr (0, [.ref hk, .ref h1, .ref h2])), (hk, .inl (dk, 32, .inl f)), (h1, .inl (d1, 8, .inl b)), (h2, .inl (d2, 8, .inl g))]) hD hS hA [0, 1, 2, 3] rfl
  refine va_callv (va_runV (As := [.int (nI 0), .int k]) (rest := []) ⟨hx, hb, hml, hown, hts⟩ (met_run l D s.heap.size h0 hk h1 h2 dk d1 d2 f b g 0 (by decide) k) (cwV 2 hts (lw_V q60 q62 qs0 q13 q63) rfl rfl rfl (by decide +kernel) ⟨Nat.le_of_ble_eq_true rfl, Nat.le_of_ble_eq_true rfl⟩) ⟨im_Pf.blind, va_recv hK hP (ci := 0) (q0 := 0) rfl rfl, im_Pf.of hPc hKc hDc hF⟩ rfl rfl hl.1 rfl (lv_room (Nat.le_of_ble_eq_true rfl)) dX0_open_3 ⟨Nat.le_of_ble_eq_true rfl, Nat.le_of_ble_eq_true rfl⟩) hS (fun q _ h => hFc q h) hFc (fun u1 t H1 locs ht hvm eu1 hB hz1 hk1 hS => ?_)
  have eu1 : u1 = outS (keyB 0 f) b g := eu1
  obtain ⟨hP1, hD1⟩ := hB
  rw [ht] at hP1
  obtain ⟨hP, hD⟩ := va_join (wr := []) (w1 := [(h0, .inr (0, [.ref hk, .ref h1, .ref h2])), (hk, .inl (dk, 32, .inl f)), (h1, .inl (d1, 8, .inl b)), (h2, .inl (d2, 8, .inl u1))]) hP hD [0, 1, 2, 3] [] rfl rfl (by decide) (by decide) hk1 hFc hP1 hD1
  generalize H1 = H at hP hS ⊢
  have hP : va_P D vwCl [(h0, .inr (0, [.ref hk, .ref h1, .ref h2])), (hk, .inl (dk, 32, .inl f)), (h1, .inl (d1, 8, .inl b)), (h2, .inl (d2, 8, .inl u1))] H := hP
  have hD : va_D A [(h0, .inr (0, [.ref hk, .ref h1, .ref h2])), (hk, .inl (dk, 32, .inl f)), (h1, .inl (d1, 8, .inl b)), (h2, .inl (d2, 8, .inl u1))] := hD
  have hP9 := hP.sub (ws' := [(h0, .inr (0, [.ref hk, .ref h1, .ref h2])), (hk, .inl (dk, 32, .inl f)), (h1, .inl (d1, 8, .inl b)), (h2, .inl (d2, 8, .inl u1))]) [0, 1, 2, 3] rfl
  have hD9 := hD.sub (ws' := [(h0, .inr (0, [.ref hk, .ref h1, .ref h2])), (hk, .inl (dk, 32, .inl f)), (h1, .inl (d1, 8, .inl b)), (h2, .inl (d2, 8, .inl u1))]) [0, 1, 2, 3] (by decide) rfl
  refine W.widen (k := 6) (n := 139) (Nat.le_of_ble_eq_true rfl) (Nat.le_of_ble_eq_true rfl) ?_
  exact W.vret hx hb hr (fun t ht hW => ⟨⟨u1, rfl, eu1, by rw [ht]; exact hP9, hD9⟩, hS.F ht⟩) hS.2.2 dX0_open_6
set_option maxHeartbeats 4000000 in
set_option maxRecDepth 100000 in
/-- IdeaDeskModel.lock -/
theorem met_lock_m (l : Launch) (D : va_G) (sz : Nat) (h0 hk h1 h2 : Nat) (dk d1 d2 : ClassId) (f b g : Nat → Int32) (k : Int32) : Met l yX1_lock (ws_ yX1_lock cX1_lock 2 none) ({ frames := 2, cells := 3, slots := 184, locals := 54 }) (va_Pc [.ref h0, .int k] (im_Pw D vwCl [(h0, .inr (1, [.ref hk, .ref h1, .ref h2])), (hk, .inl (dk, 32, .inl f)), (h1, .inl (d1, 8, .inl b)), (h2, .inl (d2, 8, .inl g))] [(dk, .byte), (d1, .byte), (d2, .byte)] sz)) (va_Qv (fun (u : Nat → Int32) => u = outS (keyB 1 f) b g) (im_B D vwCl (va_A [(h0, .inr (1, [.ref hk, .ref h1, .ref h2])), (hk, .inl (dk, 32, .inl f)), (h1, .inl (d1, 8, .inl b)), (h2, .inl (d2, 8, .inl g))] sz) (fun (u : Nat → Int32) => [(h0, .inr (1, [.ref hk, .ref h1, .ref h2])), (hk, .inl (dk, 32, .inl f)), (h1, .inl (d1, 8, .inl b)), (h2, .inl (d2, 8, .inl u))])) (va_A [(h0, .inr (1, [.ref hk, .ref h1, .ref h2])), (hk, .inl (dk, 32, .inl f)), (h1, .inl (d1, 8, .inl b)), (h2, .inl (d2, 8, .inl g))] sz)) 3 184 (va_A [(h0, .inr (1, [.ref hk, .ref h1, .ref h2])), (hk, .inl (dk, 32, .inl f)), (h1, .inl (d1, 8, .inl b)), (h2, .inl (d2, 8, .inl g))] sz) := by
  refine Met.ofW (cc := cX1_lock) (maxL := 2) (ret := none) (by decide) rfl ?_
  intro p e s m args below meth c s₁ B hml hv
  obtain ⟨rfl, hsz, hP, hK, hD0⟩ := hv
  have hx := B.exec
  have hb := B.bytes
  have hr := B.returns
  have hts := atoms_spec (ws := (ws_ yX1_lock cX1_lock 2 none)) B.pre
  have hts : ∀ w ∈ lw_all, w.before _ s = true := fun w h => hts w (List.mem_cons_of_mem _ h)
  have hown : s.vm.findClass RX1 = some m.cls := findClass_of_methodNamed B.named
  have hlocks := B.notSynchronized
  subst hsz
  have hD := hD0.self (sz := s.heap.size)
  generalize hAe : va_A [(h0, .inr (1, [.ref hk, .ref h1, .ref h2])), (hk, .inl (dk, 32, .inl f)), (h1, .inl (d1, 8, .inl b)), (h2, .inl (d2, 8, .inl g))] s.heap.size = A at hD ⊢
  have hA : ∀ q : Nat, s.heap.size ≤ q → A q := fun q h => by rw [← hAe]; exact Or.inr h
  have hS : va_S A s.heap s.heap [] := va_S.rf
  have hP : va_P D vwCl [(h0, .inr (1, [.ref hk, .ref h1, .ref h2])), (hk, .inl (dk, 32, .inl f)), (h1, .inl (d1, 8, .inl b)), (h2, .inl (d2, 8, .inl g))] s.heap := hP
  have hl := lv_entry ([.ref h0, .int k]) (n := 2) (Nat.le_of_ble_eq_true rfl)
  rw [lg_entry_eq]
  generalize (lg_sl ([.ref h0, .int k]) ++ List.replicate (2 - (lg_sl ([.ref h0, .int k])).length) Slot.unset).toArray = ls at hl ⊢
  have hl : lv_has ls 2 [(0, .ref h0), (1, .int k)] := hl
  refine lv_aload_n hx hb dX1_lock_0 rfl (lv_at hl 0 rfl) ?_
  refine lv_aload_n hx hb dX1_lock_1 rfl (lv_at hl 0 rfl) ?_
  have hPc := hP.sub (ws' := [(h0, .inr (1, [.ref hk, .ref h1, .ref h2])), (hk, .inl (dk, 32, .inl f))]) [0, 1] rfl
  have hKc := hK.sub (tys' := [(dk, .byte)]) [0] rfl
  have hDc := hD.sub (ws' := [(h0, .inr (1, [.ref hk, .ref h1, .ref h2])), (hk, .inl (dk, 32, .inl f))]) [0, 1] (by decide) rfl
  have hFc := va_free (wc := [(h0, .inr (1, [.ref hk, .ref h1, .ref h2])), (hk, .inl (dk, 32, .inl f))]) hD hS hA [0, 1] rfl
  refine va_callr (va_runV (As := []) (rest := [.ref h0]) ⟨hx, hb, hml, hown, hts⟩ (met_keys l D s.heap.size h0 hk h1 h2 dk f) (cwV 0 hts (lw_V q328 q330 qs10 q14 q331) rfl rfl rfl (by decide +kernel) ⟨Nat.le_of_ble_eq_true rfl, Nat.le_of_ble_eq_true rfl⟩) ⟨im_Pw.blind, va_recv hK hP (ci := 1) (q0 := 0) rfl rfl, im_Pw.of hPc hKc hDc⟩ rfl rfl hl.1 rfl (lv_room (Nat.le_of_ble_eq_true rfl)) dX1_lock_2 ⟨Nat.le_of_ble_eq_true rfl, Nat.le_of_ble_eq_true rfl⟩) hS (fun q _ h => hFc q h) hFc (fun u1 r1 t H1 locs ht hvm eu1 hB hz1 hk1 hS => ?_)
  have eu1 : ∀ i, i < 52 → u1 i = nI (ks f i) := eu1
  obtain ⟨dr1, hP1, hK1, hD1⟩ := hB
  rw [ht] at hP1
  obtain ⟨hP, hD⟩ := va_join (wr := [(h1, .inl (d1, 8, .inl b)), (h2, .inl (d2, 8, .inl g))]) (w1 := [(h0, .inr (1, [.ref hk, .ref h1, .ref h2])), (hk, .inl (dk, 32, .inl f)), (r1, .inl (dr1, 52, .inl u1))]) hP hD [0, 1] [2, 3] rfl rfl (by decide) (by decide) hk1 hFc hP1 hD1
  have hK1 := va_K.moved hvm.symm hK1
  have hK : va_K D vwCl [(dk, .byte), (d1, .byte), (d2, .byte), (dr1, .int)] s := hK.app hK1
  generalize H1 = H at hP hS ⊢
  have hP : va_P D vwCl [(h1, .inl (d1, 8, .inl b)), (h2, .inl (d2, 8, .inl g)), (h0, .inr (1, [.ref hk, .ref h1, .ref h2])), (hk, .inl (dk, 32, .inl f)), (r1, .inl (dr1, 52, .inl u1))] H := hP
  have hD : va_D A [(h1, .inl (d1, 8, .inl b)), (h2, .inl (d2, 8, .inl g)), (h0, .inr (1, [.ref hk, .ref h1, .ref h2])), (hk, .inl (dk, 32, .inl f)), (r1, .inl (dr1, 52, .inl u1))] := hD
  have hPc := hP.sub (ws' := [(h0, .inr (1, [.ref hk, .ref h1, .ref h2])), (h1, .inl (d1, 8, .inl b)), (h2, .inl (d2, 8, .inl g)), (r1, .inl (dr1, 52, .inl u1))]) [2, 0, 1, 4] rfl
  have hKc := hK.sub (tys' := [(d1, .byte), (d2, .byte), (dr1, .int)]) [1, 2, 3] rfl
  have hDc := hD.sub (ws' := [(h0, .inr (1, [.ref hk, .ref h1, .ref h2])), (h1, .inl (d1, 8, .inl b)), (h2, .inl (d2, 8, .inl g)), (r1, .inl (dr1, 52, .inl u1))]) [2, 0, 1, 4] (by decide) rfl
  have hFc := va_free (wc := [(h0, .inr (1, [.ref hk, .ref h1, .ref h2])), (h1, .inl (d1, 8, .inl b)), (h2, .inl (d2, 8, .inl g)), (r1, .inl (dr1, 52, .inl u1))]) hD hS hA [2, 0, 1, 4] rfl
  refine va_callv (va_runV (As := [.ref r1]) (rest := []) ⟨hx, hb, hml, hown, hts⟩ (met_runs l D H.size h0 hk h1 h2 r1 d1 d2 dr1 b g u1 (ks f) eu1 (ks_lt f)) (cwV 1 hts (lw_V q332 q334 qs11 q14 q335) rfl rfl rfl (by decide +kernel) ⟨Nat.le_of_ble_eq_true rfl, Nat.le_of_ble_eq_true rfl⟩) ⟨im_Pw.blind, va_recv hK hP (ci := 1) (q0 := 2) rfl rfl, im_Pw.of hPc hKc hDc⟩ rfl rfl hl.1 rfl (lv_room (Nat.le_of_ble_eq_true rfl)) dX1_lock_5 ⟨Nat.le_of_ble_eq_true rfl, Nat.le_of_ble_eq_true rfl⟩) hS (fun q _ h => hFc q h) hFc (fun u9 t H1 locs ht hvm eu9 hB hz1 hk1 hS => ?_)
  have eu9 : u9 = outS (ks f) b g := eu9
  obtain ⟨hP1, hD1⟩ := hB
  rw [ht] at hP1
  obtain ⟨hP, hD⟩ := va_join (wr := [(hk, .inl (dk, 32, .inl f))]) (w1 := [(h0, .inr (1, [.ref hk, .ref h1, .ref h2])), (h1, .inl (d1, 8, .inl b)), (h2, .inl (d2, 8, .inl u9)), (r1, .inl (dr1, 52, .inl u1))]) hP hD [2, 0, 1, 4] [3] rfl rfl (by decide) (by decide) hk1 hFc hP1 hD1
  generalize H1 = H at hP hS ⊢
  have hP : va_P D vwCl [(hk, .inl (dk, 32, .inl f)), (h0, .inr (1, [.ref hk, .ref h1, .ref h2])), (h1, .inl (d1, 8, .inl b)), (h2, .inl (d2, 8, .inl u9)), (r1, .inl (dr1, 52, .inl u1))] H := hP
  have hD : va_D A [(hk, .inl (dk, 32, .inl f)), (h0, .inr (1, [.ref hk, .ref h1, .ref h2])), (h1, .inl (d1, 8, .inl b)), (h2, .inl (d2, 8, .inl u9)), (r1, .inl (dr1, 52, .inl u1))] := hD
  have hP9 := hP.sub (ws' := [(h0, .inr (1, [.ref hk, .ref h1, .ref h2])), (hk, .inl (dk, 32, .inl f)), (h1, .inl (d1, 8, .inl b)), (h2, .inl (d2, 8, .inl u9))]) [1, 0, 2, 3] rfl
  have hD9 := hD.sub (ws' := [(h0, .inr (1, [.ref hk, .ref h1, .ref h2])), (hk, .inl (dk, 32, .inl f)), (h1, .inl (d1, 8, .inl b)), (h2, .inl (d2, 8, .inl u9))]) [1, 0, 2, 3] (by decide) rfl
  refine W.widen (k := 3) (n := 184) (Nat.le_of_ble_eq_true rfl) (Nat.le_of_ble_eq_true rfl) ?_
  exact W.vret hx hb hr (fun t ht hW => ⟨⟨u9, rfl, by rw [eu9]; rfl, by rw [ht]; exact hP9, hD9⟩, hS.F ht⟩) hS.2.2 dX1_lock_8
set_option maxHeartbeats 4000000 in
set_option maxRecDepth 100000 in
/-- IdeaDeskModel.open -/
theorem met_open_m (l : Launch) (D : va_G) (sz : Nat) (h0 hk h1 h2 : Nat) (dk d1 d2 : ClassId) (f b g : Nat → Int32) (k : Int32) : Met l yX1_open (ws_ yX1_open cX1_open 2 none) ({ frames := 3, cells := 4, slots := 236, locals := 71 }) (va_Pc [.ref h0, .int k] (im_Pw D vwCl [(h0, .inr (1, [.ref hk, .ref h1, .ref h2])), (hk, .inl (dk, 32, .inl f)), (h1, .inl (d1, 8, .inl b)), (h2, .inl (d2, 8, .inl g))] [(dk, .byte), (d1, .byte), (d2, .byte)] sz)) (va_Qv (fun (u : Nat → Int32) => u = outS (keyB 0 f) b g) (im_B D vwCl (va_A [(h0, .inr (1, [.ref hk, .ref h1, .ref h2])), (hk, .inl (dk, 32, .inl f)), (h1, .inl (d1, 8, .inl b)), (h2, .inl (d2, 8, .inl g))] sz) (fun (u : Nat → Int32) => [(h0, .inr (1, [.ref hk, .ref h1, .ref h2])), (hk, .inl (dk, 32, .inl f)), (h1, .inl (d1, 8, .inl b)), (h2, .inl (d2, 8, .inl u))])) (va_A [(h0, .inr (1, [.ref hk, .ref h1, .ref h2])), (hk, .inl (dk, 32, .inl f)), (h1, .inl (d1, 8, .inl b)), (h2, .inl (d2, 8, .inl g))] sz)) 4 236 (va_A [(h0, .inr (1, [.ref hk, .ref h1, .ref h2])), (hk, .inl (dk, 32, .inl f)), (h1, .inl (d1, 8, .inl b)), (h2, .inl (d2, 8, .inl g))] sz) := by
  refine Met.ofW (cc := cX1_open) (maxL := 2) (ret := none) (by decide) rfl ?_
  intro p e s m args below meth c s₁ B hml hv
  obtain ⟨rfl, hsz, hP, hK, hD0⟩ := hv
  have hx := B.exec
  have hb := B.bytes
  have hr := B.returns
  have hts := atoms_spec (ws := (ws_ yX1_open cX1_open 2 none)) B.pre
  have hts : ∀ w ∈ lw_all, w.before _ s = true := fun w h => hts w (List.mem_cons_of_mem _ h)
  have hown : s.vm.findClass RX1 = some m.cls := findClass_of_methodNamed B.named
  have hlocks := B.notSynchronized
  subst hsz
  have hD := hD0.self (sz := s.heap.size)
  generalize hAe : va_A [(h0, .inr (1, [.ref hk, .ref h1, .ref h2])), (hk, .inl (dk, 32, .inl f)), (h1, .inl (d1, 8, .inl b)), (h2, .inl (d2, 8, .inl g))] s.heap.size = A at hD ⊢
  have hA : ∀ q : Nat, s.heap.size ≤ q → A q := fun q h => by rw [← hAe]; exact Or.inr h
  have hS : va_S A s.heap s.heap [] := va_S.rf
  have hP : va_P D vwCl [(h0, .inr (1, [.ref hk, .ref h1, .ref h2])), (hk, .inl (dk, 32, .inl f)), (h1, .inl (d1, 8, .inl b)), (h2, .inl (d2, 8, .inl g))] s.heap := hP
  have hl := lv_entry ([.ref h0, .int k]) (n := 2) (Nat.le_of_ble_eq_true rfl)
  rw [lg_entry_eq]
  generalize (lg_sl ([.ref h0, .int k]) ++ List.replicate (2 - (lg_sl ([.ref h0, .int k])).length) Slot.unset).toArray = ls at hl ⊢
  have hl : lv_has ls 2 [(0, .ref h0), (1, .int k)] := hl
  refine lv_aload_n hx hb dX1_open_0 rfl (lv_at hl 0 rfl) ?_
  refine lv_aload_n hx hb dX1_open_1 rfl (lv_at hl 0 rfl) ?_
  have hPc := hP.sub (ws' := [(h0, .inr (1, [.ref hk, .ref h1, .ref h2])), (hk, .inl (dk, 32, .inl f))]) [0, 1] rfl
  have hKc := hK.sub (tys' := [(dk, .byte)]) [0] rfl
  have hDc := hD.sub (ws' := [(h0, .inr (1, [.ref hk, .ref h1, .ref h2])), (hk, .inl (dk, 32, .inl f))]) [0, 1] (by decide) rfl
  have hFc := va_free (wc := [(h0, .inr (1, [.ref hk, .ref h1, .ref h2])), (hk, .inl (dk, 32, .inl f))]) hD hS hA [0, 1] rfl
  refine va_callr (va_runV (As := []) (rest := [.ref h0]) ⟨hx, hb, hml, hown, hts⟩ (met_keys l D s.heap.size h0 hk h1 h2 dk f) (cwV 0 hts (lw_V q328 q330 qs10 q14 q331) rfl rfl rfl (by decide +kernel) ⟨Nat.le_of_ble_eq_true rfl, Nat.le_of_ble_eq_true rfl⟩) ⟨im_Pw.blind, va_recv hK hP (ci := 1) (q0 := 0) rfl rfl, im_Pw.of hPc hKc hDc⟩ rfl rfl hl.1 rfl (lv_room (Nat.le_of_ble_eq_true rfl)) dX1_open_2 ⟨Nat.le_of_ble_eq_true rfl, Nat.le_of_ble_eq_true rfl⟩) hS (fun q _ h => hFc q h) hFc (fun u1 r1 t H1 locs ht hvm eu1 hB hz1 hk1 hS => ?_)
  have eu1 : ∀ i, i < 52 → u1 i = nI (ks f i) := eu1
  obtain ⟨dr1, hP1, hK1, hD1⟩ := hB
  rw [ht] at hP1
  obtain ⟨hP, hD⟩ := va_join (wr := [(h1, .inl (d1, 8, .inl b)), (h2, .inl (d2, 8, .inl g))]) (w1 := [(h0, .inr (1, [.ref hk, .ref h1, .ref h2])), (hk, .inl (dk, 32, .inl f)), (r1, .inl (dr1, 52, .inl u1))]) hP hD [0, 1] [2, 3] rfl rfl (by decide) (by decide) hk1 hFc hP1 hD1
  have hK1 := va_K.moved hvm.symm hK1
  have hK : va_K D vwCl [(dk, .byte), (d1, .byte), (d2, .byte), (dr1, .int)] s := hK.app hK1
  generalize H1 = H at hP hS ⊢
  have hP : va_P D vwCl [(h1, .inl (d1, 8, .inl b)), (h2, .inl (d2, 8, .inl g)), (h0, .inr (1, [.ref hk, .ref h1, .ref h2])), (hk, .inl (dk, 32, .inl f)), (r1, .inl (dr1, 52, .inl u1))] H := hP
  have hD : va_D A [(h1, .inl (d1, 8, .inl b)), (h2, .inl (d2, 8, .inl g)), (h0, .inr (1, [.ref hk, .ref h1, .ref h2])), (hk, .inl (dk, 32, .inl f)), (r1, .inl (dr1, 52, .inl u1))] := hD
  have hPc := hP.sub (ws' := [(r1, .inl (dr1, 52, .inl u1))]) [4] rfl
  have hKc := hK.sub (tys' := [(dr1, .int)]) [3] rfl
  have hDc := hD.sub (ws' := [(r1, .inl (dr1, 52, .inl u1))]) [4] (by decide) rfl
  have hFc := va_free (wc := [(r1, .inl (dr1, 52, .inl u1))]) hD hS hA [4] rfl
  refine va_callr (va_runS (As := [.ref r1]) (rest := [.ref h0]) ⟨hx, hb, hml, hown, hts⟩ (met_undoing l D H.size r1 dr1 u1 (ks f) eu1 (ks_lt f)) (va_cwS 1 hts (lw_S q350 q351 q14 q352) rfl rfl rfl (by decide +kernel) ⟨Nat.le_of_ble_eq_true rfl, Nat.le_of_ble_eq_true rfl⟩) ⟨im_Pw.blind, im_Pw.of hPc hKc hDc⟩ rfl rfl hl.1 rfl (lv_room (Nat.le_of_ble_eq_true rfl)) dX1_open_5 ⟨Nat.le_of_ble_eq_true rfl, Nat.le_of_ble_eq_true rfl⟩) hS (fun q _ h => hFc q h) hFc (fun u2 r2 t H1 locs ht hvm eu2 hB hz1 hk1 hS => ?_)
  have eu2 : ∀ i, i < 52 → u2 i = nI (undo (ks f) i) := eu2
  obtain ⟨dr2, hP1, hK1, hD1⟩ := hB
  rw [ht] at hP1
  obtain ⟨hP, hD⟩ := va_join (wr := [(h1, .inl (d1, 8, .inl b)), (h2, .inl (d2, 8, .inl g)), (h0, .inr (1, [.ref hk, .ref h1, .ref h2])), (hk, .inl (dk, 32, .inl f))]) (w1 := [(r1, .inl (dr1, 52, .inl u1)), (r2, .inl (dr2, 52, .inl u2))]) hP hD [4] [0, 1, 2, 3] rfl rfl (by decide) (by decide) hk1 hFc hP1 hD1
  have hK1 := va_K.moved hvm.symm hK1
  have hK : va_K D vwCl [(dk, .byte), (d1, .byte), (d2, .byte), (dr1, .int), (dr2, .int)] s := hK.app hK1
  generalize H1 = H at hP hS ⊢
  have hP : va_P D vwCl [(h1, .inl (d1, 8, .inl b)), (h2, .inl (d2, 8, .inl g)), (h0, .inr (1, [.ref hk, .ref h1, .ref h2])), (hk, .inl (dk, 32, .inl f)), (r1, .inl (dr1, 52, .inl u1)), (r2, .inl (dr2, 52, .inl u2))] H := hP
  have hD : va_D A [(h1, .inl (d1, 8, .inl b)), (h2, .inl (d2, 8, .inl g)), (h0, .inr (1, [.ref hk, .ref h1, .ref h2])), (hk, .inl (dk, 32, .inl f)), (r1, .inl (dr1, 52, .inl u1)), (r2, .inl (dr2, 52, .inl u2))] := hD
  have hPc := hP.sub (ws' := [(h0, .inr (1, [.ref hk, .ref h1, .ref h2])), (h1, .inl (d1, 8, .inl b)), (h2, .inl (d2, 8, .inl g)), (r2, .inl (dr2, 52, .inl u2))]) [2, 0, 1, 5] rfl
  have hKc := hK.sub (tys' := [(d1, .byte), (d2, .byte), (dr2, .int)]) [1, 2, 4] rfl
  have hDc := hD.sub (ws' := [(h0, .inr (1, [.ref hk, .ref h1, .ref h2])), (h1, .inl (d1, 8, .inl b)), (h2, .inl (d2, 8, .inl g)), (r2, .inl (dr2, 52, .inl u2))]) [2, 0, 1, 5] (by decide) rfl
  have hFc := va_free (wc := [(h0, .inr (1, [.ref hk, .ref h1, .ref h2])), (h1, .inl (d1, 8, .inl b)), (h2, .inl (d2, 8, .inl g)), (r2, .inl (dr2, 52, .inl u2))]) hD hS hA [2, 0, 1, 5] rfl
  refine va_callv (va_runV (As := [.ref r2]) (rest := []) ⟨hx, hb, hml, hown, hts⟩ (met_runs l D H.size h0 hk h1 h2 r2 d1 d2 dr2 b g u2 (undo (ks f)) eu2 (undo_lt (ks_lt f))) (cwV 1 hts (lw_V q332 q334 qs11 q14 q335) rfl rfl rfl (by decide +kernel) ⟨Nat.le_of_ble_eq_true rfl, Nat.le_of_ble_eq_true rfl⟩) ⟨im_Pw.blind, va_recv hK hP (ci := 1) (q0 := 2) rfl rfl, im_Pw.of hPc hKc hDc⟩ rfl rfl hl.1 rfl (lv_room (Nat.le_of_ble_eq_true rfl)) dX1_open_8 ⟨Nat.le_of_ble_eq_true rfl, Nat.le_of_ble_eq_true rfl⟩) hS (fun q _ h => hFc q h) hFc (fun u9 t H1 locs ht hvm eu9 hB hz1 hk1 hS => ?_)
  have eu9 : u9 = outS (undo (ks f)) b g := eu9
  obtain ⟨hP1, hD1⟩ := hB
  rw [ht] at hP1
  obtain ⟨hP, hD⟩ := va_join (wr := [(hk, .inl (dk, 32, .inl f)), (r1, .inl (dr1, 52, .inl u1))]) (w1 := [(h0, .inr (1, [.ref hk, .ref h1, .ref h2])), (h1, .inl (d1, 8, .inl b)), (h2, .inl (d2, 8, .inl u9)), (r2, .inl (dr2, 52, .inl u2))]) hP hD [2, 0, 1, 5] [3, 4] rfl rfl (by decide) (by decide) hk1 hFc hP1 hD1
  generalize H1 = H at hP hS ⊢
  have hP : va_P D vwCl [(hk, .inl (dk, 32, .inl f)), (r1, .inl (dr1, 52, .inl u1)), (h0, .inr (1, [.ref hk, .ref h1, .ref h2])), (h1, .inl (d1, 8, .inl b)), (h2, .inl (d2, 8, .inl u9)), (r2, .inl (dr2, 52, .inl u2))] H := hP
  have hD : va_D A [(hk, .inl (dk, 32, .inl f)), (r1, .inl (dr1, 52, .inl u1)), (h0, .inr (1, [.ref hk, .ref h1, .ref h2])), (h1, .inl (d1, 8, .inl b)), (h2, .inl (d2, 8, .inl u9)), (r2, .inl (dr2, 52, .inl u2))] := hD
  have hP9 := hP.sub (ws' := [(h0, .inr (1, [.ref hk, .ref h1, .ref h2])), (hk, .inl (dk, 32, .inl f)), (h1, .inl (d1, 8, .inl b)), (h2, .inl (d2, 8, .inl u9))]) [2, 0, 3, 4] rfl
  have hD9 := hD.sub (ws' := [(h0, .inr (1, [.ref hk, .ref h1, .ref h2])), (hk, .inl (dk, 32, .inl f)), (h1, .inl (d1, 8, .inl b)), (h2, .inl (d2, 8, .inl u9))]) [2, 0, 3, 4] (by decide) rfl
  refine W.widen (k := 4) (n := 236) (Nat.le_of_ble_eq_true rfl) (Nat.le_of_ble_eq_true rfl) ?_
  exact W.vret hx hb hr (fun t ht hW => ⟨⟨u9, rfl, by rw [eu9]; rfl, by rw [ht]; exact hP9, hD9⟩, hS.F ht⟩) hS.2.2 dX1_open_11
end
section
theorem q12 : (Jvm.Cond.initialized "IdeaDeskLaw") ∈ lw_all := lw_g (lw_at lw_m1 0 rfl) rfl
set_option maxRecDepth 100000
theorem q26 : (Jvm.Cond.classLink "IdeaDeskLaw" (7 : Nat) "IdeaDesk") ∈ lw_all := lw_g (lw_at lw_m1 14 rfl) rfl
theorem q28 : (Jvm.Cond.methodLink "IdeaDeskLaw" (9 : Nat) ({ cls := "IdeaDesk", name := "<init>", desc := "()V" } : Jvm.MethodName)) ∈ lw_all := lw_g (lw_at lw_m1 16 rfl) rfl
theorem q45 : (Jvm.Cond.methodLink "IdeaDeskLaw" (13 : Nat) ({ cls := "IdeaDesk", name := "key", desc := "(IIIII)V" } : Jvm.MethodName)) ∈ lw_all := lw_g (lw_at lw_m1 33 rfl) rfl
theorem q52 : (Jvm.Cond.methodLink "IdeaDeskLaw" (18 : Nat) ({ cls := "IdeaDesk", name := "block", desc := "(II)V" } : Jvm.MethodName)) ∈ lw_all := lw_g (lw_at lw_m1 40 rfl) rfl
theorem q56 : (Jvm.Cond.methodLink "IdeaDeskLaw" (23 : Nat) ({ cls := "IdeaDesk", name := "lock", desc := "(I)V" } : Jvm.MethodName)) ∈ lw_all := lw_g (lw_at lw_m1 44 rfl) rfl
theorem q285 : (Jvm.Cond.methodLink "IdeaDeskLaw" (28 : Nat) ({ cls := "IdeaDesk", name := "open", desc := "(I)V" } : Jvm.MethodName)) ∈ lw_all := lw_g (lw_at lw_m2 33 rfl) rfl
theorem q289 : (Jvm.Cond.methodLink "IdeaDeskLaw" (32 : Nat) ({ cls := "IdeaDesk", name := "again", desc := "()V" } : Jvm.MethodName)) ∈ lw_all := lw_g (lw_at lw_m2 37 rfl) rfl
theorem q293 : (Jvm.Cond.methodLink "IdeaDeskLaw" (36 : Nat) ({ cls := "IdeaDesk", name := "out", desc := "(I)I" } : Jvm.MethodName)) ∈ lw_all := lw_g (lw_at lw_m2 41 rfl) rfl
theorem q297 : (Jvm.Cond.classLink "IdeaDeskLaw" (10 : Nat) "IdeaDeskModel") ∈ lw_all := lw_g (lw_at lw_m2 45 rfl) rfl
theorem q299 : (Jvm.Cond.methodLink "IdeaDeskLaw" (12 : Nat) ({ cls := "IdeaDeskModel", name := "<init>", desc := "()V" } : Jvm.MethodName)) ∈ lw_all := lw_g (lw_at lw_m2 47 rfl) rfl
theorem q313 : (Jvm.Cond.methodLink "IdeaDeskLaw" (17 : Nat) ({ cls := "IdeaDeskModel", name := "key", desc := "(IIIII)V" } : Jvm.MethodName)) ∈ lw_all := lw_g (lw_at lw_m2 61 rfl) rfl
theorem q320 : (Jvm.Cond.methodLink "IdeaDeskLaw" (22 : Nat) ({ cls := "IdeaDeskModel", name := "block", desc := "(II)V" } : Jvm.MethodName)) ∈ lw_all := lw_g (lw_at lw_m2 68 rfl) rfl
theorem q324 : (Jvm.Cond.methodLink "IdeaDeskLaw" (27 : Nat) ({ cls := "IdeaDeskModel", name := "lock", desc := "(I)V" } : Jvm.MethodName)) ∈ lw_all := lw_g (lw_at lw_m2 72 rfl) rfl
theorem q346 : (Jvm.Cond.methodLink "IdeaDeskLaw" (31 : Nat) ({ cls := "IdeaDeskModel", name := "open", desc := "(I)V" } : Jvm.MethodName)) ∈ lw_all := lw_g (lw_at lw_m2 94 rfl) rfl
theorem q359 : (Jvm.Cond.methodLink "IdeaDeskLaw" (35 : Nat) ({ cls := "IdeaDeskModel", name := "again", desc := "()V" } : Jvm.MethodName)) ∈ lw_all := lw_g (lw_at lw_m2 107 rfl) rfl
theorem q363 : (Jvm.Cond.methodLink "IdeaDeskLaw" (40 : Nat) ({ cls := "IdeaDeskModel", name := "out", desc := "(I)I" } : Jvm.MethodName)) ∈ lw_all := lw_g (lw_at lw_m2 111 rfl) rfl
/-! the law's own entry -/
set_option maxRecDepth 100000
abbrev cL_law : ByteArray := code
def dkwL_law_10 : List UInt8 := [3, 172, 132, 3, 6, 167, 255, 31, 4, 172]
abbrev dktL_law_10 : List UInt8 := dkwL_law_10 ++ []
def dkwL_law_9 : List UInt8 := [167, 0, 26, 43, 42, 29, 4, 96, 46, 182, 0, 36, 44, 42, 29, 4, 96, 46, 182, 0, 40, 159, 0, 5]
abbrev dktL_law_9 : List UInt8 := dkwL_law_9 ++ dktL_law_10
def dkwL_law_8 : List UInt8 := [182, 0, 28, 44, 42, 29, 4, 96, 46, 182, 0, 31, 167, 0, 37, 43, 182, 0, 32, 44, 182, 0, 35]
abbrev dktL_law_8 : List UInt8 := dkwL_law_8 ++ dktL_law_9
def dkwL_law_7 : List UInt8 := [96, 46, 182, 0, 23, 44, 42, 29, 4, 96, 46, 182, 0, 27, 167, 0, 58, 43, 42, 29, 4, 96, 46]
abbrev dktL_law_7 : List UInt8 := dkwL_law_7 ++ dktL_law_8
def dkwL_law_6 : List UInt8 := [182, 0, 18, 44, 42, 29, 4, 96, 46, 42, 29, 5, 96, 46, 182, 0, 22, 167, 0, 79, 43, 42, 29, 4]
abbrev dktL_law_6 : List UInt8 := dkwL_law_6 ++ dktL_law_7
def dkwL_law_5 : List UInt8 := [96, 46, 42, 29, 8, 96, 46, 182, 0, 17, 167, 0, 110, 43, 42, 29, 4, 96, 46, 42, 29, 5, 96, 46]
abbrev dktL_law_5 : List UInt8 := dkwL_law_5 ++ dktL_law_6
def dkwL_law_4 : List UInt8 := [96, 46, 182, 0, 13, 44, 42, 29, 4, 96, 46, 42, 29, 5, 96, 46, 42, 29, 6, 96, 46, 42, 29, 7]
abbrev dktL_law_4 : List UInt8 := dkwL_law_4 ++ dktL_law_5
def dkwL_law_3 : List UInt8 := [43, 42, 29, 4, 96, 46, 42, 29, 5, 96, 46, 42, 29, 6, 96, 46, 42, 29, 7, 96, 46, 42, 29, 8]
abbrev dktL_law_3 : List UInt8 := dkwL_law_3 ++ dktL_law_4
def dkwL_law_2 : List UInt8 := [170, 0, 0, 0, 0, 0, 207, 0, 0, 0, 0, 0, 0, 0, 5, 0, 0, 0, 39, 0, 0, 0, 100, 0, 0, 0, 131, 0, 0, 0, 152, 0, 0, 0, 173, 0, 0, 0, 184]
abbrev dktL_law_2 : List UInt8 := dkwL_law_2 ++ dktL_law_3
def dkwL_law_1 : List UInt8 := [163, 0, 222, 42, 29, 46, 16, 7, 126]
abbrev dktL_law_1 : List UInt8 := dkwL_law_1 ++ dktL_law_2
def dkwL_law_0 : List UInt8 := [187, 0, 7, 89, 183, 0, 9, 76, 187, 0, 10, 89, 183, 0, 12, 77, 3, 62, 29, 42, 190, 16, 6, 100]
abbrev dktL_law_0 : List UInt8 := dkwL_law_0 ++ dktL_law_1
theorem dksL_law_0 : cL_law.data.toList.drop 0 = dktL_law_0 := by decide +kernel
theorem dksL_law_1 : cL_law.data.toList.drop 24 = dktL_law_1 := dk_seg dksL_law_0 24 rfl rfl
theorem dksL_law_2 : cL_law.data.toList.drop 33 = dktL_law_2 := dk_seg dksL_law_1 9 rfl rfl
theorem dksL_law_3 : cL_law.data.toList.drop 72 = dktL_law_3 := dk_seg dksL_law_2 39 rfl rfl
theorem dksL_law_4 : cL_law.data.toList.drop 96 = dktL_law_4 := dk_seg dksL_law_3 24 rfl rfl
theorem dksL_law_5 : cL_law.data.toList.drop 120 = dktL_law_5 := dk_seg dksL_law_4 24 rfl rfl
theorem dksL_law_6 : cL_law.data.toList.drop 144 = dktL_law_6 := dk_seg dksL_law_5 24 rfl rfl
theorem dksL_law_7 : cL_law.data.toList.drop 168 = dktL_law_7 := dk_seg dksL_law_6 24 rfl rfl
theorem dksL_law_8 : cL_law.data.toList.drop 191 = dktL_law_8 := dk_seg dksL_law_7 23 rfl rfl
theorem dksL_law_9 : cL_law.data.toList.drop 214 = dktL_law_9 := dk_seg dksL_law_8 23 rfl rfl
theorem dksL_law_10 : cL_law.data.toList.drop 238 = dktL_law_10 := dk_seg dksL_law_9 24 rfl rfl
theorem dL_law_0 : decode cL_law 0 = .ok (.new 7, 3) := dk_187 0 7 (dk_at dksL_law_0 0 rfl rfl)
theorem dL_law_3 : decode cL_law 3 = .ok (.dup, 1) := dk_89 (dk_at dksL_law_0 3 rfl rfl)
theorem dL_law_4 : decode cL_law 4 = .ok (.invokespecial 9, 3) := dk_183 0 9 (dk_at dksL_law_0 4 rfl rfl)
theorem dL_law_7 : decode cL_law 7 = .ok (.astore_n 1, 1) := dk_76 (dk_at dksL_law_0 7 rfl rfl)
theorem dL_law_8 : decode cL_law 8 = .ok (.new 10, 3) := dk_187 0 10 (dk_at dksL_law_0 8 rfl rfl)
theorem dL_law_11 : decode cL_law 11 = .ok (.dup, 1) := dk_89 (dk_at dksL_law_0 11 rfl rfl)
theorem dL_law_12 : decode cL_law 12 = .ok (.invokespecial 12, 3) := dk_183 0 12 (dk_at dksL_law_0 12 rfl rfl)
theorem dL_law_15 : decode cL_law 15 = .ok (.astore_n 2, 1) := dk_77 (dk_at dksL_law_0 15 rfl rfl)
theorem dL_law_16 : decode cL_law 16 = .ok (.iconst 0, 1) := dk_3 (dk_at dksL_law_0 16 rfl rfl)
theorem dL_law_17 : decode cL_law 17 = .ok (.istore_n 3, 1) := dk_62 (dk_at dksL_law_0 17 rfl rfl)
theorem dL_law_18 : decode cL_law 18 = .ok (.iload_n 3, 1) := dk_29 (dk_at dksL_law_0 18 rfl rfl)
theorem dL_law_19 : decode cL_law 19 = .ok (.aload_n 0, 1) := dk_42 (dk_at dksL_law_0 19 rfl rfl)
theorem dL_law_20 : decode cL_law 20 = .ok (.arraylength, 1) := dk_190 (dk_at dksL_law_0 20 rfl rfl)
theorem dL_law_21 : decode cL_law 21 = .ok (.bipush 6, 2) := dk_16 6 (dk_at dksL_law_0 21 rfl rfl)
theorem dL_law_23 : decode cL_law 23 = .ok (.isub, 1) := dk_100 (dk_at dksL_law_0 23 rfl rfl)
theorem dL_law_24 : decode cL_law 24 = .ok (.if_icmp .gt 222, 3) := dk_163 0 222 (dk_at dksL_law_1 0 rfl rfl)
theorem dL_law_27 : decode cL_law 27 = .ok (.aload_n 0, 1) := dk_42 (dk_at dksL_law_1 3 rfl rfl)
theorem dL_law_28 : decode cL_law 28 = .ok (.iload_n 3, 1) := dk_29 (dk_at dksL_law_1 4 rfl rfl)
theorem dL_law_29 : decode cL_law 29 = .ok (.iaload, 1) := dk_46 (dk_at dksL_law_1 5 rfl rfl)
theorem dL_law_30 : decode cL_law 30 = .ok (.bipush 7, 2) := dk_16 7 (dk_at dksL_law_1 6 rfl rfl)
theorem dL_law_32 : decode cL_law 32 = .ok (.iand, 1) := dk_126 (dk_at dksL_law_1 8 rfl rfl)
theorem dL_law_33 : decode cL_law 33 = .ok (.tableswitch 207 0 5 #[39, 100, 131, 152, 173, 184], 39) := by decide +kernel
theorem dL_law_72 : decode cL_law 72 = .ok (.aload_n 1, 1) := dk_43 (dk_at dksL_law_3 0 rfl rfl)
theorem dL_law_73 : decode cL_law 73 = .ok (.aload_n 0, 1) := dk_42 (dk_at dksL_law_3 1 rfl rfl)
theorem dL_law_74 : decode cL_law 74 = .ok (.iload_n 3, 1) := dk_29 (dk_at dksL_law_3 2 rfl rfl)
theorem dL_law_75 : decode cL_law 75 = .ok (.iconst 1, 1) := dk_4 (dk_at dksL_law_3 3 rfl rfl)
theorem dL_law_76 : decode cL_law 76 = .ok (.iadd, 1) := dk_96 (dk_at dksL_law_3 4 rfl rfl)
theorem dL_law_77 : decode cL_law 77 = .ok (.iaload, 1) := dk_46 (dk_at dksL_law_3 5 rfl rfl)
theorem dL_law_78 : decode cL_law 78 = .ok (.aload_n 0, 1) := dk_42 (dk_at dksL_law_3 6 rfl rfl)
theorem dL_law_79 : decode cL_law 79 = .ok (.iload_n 3, 1) := dk_29 (dk_at dksL_law_3 7 rfl rfl)
theorem dL_law_80 : decode cL_law 80 = .ok (.iconst 2, 1) := dk_5 (dk_at dksL_law_3 8 rfl rfl)
theorem dL_law_81 : decode cL_law 81 = .ok (.iadd, 1) := dk_96 (dk_at dksL_law_3 9 rfl rfl)
theorem dL_law_82 : decode cL_law 82 = .ok (.iaload, 1) := dk_46 (dk_at dksL_law_3 10 rfl rfl)
theorem dL_law_83 : decode cL_law 83 = .ok (.aload_n 0, 1) := dk_42 (dk_at dksL_law_3 11 rfl rfl)
theorem dL_law_84 : decode cL_law 84 = .ok (.iload_n 3, 1) := dk_29 (dk_at dksL_law_3 12 rfl rfl)
theorem dL_law_85 : decode cL_law 85 = .ok (.iconst 3, 1) := dk_6 (dk_at dksL_law_3 13 rfl rfl)
theorem dL_law_86 : decode cL_law 86 = .ok (.iadd, 1) := dk_96 (dk_at dksL_law_3 14 rfl rfl)
theorem dL_law_87 : decode cL_law 87 = .ok (.iaload, 1) := dk_46 (dk_at dksL_law_3 15 rfl rfl)
theorem dL_law_88 : decode cL_law 88 = .ok (.aload_n 0, 1) := dk_42 (dk_at dksL_law_3 16 rfl rfl)
theorem dL_law_89 : decode cL_law 89 = .ok (.iload_n 3, 1) := dk_29 (dk_at dksL_law_3 17 rfl rfl)
theorem dL_law_90 : decode cL_law 90 = .ok (.iconst 4, 1) := dk_7 (dk_at dksL_law_3 18 rfl rfl)
theorem dL_law_91 : decode cL_law 91 = .ok (.iadd, 1) := dk_96 (dk_at dksL_law_3 19 rfl rfl)
theorem dL_law_92 : decode cL_law 92 = .ok (.iaload, 1) := dk_46 (dk_at dksL_law_3 20 rfl rfl)
theorem dL_law_93 : decode cL_law 93 = .ok (.aload_n 0, 1) := dk_42 (dk_at dksL_law_3 21 rfl rfl)
theorem dL_law_94 : decode cL_law 94 = .ok (.iload_n 3, 1) := dk_29 (dk_at dksL_law_3 22 rfl rfl)
theorem dL_law_95 : decode cL_law 95 = .ok (.iconst 5, 1) := dk_8 (dk_at dksL_law_3 23 rfl rfl)
theorem dL_law_96 : decode cL_law 96 = .ok (.iadd, 1) := dk_96 (dk_at dksL_law_4 0 rfl rfl)
theorem dL_law_97 : decode cL_law 97 = .ok (.iaload, 1) := dk_46 (dk_at dksL_law_4 1 rfl rfl)
theorem dL_law_98 : decode cL_law 98 = .ok (.invokevirtual 13, 3) := dk_182 0 13 (dk_at dksL_law_4 2 rfl rfl)
theorem dL_law_101 : decode cL_law 101 = .ok (.aload_n 2, 1) := dk_44 (dk_at dksL_law_4 5 rfl rfl)
theorem dL_law_102 : decode cL_law 102 = .ok (.aload_n 0, 1) := dk_42 (dk_at dksL_law_4 6 rfl rfl)
theorem dL_law_103 : decode cL_law 103 = .ok (.iload_n 3, 1) := dk_29 (dk_at dksL_law_4 7 rfl rfl)
theorem dL_law_104 : decode cL_law 104 = .ok (.iconst 1, 1) := dk_4 (dk_at dksL_law_4 8 rfl rfl)
theorem dL_law_105 : decode cL_law 105 = .ok (.iadd, 1) := dk_96 (dk_at dksL_law_4 9 rfl rfl)
theorem dL_law_106 : decode cL_law 106 = .ok (.iaload, 1) := dk_46 (dk_at dksL_law_4 10 rfl rfl)
theorem dL_law_107 : decode cL_law 107 = .ok (.aload_n 0, 1) := dk_42 (dk_at dksL_law_4 11 rfl rfl)
theorem dL_law_108 : decode cL_law 108 = .ok (.iload_n 3, 1) := dk_29 (dk_at dksL_law_4 12 rfl rfl)
theorem dL_law_109 : decode cL_law 109 = .ok (.iconst 2, 1) := dk_5 (dk_at dksL_law_4 13 rfl rfl)
theorem dL_law_110 : decode cL_law 110 = .ok (.iadd, 1) := dk_96 (dk_at dksL_law_4 14 rfl rfl)
theorem dL_law_111 : decode cL_law 111 = .ok (.iaload, 1) := dk_46 (dk_at dksL_law_4 15 rfl rfl)
theorem dL_law_112 : decode cL_law 112 = .ok (.aload_n 0, 1) := dk_42 (dk_at dksL_law_4 16 rfl rfl)
theorem dL_law_113 : decode cL_law 113 = .ok (.iload_n 3, 1) := dk_29 (dk_at dksL_law_4 17 rfl rfl)
theorem dL_law_114 : decode cL_law 114 = .ok (.iconst 3, 1) := dk_6 (dk_at dksL_law_4 18 rfl rfl)
theorem dL_law_115 : decode cL_law 115 = .ok (.iadd, 1) := dk_96 (dk_at dksL_law_4 19 rfl rfl)
theorem dL_law_116 : decode cL_law 116 = .ok (.iaload, 1) := dk_46 (dk_at dksL_law_4 20 rfl rfl)
theorem dL_law_117 : decode cL_law 117 = .ok (.aload_n 0, 1) := dk_42 (dk_at dksL_law_4 21 rfl rfl)
theorem dL_law_118 : decode cL_law 118 = .ok (.iload_n 3, 1) := dk_29 (dk_at dksL_law_4 22 rfl rfl)
theorem dL_law_119 : decode cL_law 119 = .ok (.iconst 4, 1) := dk_7 (dk_at dksL_law_4 23 rfl rfl)
theorem dL_law_120 : decode cL_law 120 = .ok (.iadd, 1) := dk_96 (dk_at dksL_law_5 0 rfl rfl)
theorem dL_law_121 : decode cL_law 121 = .ok (.iaload, 1) := dk_46 (dk_at dksL_law_5 1 rfl rfl)
theorem dL_law_122 : decode cL_law 122 = .ok (.aload_n 0, 1) := dk_42 (dk_at dksL_law_5 2 rfl rfl)
theorem dL_law_123 : decode cL_law 123 = .ok (.iload_n 3, 1) := dk_29 (dk_at dksL_law_5 3 rfl rfl)
theorem dL_law_124 : decode cL_law 124 = .ok (.iconst 5, 1) := dk_8 (dk_at dksL_law_5 4 rfl rfl)
theorem dL_law_125 : decode cL_law 125 = .ok (.iadd, 1) := dk_96 (dk_at dksL_law_5 5 rfl rfl)
theorem dL_law_126 : decode cL_law 126 = .ok (.iaload, 1) := dk_46 (dk_at dksL_law_5 6 rfl rfl)
theorem dL_law_127 : decode cL_law 127 = .ok (.invokevirtual 17, 3) := dk_182 0 17 (dk_at dksL_law_5 7 rfl rfl)
theorem dL_law_130 : decode cL_law 130 = .ok (.goto 110, 3) := dk_167 0 110 (dk_at dksL_law_5 10 rfl rfl)
theorem dL_law_133 : decode cL_law 133 = .ok (.aload_n 1, 1) := dk_43 (dk_at dksL_law_5 13 rfl rfl)
theorem dL_law_134 : decode cL_law 134 = .ok (.aload_n 0, 1) := dk_42 (dk_at dksL_law_5 14 rfl rfl)
theorem dL_law_135 : decode cL_law 135 = .ok (.iload_n 3, 1) := dk_29 (dk_at dksL_law_5 15 rfl rfl)
theorem dL_law_136 : decode cL_law 136 = .ok (.iconst 1, 1) := dk_4 (dk_at dksL_law_5 16 rfl rfl)
theorem dL_law_137 : decode cL_law 137 = .ok (.iadd, 1) := dk_96 (dk_at dksL_law_5 17 rfl rfl)
theorem dL_law_138 : decode cL_law 138 = .ok (.iaload, 1) := dk_46 (dk_at dksL_law_5 18 rfl rfl)
theorem dL_law_139 : decode cL_law 139 = .ok (.aload_n 0, 1) := dk_42 (dk_at dksL_law_5 19 rfl rfl)
theorem dL_law_140 : decode cL_law 140 = .ok (.iload_n 3, 1) := dk_29 (dk_at dksL_law_5 20 rfl rfl)
theorem dL_law_141 : decode cL_law 141 = .ok (.iconst 2, 1) := dk_5 (dk_at dksL_law_5 21 rfl rfl)
theorem dL_law_142 : decode cL_law 142 = .ok (.iadd, 1) := dk_96 (dk_at dksL_law_5 22 rfl rfl)
theorem dL_law_143 : decode cL_law 143 = .ok (.iaload, 1) := dk_46 (dk_at dksL_law_5 23 rfl rfl)
theorem dL_law_144 : decode cL_law 144 = .ok (.invokevirtual 18, 3) := dk_182 0 18 (dk_at dksL_law_6 0 rfl rfl)
theorem dL_law_147 : decode cL_law 147 = .ok (.aload_n 2, 1) := dk_44 (dk_at dksL_law_6 3 rfl rfl)
theorem dL_law_148 : decode cL_law 148 = .ok (.aload_n 0, 1) := dk_42 (dk_at dksL_law_6 4 rfl rfl)
theorem dL_law_149 : decode cL_law 149 = .ok (.iload_n 3, 1) := dk_29 (dk_at dksL_law_6 5 rfl rfl)
theorem dL_law_150 : decode cL_law 150 = .ok (.iconst 1, 1) := dk_4 (dk_at dksL_law_6 6 rfl rfl)
theorem dL_law_151 : decode cL_law 151 = .ok (.iadd, 1) := dk_96 (dk_at dksL_law_6 7 rfl rfl)
theorem dL_law_152 : decode cL_law 152 = .ok (.iaload, 1) := dk_46 (dk_at dksL_law_6 8 rfl rfl)
theorem dL_law_153 : decode cL_law 153 = .ok (.aload_n 0, 1) := dk_42 (dk_at dksL_law_6 9 rfl rfl)
theorem dL_law_154 : decode cL_law 154 = .ok (.iload_n 3, 1) := dk_29 (dk_at dksL_law_6 10 rfl rfl)
theorem dL_law_155 : decode cL_law 155 = .ok (.iconst 2, 1) := dk_5 (dk_at dksL_law_6 11 rfl rfl)
theorem dL_law_156 : decode cL_law 156 = .ok (.iadd, 1) := dk_96 (dk_at dksL_law_6 12 rfl rfl)
theorem dL_law_157 : decode cL_law 157 = .ok (.iaload, 1) := dk_46 (dk_at dksL_law_6 13 rfl rfl)
theorem dL_law_158 : decode cL_law 158 = .ok (.invokevirtual 22, 3) := dk_182 0 22 (dk_at dksL_law_6 14 rfl rfl)
theorem dL_law_161 : decode cL_law 161 = .ok (.goto 79, 3) := dk_167 0 79 (dk_at dksL_law_6 17 rfl rfl)
theorem dL_law_164 : decode cL_law 164 = .ok (.aload_n 1, 1) := dk_43 (dk_at dksL_law_6 20 rfl rfl)
theorem dL_law_165 : decode cL_law 165 = .ok (.aload_n 0, 1) := dk_42 (dk_at dksL_law_6 21 rfl rfl)
theorem dL_law_166 : decode cL_law 166 = .ok (.iload_n 3, 1) := dk_29 (dk_at dksL_law_6 22 rfl rfl)
theorem dL_law_167 : decode cL_law 167 = .ok (.iconst 1, 1) := dk_4 (dk_at dksL_law_6 23 rfl rfl)
theorem dL_law_168 : decode cL_law 168 = .ok (.iadd, 1) := dk_96 (dk_at dksL_law_7 0 rfl rfl)
theorem dL_law_169 : decode cL_law 169 = .ok (.iaload, 1) := dk_46 (dk_at dksL_law_7 1 rfl rfl)
theorem dL_law_170 : decode cL_law 170 = .ok (.invokevirtual 23, 3) := dk_182 0 23 (dk_at dksL_law_7 2 rfl rfl)
theorem dL_law_173 : decode cL_law 173 = .ok (.aload_n 2, 1) := dk_44 (dk_at dksL_law_7 5 rfl rfl)
theorem dL_law_174 : decode cL_law 174 = .ok (.aload_n 0, 1) := dk_42 (dk_at dksL_law_7 6 rfl rfl)
theorem dL_law_175 : decode cL_law 175 = .ok (.iload_n 3, 1) := dk_29 (dk_at dksL_law_7 7 rfl rfl)
theorem dL_law_176 : decode cL_law 176 = .ok (.iconst 1, 1) := dk_4 (dk_at dksL_law_7 8 rfl rfl)
theorem dL_law_177 : decode cL_law 177 = .ok (.iadd, 1) := dk_96 (dk_at dksL_law_7 9 rfl rfl)
theorem dL_law_178 : decode cL_law 178 = .ok (.iaload, 1) := dk_46 (dk_at dksL_law_7 10 rfl rfl)
theorem dL_law_179 : decode cL_law 179 = .ok (.invokevirtual 27, 3) := dk_182 0 27 (dk_at dksL_law_7 11 rfl rfl)
theorem dL_law_182 : decode cL_law 182 = .ok (.goto 58, 3) := dk_167 0 58 (dk_at dksL_law_7 14 rfl rfl)
theorem dL_law_185 : decode cL_law 185 = .ok (.aload_n 1, 1) := dk_43 (dk_at dksL_law_7 17 rfl rfl)
theorem dL_law_186 : decode cL_law 186 = .ok (.aload_n 0, 1) := dk_42 (dk_at dksL_law_7 18 rfl rfl)
theorem dL_law_187 : decode cL_law 187 = .ok (.iload_n 3, 1) := dk_29 (dk_at dksL_law_7 19 rfl rfl)
theorem dL_law_188 : decode cL_law 188 = .ok (.iconst 1, 1) := dk_4 (dk_at dksL_law_7 20 rfl rfl)
theorem dL_law_189 : decode cL_law 189 = .ok (.iadd, 1) := dk_96 (dk_at dksL_law_7 21 rfl rfl)
theorem dL_law_190 : decode cL_law 190 = .ok (.iaload, 1) := dk_46 (dk_at dksL_law_7 22 rfl rfl)
theorem dL_law_191 : decode cL_law 191 = .ok (.invokevirtual 28, 3) := dk_182 0 28 (dk_at dksL_law_8 0 rfl rfl)
theorem dL_law_194 : decode cL_law 194 = .ok (.aload_n 2, 1) := dk_44 (dk_at dksL_law_8 3 rfl rfl)
theorem dL_law_195 : decode cL_law 195 = .ok (.aload_n 0, 1) := dk_42 (dk_at dksL_law_8 4 rfl rfl)
theorem dL_law_196 : decode cL_law 196 = .ok (.iload_n 3, 1) := dk_29 (dk_at dksL_law_8 5 rfl rfl)
theorem dL_law_197 : decode cL_law 197 = .ok (.iconst 1, 1) := dk_4 (dk_at dksL_law_8 6 rfl rfl)
theorem dL_law_198 : decode cL_law 198 = .ok (.iadd, 1) := dk_96 (dk_at dksL_law_8 7 rfl rfl)
theorem dL_law_199 : decode cL_law 199 = .ok (.iaload, 1) := dk_46 (dk_at dksL_law_8 8 rfl rfl)
theorem dL_law_200 : decode cL_law 200 = .ok (.invokevirtual 31, 3) := dk_182 0 31 (dk_at dksL_law_8 9 rfl rfl)
theorem dL_law_203 : decode cL_law 203 = .ok (.goto 37, 3) := dk_167 0 37 (dk_at dksL_law_8 12 rfl rfl)
theorem dL_law_206 : decode cL_law 206 = .ok (.aload_n 1, 1) := dk_43 (dk_at dksL_law_8 15 rfl rfl)
theorem dL_law_207 : decode cL_law 207 = .ok (.invokevirtual 32, 3) := dk_182 0 32 (dk_at dksL_law_8 16 rfl rfl)
theorem dL_law_210 : decode cL_law 210 = .ok (.aload_n 2, 1) := dk_44 (dk_at dksL_law_8 19 rfl rfl)
theorem dL_law_211 : decode cL_law 211 = .ok (.invokevirtual 35, 3) := dk_182 0 35 (dk_at dksL_law_8 20 rfl rfl)
theorem dL_law_214 : decode cL_law 214 = .ok (.goto 26, 3) := dk_167 0 26 (dk_at dksL_law_9 0 rfl rfl)
theorem dL_law_217 : decode cL_law 217 = .ok (.aload_n 1, 1) := dk_43 (dk_at dksL_law_9 3 rfl rfl)
theorem dL_law_218 : decode cL_law 218 = .ok (.aload_n 0, 1) := dk_42 (dk_at dksL_law_9 4 rfl rfl)
theorem dL_law_219 : decode cL_law 219 = .ok (.iload_n 3, 1) := dk_29 (dk_at dksL_law_9 5 rfl rfl)
theorem dL_law_220 : decode cL_law 220 = .ok (.iconst 1, 1) := dk_4 (dk_at dksL_law_9 6 rfl rfl)
theorem dL_law_221 : decode cL_law 221 = .ok (.iadd, 1) := dk_96 (dk_at dksL_law_9 7 rfl rfl)
theorem dL_law_222 : decode cL_law 222 = .ok (.iaload, 1) := dk_46 (dk_at dksL_law_9 8 rfl rfl)
theorem dL_law_223 : decode cL_law 223 = .ok (.invokevirtual 36, 3) := dk_182 0 36 (dk_at dksL_law_9 9 rfl rfl)
theorem dL_law_226 : decode cL_law 226 = .ok (.aload_n 2, 1) := dk_44 (dk_at dksL_law_9 12 rfl rfl)
theorem dL_law_227 : decode cL_law 227 = .ok (.aload_n 0, 1) := dk_42 (dk_at dksL_law_9 13 rfl rfl)
theorem dL_law_228 : decode cL_law 228 = .ok (.iload_n 3, 1) := dk_29 (dk_at dksL_law_9 14 rfl rfl)
theorem dL_law_229 : decode cL_law 229 = .ok (.iconst 1, 1) := dk_4 (dk_at dksL_law_9 15 rfl rfl)
theorem dL_law_230 : decode cL_law 230 = .ok (.iadd, 1) := dk_96 (dk_at dksL_law_9 16 rfl rfl)
theorem dL_law_231 : decode cL_law 231 = .ok (.iaload, 1) := dk_46 (dk_at dksL_law_9 17 rfl rfl)
theorem dL_law_232 : decode cL_law 232 = .ok (.invokevirtual 40, 3) := dk_182 0 40 (dk_at dksL_law_9 18 rfl rfl)
theorem dL_law_235 : decode cL_law 235 = .ok (.if_icmp .eq 5, 3) := dk_159 0 5 (dk_at dksL_law_9 21 rfl rfl)
theorem dL_law_238 : decode cL_law 238 = .ok (.iconst 0, 1) := dk_3 (dk_at dksL_law_10 0 rfl rfl)
theorem dL_law_239 : decode cL_law 239 = .ok (.ireturn, 1) := dk_172 (dk_at dksL_law_10 1 rfl rfl)
theorem dL_law_240 : decode cL_law 240 = .ok (.iinc 3 6, 3) := dk_132 3 6 (dk_at dksL_law_10 2 rfl rfl)
theorem dL_law_243 : decode cL_law 243 = .ok (.goto (-225), 3) := dk_167 255 31 (dk_at dksL_law_10 5 rfl rfl)
theorem dL_law_246 : decode cL_law 246 = .ok (.iconst 1, 1) := dk_4 (dk_at dksL_law_10 8 rfl rfl)
theorem dL_law_247 : decode cL_law 247 = .ok (.ireturn, 1) := dk_172 (dk_at dksL_law_10 9 rfl rfl)
/-! THE CLAIM OUT OF ONE WALK OF THE LAW'S BODY. Your part is whole_start (and what it stands on); all else here is the same for every law, but numbers. -/
def R_law : String := "IdeaDeskLaw"
def lw_P (b : Addr) (xs : List Int32) (args : Array Value) (s : State) : Prop := args = #[.ref b] ∧ s.IntsAt b xs ∧ xs.length ≤ 288 ∧ (Jvm.Cond.and given_1 narrow_1).before args s = true
def lw_Q (_ : Array Value) (s : State) (o : Outcome) (t : State) : Prop := o = .returned (some (.int 1)) ∧ Framed s o t [] 600096 7301386
def lw_Z (below : List Frame) (a : Array Value) (s : State) : State → Prop := fun t => ∃ o, t.status = .running ∧ Ended t below o ∧ lw_Q a s o t
/-- the law's own end, with 1 on the stack, nothing written that was there before, its room as the claim has it -/
theorem lw_ret {p : Program} {l : Launch} {e : Env} {s : State} {m : MethodId} {below : List Frame} {meth : Method} {c : Code} {b : Nat} (hx : p.tables.exec = Jvm.exec) (hb : c.code = code) (hr : meth.sig.returnType = ret) (hlocks : meth.locks = false) {pc : Nat} {H : Heap} {ls : Array Slot} (hdg : decode code pc = .ok (.ireturn, 1)) : W p l e room_1 s m #[Value.ref b] below meth c H [] 600096 7301386 (lw_Z below #[Value.ref b] s) (F0 m pc ls [.int 1]) := by
  intro T hT X
  obtain ⟨fs, hret, hrun, hended, hW, hframe⟩ := X.leave (v := some (.int 1)) (hlocks := hlocks) (fun h => by rw [hr] at h; cases h)
  have hmeth' : T.vm.method? m = some meth := X.method'
  refine ⟨T.setFrames fs, ?_, .returned (some (.int 1)), hrun, hended, rfl, ⟨_, rfl⟩, hW, hframe⟩
  jvm_step X.here [X.here.top, hx, hb, hdg, hmeth', hr, ret, narrow_b1]
  (try refine ⟨rfl, ?_⟩); (try refine ⟨rfl, ?_⟩)
  first | (intro acts; rw [hret _ acts rfl rfl rfl]) | rw [hret _ _ rfl rfl rfl]
  exact Steps.refl _
/-- what holds at the law's entry: the machine, the code, the tables' words (any of lw_tbl by 'hts w (by decide +kernel)'), the script of L ints xs at the cell b, what the Statement gives of the start (any of its parts by flat_of_before) -/
def lw_At (p : Program) (s : State) (m : MethodId) (meth : Method) (c : Code) (b L : Nat) (xs : Nat → Int32) : Prop :=
  p.tables.exec = Jvm.exec ∧ c.code = code ∧ meth.sig.returnType = ret ∧ c.maxLocals = 4 ∧ s.vm.findClass R_law = some m.cls ∧ (∀ w ∈ lw_tbl, w.before #[Value.ref b] s = true) ∧ va_X b L xs s s.heap ∧ b < s.heap.size ∧ meth.locks = false ∧ (Jvm.Cond.and given_1 narrow_1).before #[Value.ref b] s = true
end
section
/-! THE LAW -/
section LW
variable {p : Program} {l : Launch} {e : Env} {R : Room} {s : State} {m : MethodId} {args : Array Value} {below : List Frame} {meth : Method} {c : Code} {Q : State → Prop} {pc : Nat} {rest : List Value}
/-- a loop whose cells grow -/
theorem im_loopC (cf sf : Nat → Nat) (I : Nat → Heap → List Loc → Array Slot → Prop)
    (h0 : ∀ (H : Heap) (locs : List Loc) (ls : Array Slot), I 0 H locs ls → W p l e R s m args below meth c H locs (cf 0) (sf 0) Q (F0 m pc ls rest))
    (hs : ∀ (n : Nat), (∀ (H : Heap) (locs : List Loc) (ls : Array Slot), I n H locs ls → W p l e R s m args below meth c H locs (cf n) (sf n) Q (F0 m pc ls rest)) → ∀ (H : Heap) (locs : List Loc) (ls : Array Slot), I (n + 1) H locs ls → W p l e R s m args below meth c H locs (cf (n + 1)) (sf (n + 1)) Q (F0 m pc ls rest))
    (n : Nat) : ∀ (H : Heap) (locs : List Loc) (ls : Array Slot), I n H locs ls → W p l e R s m args below meth c H locs (cf n) (sf n) Q (F0 m pc ls rest) := by
  induction n with
  | zero => exact h0
  | succ n ih => exact hs n ih
end LW
theorem im_gt {t L : Nat} (ht : t < 100) (hL : L ≤ 288) : (nI L - nI 6 < nI (6 * t)) ↔ L < 6 * t + 6 := by
  rw [Int32.lt_iff_toInt_lt, pk_sub_toInt (by omega) (by omega), nI_toInt (by omega)]
  omega
set_option maxHeartbeats 16000000 in
set_option maxRecDepth 100000 in
/-- THE LAW, from its entry, for every script -/
theorem whole_start {p : Program} {e : Env} {s : State} {m : MethodId} {below : List Frame} {meth : Method} {c : Code} (l : Launch) (hflags : l.flags = flags0) {b L : Nat} {xs : Nat → Int32} (hL : L ≤ 288) (C0 : lw_At p s m meth c b L xs) : W p l e room_1 s m #[Value.ref b] below meth c s.heap [] 0 0 (lw_Z below #[Value.ref b] s) (entryFrame m ([Value.ref b] : List Value).toArray 4) := by
  obtain ⟨hx, hb, hr, hml, hown, hts0, hX, hbl, hlocks, hgv⟩ := C0
  have hts : ∀ w ∈ lw_all, w.before #[Value.ref b] s = true := fun w h => hts0 w (lw_all_tbl h)
  have hA : ∀ q : Nat, s.heap.size ≤ q → (fun q : Nat => s.heap.size ≤ q) q := fun _ h => h
  have hbA : ¬ (fun q : Nat => s.heap.size ≤ q) b := Nat.not_le.mpr hbl
  obtain ⟨cX0, iX0, hKnX0⟩ := u_known (C := RX0) (T := TX0) (N := 3) (n := 3) hts0 (fun w h => lw_all_tbl (in_X0 w h)) (hts0 _ (lw_all_tbl q27))
  obtain ⟨cX1, iX1, hKnX1⟩ := u_known (C := RX1) (T := TX1) (N := 3) (n := 3) hts0 (fun w h => lw_all_tbl (in_X1 w h)) (hts0 _ (lw_all_tbl q298))
  obtain ⟨cX2, iX2, hKnX2⟩ := u_known (C := RX2) (T := TX2) (N := 2) (n := 2) hts0 (fun w h => lw_all_tbl (in_X2 w h)) (hts0 _ (lw_all_tbl q68))
  obtain ⟨cX3, iX3, hKnX3⟩ := u_known (C := RX3) (T := TX3) (N := 1) (n := 1) hts0 (fun w h => lw_all_tbl (in_X3 w h)) (hts0 _ (lw_all_tbl q81))
  obtain ⟨dC, dI, hKc⟩ : ∃ (dC : Nat → ClassId) (dI : Nat → Nat → Nat), ∀ (k : Nat) (q : vw_C), vwCl[k]? = some q → u_Kn s q.1 q.2.1 q.2.2 (dC k) (dI k) := by
    refine ⟨fun k => if k = 0 then cX0 else if k = 1 then cX1 else if k = 2 then cX2 else cX3, fun k => if k = 0 then iX0 else if k = 1 then iX1 else if k = 2 then iX2 else iX3, ?_⟩
    intro k q hq
    match k, hq with
    | 0, hq => cases hq; exact hKnX0
    | 1, hq => cases hq; exact hKnX1
    | 2, hq => cases hq; exact hKnX2
    | 3, hq => cases hq; exact hKnX3
    | k + 4, hq => simp [vwCl] at hq
  obtain ⟨D, hDD⟩ : ∃ D : va_G, D = (dC, dI) := ⟨_, rfl⟩
  have hF : im_Ff s := ⟨va_Fw.of (hts0 _ q102) (hts0 _ q101) (hts0 _ q107) (hts0 _ q105) (hts0 _ q103), va_Fw.of (hts0 _ q214) (hts0 _ q213) (hts0 _ q218) (hts0 _ q216) (hts0 _ q103)⟩
  have hS : va_S (fun q : Nat => s.heap.size ≤ q) s.heap s.heap [] := va_S.rf
  have hK : va_K D vwCl [] s := by
    rw [hDD]
    exact ⟨hKc, fun k q h => by simp at h⟩
  have hP : va_P D vwCl [] s.heap := fun k q h => by simp at h
  have hD : va_D (fun q : Nat => s.heap.size ≤ q) [] := ⟨fun i j p q h => by simp at h, fun k q h => by simp at h⟩
  have hl := lv_entry ([.ref b]) (n := 4) (Nat.le_of_ble_eq_true rfl)
  rw [lg_entry_eq]
  generalize (lg_sl ([.ref b]) ++ List.replicate (4 - (lg_sl ([.ref b])).length) Slot.unset).toArray = ls at hl ⊢
  have hl : lv_has ls 4 [(0, .ref b)] := hl
  refine va_new (ci := 0) (fs := [.null, .null, .null]) (C := RX0) (T := TX0) (N := 3) hx hb hts in_X0 tyX0 tyX0_ok hown (hts _ q26) (hts _ q27) (hts _ q13) hK hP hD hS hA rfl (fun j hj => by rcases (show j = 0 ∨ j = 1 ∨ j = 2 by omega) with rfl | rfl | rfl <;> rfl) (Nat.le_of_ble_eq_true rfl) (Nat.le_of_ble_eq_true rfl) dL_law_0 (fun ox H hP hD hS => ?_)
  have hP : va_P D vwCl [(ox, .inr (0, [.null, .null, .null]))] H := hP
  have hD : va_D (fun q : Nat => s.heap.size ≤ q) [(ox, .inr (0, [.null, .null, .null]))] := hD
  refine lv_dup hx hb dL_law_3 rfl ?_
  have hPc := hP.sub (ws' := [(ox, .inr (0, [.null, .null, .null]))]) [0] rfl
  have hKc := hK.sub (tys' := []) [] rfl
  have hDc := hD.sub (ws' := [(ox, .inr (0, [.null, .null, .null]))]) [0] (by decide) rfl
  have hFc := va_free (wc := [(ox, .inr (0, [.null, .null, .null]))]) hD hS hA [0] rfl
  refine va_callv (va_runI (As := []) (rest := [.ref ox]) ⟨hx, hb, hml, hown, hts⟩ (met_new_d l D H.size ox) (cwI 0 hts (lw_meth q30) rfl rfl rfl (hts _ q13) (hts _ q28) (hts _ q29) rfl (by decide +kernel) ⟨Nat.le_of_ble_eq_true rfl, Nat.le_of_ble_eq_true rfl⟩) ⟨im_Pw.blind, im_Pw.of hPc hKc hDc⟩ rfl rfl hl.1 rfl (lv_room (Nat.le_of_ble_eq_true rfl)) dL_law_4 ⟨Nat.le_of_ble_eq_true rfl, Nat.le_of_ble_eq_true rfl⟩) hS (fun q _ h => hFc q h) hFc (fun u t H1 locs ht hvm eu hB hz1 hk1 hS => ?_)
  obtain ⟨oxk, oxb, oxo, doxk, doxb, doxo, hP1, hK1, hD1⟩ := hB
  rw [ht] at hP1
  obtain ⟨hP, hD⟩ := va_join (wr := []) (w1 := [(ox, .inr (0, [.ref oxk, .ref oxb, .ref oxo])), (oxk, .inl (doxk, 32, .inl (fun _ => 0))), (oxb, .inl (doxb, 8, .inl (fun _ => 0))), (oxo, .inl (doxo, 8, .inl (fun _ => 0)))]) hP hD [0] [] rfl rfl (by decide) (by decide) hk1 hFc hP1 hD1
  have hK1 := va_K.moved hvm.symm hK1
  have hK : va_K D vwCl [(doxk, .byte), (doxb, .byte), (doxo, .byte)] s := hK.app hK1
  generalize H1 = H at hP hS ⊢
  have hP : va_P D vwCl [(ox, .inr (0, [.ref oxk, .ref oxb, .ref oxo])), (oxk, .inl (doxk, 32, .inl (fun _ => 0))), (oxb, .inl (doxb, 8, .inl (fun _ => 0))), (oxo, .inl (doxo, 8, .inl (fun _ => 0)))] H := hP
  have hD : va_D (fun q : Nat => s.heap.size ≤ q) [(ox, .inr (0, [.ref oxk, .ref oxb, .ref oxo])), (oxk, .inl (doxk, 32, .inl (fun _ => 0))), (oxb, .inl (doxb, 8, .inl (fun _ => 0))), (oxo, .inl (doxo, 8, .inl (fun _ => 0)))] := hD
  refine lv_astore_n (lv' := [(1, .ref ox), (0, .ref b)]) hx hb dL_law_7 rfl hl (by decide) rfl (fun ls hl => ?_)
  refine va_new (ci := 1) (fs := [.null, .null, .null]) (C := RX1) (T := TX1) (N := 3) hx hb hts in_X1 tyX1 tyX1_ok hown (hts _ q297) (hts _ q298) (hts _ q14) hK hP hD hS hA rfl (fun j hj => by rcases (show j = 0 ∨ j = 1 ∨ j = 2 by omega) with rfl | rfl | rfl <;> rfl) (Nat.le_of_ble_eq_true rfl) (Nat.le_of_ble_eq_true rfl) dL_law_8 (fun oy H hP hD hS => ?_)
  have hP : va_P D vwCl [(ox, .inr (0, [.ref oxk, .ref oxb, .ref oxo])), (oxk, .inl (doxk, 32, .inl (fun _ => 0))), (oxb, .inl (doxb, 8, .inl (fun _ => 0))), (oxo, .inl (doxo, 8, .inl (fun _ => 0))), (oy, .inr (1, [.null, .null, .null]))] H := hP
  have hD : va_D (fun q : Nat => s.heap.size ≤ q) [(ox, .inr (0, [.ref oxk, .ref oxb, .ref oxo])), (oxk, .inl (doxk, 32, .inl (fun _ => 0))), (oxb, .inl (doxb, 8, .inl (fun _ => 0))), (oxo, .inl (doxo, 8, .inl (fun _ => 0))), (oy, .inr (1, [.null, .null, .null]))] := hD
  refine lv_dup hx hb dL_law_11 rfl ?_
  have hPc := hP.sub (ws' := [(oy, .inr (1, [.null, .null, .null]))]) [4] rfl
  have hKc := hK.sub (tys' := []) [] rfl
  have hDc := hD.sub (ws' := [(oy, .inr (1, [.null, .null, .null]))]) [4] (by decide) rfl
  have hFc := va_free (wc := [(oy, .inr (1, [.null, .null, .null]))]) hD hS hA [4] rfl
  refine va_callv (va_runI (As := []) (rest := [.ref oy]) ⟨hx, hb, hml, hown, hts⟩ (met_new_m l D H.size oy) (cwI 0 hts (lw_meth q301) rfl rfl rfl (hts _ q14) (hts _ q299) (hts _ q300) rfl (by decide +kernel) ⟨Nat.le_of_ble_eq_true rfl, Nat.le_of_ble_eq_true rfl⟩) ⟨im_Pw.blind, im_Pw.of hPc hKc hDc⟩ rfl rfl hl.1 rfl (lv_room (Nat.le_of_ble_eq_true rfl)) dL_law_12 ⟨Nat.le_of_ble_eq_true rfl, Nat.le_of_ble_eq_true rfl⟩) hS (fun q _ h => hFc q h) hFc (fun u t H1 locs ht hvm eu hB hz1 hk1 hS => ?_)
  obtain ⟨oyk, oyb, oyo, doyk, doyb, doyo, hP1, hK1, hD1⟩ := hB
  rw [ht] at hP1
  obtain ⟨hP, hD⟩ := va_join (wr := [(ox, .inr (0, [.ref oxk, .ref oxb, .ref oxo])), (oxk, .inl (doxk, 32, .inl (fun _ => 0))), (oxb, .inl (doxb, 8, .inl (fun _ => 0))), (oxo, .inl (doxo, 8, .inl (fun _ => 0)))]) (w1 := [(oy, .inr (1, [.ref oyk, .ref oyb, .ref oyo])), (oyk, .inl (doyk, 32, .inl (fun _ => 0))), (oyb, .inl (doyb, 8, .inl (fun _ => 0))), (oyo, .inl (doyo, 8, .inl (fun _ => 0)))]) hP hD [4] [0, 1, 2, 3] rfl rfl (by decide) (by decide) hk1 hFc hP1 hD1
  have hK1 := va_K.moved hvm.symm hK1
  have hK : va_K D vwCl [(doxk, .byte), (doxb, .byte), (doxo, .byte), (doyk, .byte), (doyb, .byte), (doyo, .byte)] s := hK.app hK1
  generalize H1 = H at hP hS ⊢
  have hP : va_P D vwCl [(ox, .inr (0, [.ref oxk, .ref oxb, .ref oxo])), (oxk, .inl (doxk, 32, .inl (fun _ => 0))), (oxb, .inl (doxb, 8, .inl (fun _ => 0))), (oxo, .inl (doxo, 8, .inl (fun _ => 0))), (oy, .inr (1, [.ref oyk, .ref oyb, .ref oyo])), (oyk, .inl (doyk, 32, .inl (fun _ => 0))), (oyb, .inl (doyb, 8, .inl (fun _ => 0))), (oyo, .inl (doyo, 8, .inl (fun _ => 0)))] H := hP
  have hD : va_D (fun q : Nat => s.heap.size ≤ q) [(ox, .inr (0, [.ref oxk, .ref oxb, .ref oxo])), (oxk, .inl (doxk, 32, .inl (fun _ => 0))), (oxb, .inl (doxb, 8, .inl (fun _ => 0))), (oxo, .inl (doxo, 8, .inl (fun _ => 0))), (oy, .inr (1, [.ref oyk, .ref oyb, .ref oyo])), (oyk, .inl (doyk, 32, .inl (fun _ => 0))), (oyb, .inl (doyb, 8, .inl (fun _ => 0))), (oyo, .inl (doyo, 8, .inl (fun _ => 0)))] := hD
  refine lv_astore_n (lv' := [(2, .ref oy), (1, .ref ox), (0, .ref b)]) hx hb dL_law_15 rfl hl (by decide) rfl (fun ls hl => ?_)
  refine lv_iconst (v := nI 0) hx hb dL_law_16 (by decide) ?_
  refine lv_istore_n (lv' := [(3, .int (nI 0)), (2, .ref oy), (1, .ref ox), (0, .ref b)]) hx hb dL_law_17 rfl hl (by decide) rfl (fun ls hl => ?_)
  refine W.widen (k := 8 + 10 * (49 - 49)) (n := 102 + 375 * (49 - 49)) (Nat.le_of_ble_eq_true rfl) (Nat.le_of_ble_eq_true rfl) ?_
  refine im_loopC (fun n => 8 + 10 * (49 - n)) (fun n => 102 + 375 * (49 - n)) (fun n H locs ls => ∃ (tt : Nat) (f bf g : Nat → Int32), tt + n = 49 ∧ 6 * tt ≤ L ∧ va_P D vwCl [(ox, .inr (0, [.ref oxk, .ref oxb, .ref oxo])), (oxk, .inl (doxk, 32, .inl f)), (oxb, .inl (doxb, 8, .inl bf)), (oxo, .inl (doxo, 8, .inl g)), (oy, .inr (1, [.ref oyk, .ref oyb, .ref oyo])), (oyk, .inl (doyk, 32, .inl f)), (oyb, .inl (doyb, 8, .inl bf)), (oyo, .inl (doyo, 8, .inl g))] H ∧ va_D (fun q : Nat => s.heap.size ≤ q) [(ox, .inr (0, [.ref oxk, .ref oxb, .ref oxo])), (oxk, .inl (doxk, 32, .inl f)), (oxb, .inl (doxb, 8, .inl bf)), (oxo, .inl (doxo, 8, .inl g)), (oy, .inr (1, [.ref oyk, .ref oyb, .ref oyo])), (oyk, .inl (doyk, 32, .inl f)), (oyb, .inl (doyb, 8, .inl bf)), (oyo, .inl (doyo, 8, .inl g))] ∧ va_S (fun q : Nat => s.heap.size ≤ q) s.heap H locs ∧ lv_has ls 4 [(0, .ref b), (1, .ref ox), (2, .ref oy), (3, .int (nI (6 * tt)))]) ?_ ?_ 49 _ _ _ ⟨0, (fun _ => 0), (fun _ => 0), (fun _ => 0), rfl, Nat.zero_le L, hP.sub [0, 1, 2, 3, 4, 5, 6, 7] rfl, hD.sub [0, 1, 2, 3, 4, 5, 6, 7] (by decide) rfl, hS, lv_sub hl [3, 2, 1, 0] rfl⟩
  · intro H locs ls hI
    obtain ⟨tt, f, bf, g, htn, htL, hP, hD, hS, hl⟩ := hI
    exfalso
    omega
  · intro n ih H locs ls hI
    obtain ⟨tt, f, bf, g, htn, htL, hP, hD, hS, hl⟩ := hI
    show W p l e room_1 s m #[Value.ref b] below meth c H locs (8 + 10 * (49 - (n + 1))) (102 + 375 * (49 - (n + 1))) (lw_Z below #[Value.ref b] s) (F0 m 18 ls [])
    refine lv_iload_n hx hb dL_law_18 rfl (lv_at hl 3 rfl) ?_
    refine lv_aload_n hx hb dL_law_19 rfl (lv_at hl 0 rfl) ?_
    refine va_slen hx hb hX hbl hbA hS dL_law_20 ?_
    refine im_top (y := nI L) rfl ?_
    refine lv_bipush (v := nI 6) hx hb dL_law_21 (by decide) ?_
    refine lv_isub hx hb dL_law_23 ?_
    refine lv_icmp_gt (tgt := 246) hx hb dL_law_24 (by decide) (fun c_24 => ?_) (fun c_24 => ?_)
    · have c_24 := (im_gt (by omega) hL).mp c_24
      refine lv_iconst (v := 1) hx hb dL_law_246 (by decide) ?_
      refine va_forget (fun q hq => hS.2.2 q hq) ?_
      refine W.widen (k := 600096) (n := 7301386) (by omega) (by omega) ?_
      exact lw_ret hx hb hr hlocks dL_law_247
    · have c_24 : ¬ L < 6 * tt + 6 := fun z => c_24 ((im_gt (by omega) hL).mpr z)
      obtain ⟨v, hv⟩ : ∃ v : Nat, v = (xs (6 * tt)).toBitVec.toNat % 8 := ⟨_, rfl⟩
      have lv8 : v < 8 := by rw [hv]; exact Nat.mod_lt _ (by decide)
      refine lv_aload_n hx hb dL_law_27 rfl (lv_at hl 0 rfl) ?_
      refine lv_iload_n hx hb dL_law_28 rfl (lv_at hl 3 rfl) ?_
      refine va_sld hx hb hX hbl hbA hS (vp_in_nI (n := 6 * tt) (by omega) (by omega)) dL_law_29 ?_
      refine im_top (y := xs (6 * tt)) (by rw [nI_clamp (n := 6 * tt) (by omega)]) ?_
      refine lv_bipush (v := nI 7) hx hb dL_law_30 (by decide) ?_
      refine lv_iand hx hb dL_law_32 ?_
      refine im_top (y := nI v) (by rw [hv]; exact pk_and (xs (6 * tt)) (m := nI 7) 3 (by decide)) ?_
      rcases (show v = 0 ∨ v = 1 ∨ v = 2 ∨ v = 3 ∨ v = 4 ∨ v = 5 ∨ v = 6 ∨ v = 7 by omega) with e9 | e9 | e9 | e9 | e9 | e9 | e9 | e9
      · subst e9
        refine lv_tableIn (off := 39) (tgt := 72) hx hb dL_law_33 (by decide) (by decide) (by decide) (by decide) ?_
        refine lv_aload_n hx hb dL_law_72 rfl (lv_at hl 1 rfl) ?_
        refine lv_aload_n hx hb dL_law_73 rfl (lv_at hl 0 rfl) ?_
        refine lv_iload_n hx hb dL_law_74 rfl (lv_at hl 3 rfl) ?_
        refine lv_iconst (v := nI 1) hx hb dL_law_75 (by decide) ?_
        refine lv_iadd hx hb dL_law_76 ?_
        refine im_top (y := nI (6 * tt + 1)) (nI_add (6 * tt) 1) ?_
        refine va_sld hx hb hX hbl hbA hS (vp_in_nI (n := 6 * tt + 1) (by omega) (by omega)) dL_law_77 ?_
        refine im_top (y := xs (6 * tt + 1)) (by rw [nI_clamp (n := 6 * tt + 1) (by omega)]) ?_
        refine lv_aload_n hx hb dL_law_78 rfl (lv_at hl 0 rfl) ?_
        refine lv_iload_n hx hb dL_law_79 rfl (lv_at hl 3 rfl) ?_
        refine lv_iconst (v := nI 2) hx hb dL_law_80 (by decide) ?_
        refine lv_iadd hx hb dL_law_81 ?_
        refine im_top (y := nI (6 * tt + 2)) (nI_add (6 * tt) 2) ?_
        refine va_sld hx hb hX hbl hbA hS (vp_in_nI (n := 6 * tt + 2) (by omega) (by omega)) dL_law_82 ?_
        refine im_top (y := xs (6 * tt + 2)) (by rw [nI_clamp (n := 6 * tt + 2) (by omega)]) ?_
        refine lv_aload_n hx hb dL_law_83 rfl (lv_at hl 0 rfl) ?_
        refine lv_iload_n hx hb dL_law_84 rfl (lv_at hl 3 rfl) ?_
        refine lv_iconst (v := nI 3) hx hb dL_law_85 (by decide) ?_
        refine lv_iadd hx hb dL_law_86 ?_
        refine im_top (y := nI (6 * tt + 3)) (nI_add (6 * tt) 3) ?_
        refine va_sld hx hb hX hbl hbA hS (vp_in_nI (n := 6 * tt + 3) (by omega) (by omega)) dL_law_87 ?_
        refine im_top (y := xs (6 * tt + 3)) (by rw [nI_clamp (n := 6 * tt + 3) (by omega)]) ?_
        refine lv_aload_n hx hb dL_law_88 rfl (lv_at hl 0 rfl) ?_
        refine lv_iload_n hx hb dL_law_89 rfl (lv_at hl 3 rfl) ?_
        refine lv_iconst (v := nI 4) hx hb dL_law_90 (by decide) ?_
        refine lv_iadd hx hb dL_law_91 ?_
        refine im_top (y := nI (6 * tt + 4)) (nI_add (6 * tt) 4) ?_
        refine va_sld hx hb hX hbl hbA hS (vp_in_nI (n := 6 * tt + 4) (by omega) (by omega)) dL_law_92 ?_
        refine im_top (y := xs (6 * tt + 4)) (by rw [nI_clamp (n := 6 * tt + 4) (by omega)]) ?_
        refine lv_aload_n hx hb dL_law_93 rfl (lv_at hl 0 rfl) ?_
        refine lv_iload_n hx hb dL_law_94 rfl (lv_at hl 3 rfl) ?_
        refine lv_iconst (v := nI 5) hx hb dL_law_95 (by decide) ?_
        refine lv_iadd hx hb dL_law_96 ?_
        refine im_top (y := nI (6 * tt + 5)) (nI_add (6 * tt) 5) ?_
        refine va_sld hx hb hX hbl hbA hS (vp_in_nI (n := 6 * tt + 5) (by omega) (by omega)) dL_law_97 ?_
        refine im_top (y := xs (6 * tt + 5)) (by rw [nI_clamp (n := 6 * tt + 5) (by omega)]) ?_
        have hPc := hP.sub (ws' := [(ox, .inr (0, [.ref oxk, .ref oxb, .ref oxo])), (oxk, .inl (doxk, 32, .inl f))]) [0, 1] rfl
        have hKc := hK.sub (tys' := [(doxk, .byte)]) [0] rfl
        have hDc := hD.sub (ws' := [(ox, .inr (0, [.ref oxk, .ref oxb, .ref oxo])), (oxk, .inl (doxk, 32, .inl f))]) [0, 1] (by decide) rfl
        have hFc := va_free (wc := [(ox, .inr (0, [.ref oxk, .ref oxb, .ref oxo])), (oxk, .inl (doxk, 32, .inl f))]) hD hS hA [0, 1] rfl
        refine va_callv (va_runV (As := [.int (xs (6 * tt + 1)), .int (xs (6 * tt + 2)), .int (xs (6 * tt + 3)), .int (xs (6 * tt + 4)), .int (xs (6 * tt + 5))]) (rest := []) ⟨hx, hb, hml, hown, hts⟩ (met_key_d l D H.size ox oxk oxb oxo doxk f (xs (6 * tt + 1)) (xs (6 * tt + 2)) (xs (6 * tt + 3)) (xs (6 * tt + 4)) (xs (6 * tt + 5))) (cwV 5 hts (lw_V q45 q46 q47 q13 q48) rfl rfl rfl (by decide +kernel) ⟨Nat.le_of_ble_eq_true rfl, Nat.le_of_ble_eq_true rfl⟩) ⟨im_Pw.blind, va_recv hK hP (ci := 0) (q0 := 0) rfl rfl, im_Pw.of hPc hKc hDc⟩ rfl rfl hl.1 rfl (lv_room (Nat.le_of_ble_eq_true rfl)) dL_law_98 ⟨by show _ ≤ 600096; omega, by show _ ≤ 7301386; omega⟩) hS (fun q _ h => hFc q h) hFc (fun u1 t H1 locs ht hvm eu1 hB hz1 hk1 hS => ?_)
        have eu1 : u1 = keyW f (xs (6 * tt + 1)) (xs (6 * tt + 2)) (xs (6 * tt + 3)) (xs (6 * tt + 4)) (xs (6 * tt + 5)) := eu1
        obtain ⟨hP1, hD1⟩ := hB
        rw [ht] at hP1
        obtain ⟨hP, hD⟩ := va_join (wr := [(oxb, .inl (doxb, 8, .inl bf)), (oxo, .inl (doxo, 8, .inl g)), (oy, .inr (1, [.ref oyk, .ref oyb, .ref oyo])), (oyk, .inl (doyk, 32, .inl f)), (oyb, .inl (doyb, 8, .inl bf)), (oyo, .inl (doyo, 8, .inl g))]) (w1 := [(ox, .inr (0, [.ref oxk, .ref oxb, .ref oxo])), (oxk, .inl (doxk, 32, .inl u1))]) hP hD [0, 1] [2, 3, 4, 5, 6, 7] rfl rfl (by decide) (by decide) hk1 hFc hP1 hD1
        generalize H1 = H at hP hS ⊢
        have hP : va_P D vwCl [(oxb, .inl (doxb, 8, .inl bf)), (oxo, .inl (doxo, 8, .inl g)), (oy, .inr (1, [.ref oyk, .ref oyb, .ref oyo])), (oyk, .inl (doyk, 32, .inl f)), (oyb, .inl (doyb, 8, .inl bf)), (oyo, .inl (doyo, 8, .inl g)), (ox, .inr (0, [.ref oxk, .ref oxb, .ref oxo])), (oxk, .inl (doxk, 32, .inl u1))] H := hP
        have hD : va_D (fun q : Nat => s.heap.size ≤ q) [(oxb, .inl (doxb, 8, .inl bf)), (oxo, .inl (doxo, 8, .inl g)), (oy, .inr (1, [.ref oyk, .ref oyb, .ref oyo])), (oyk, .inl (doyk, 32, .inl f)), (oyb, .inl (doyb, 8, .inl bf)), (oyo, .inl (doyo, 8, .inl g)), (ox, .inr (0, [.ref oxk, .ref oxb, .ref oxo])), (oxk, .inl (doxk, 32, .inl u1))] := hD
        refine lv_aload_n hx hb dL_law_101 rfl (lv_at hl 2 rfl) ?_
        refine lv_aload_n hx hb dL_law_102 rfl (lv_at hl 0 rfl) ?_
        refine lv_iload_n hx hb dL_law_103 rfl (lv_at hl 3 rfl) ?_
        refine lv_iconst (v := nI 1) hx hb dL_law_104 (by decide) ?_
        refine lv_iadd hx hb dL_law_105 ?_
        refine im_top (y := nI (6 * tt + 1)) (nI_add (6 * tt) 1) ?_
        refine va_sld hx hb hX hbl hbA hS (vp_in_nI (n := 6 * tt + 1) (by omega) (by omega)) dL_law_106 ?_
        refine im_top (y := xs (6 * tt + 1)) (by rw [nI_clamp (n := 6 * tt + 1) (by omega)]) ?_
        refine lv_aload_n hx hb dL_law_107 rfl (lv_at hl 0 rfl) ?_
        refine lv_iload_n hx hb dL_law_108 rfl (lv_at hl 3 rfl) ?_
        refine lv_iconst (v := nI 2) hx hb dL_law_109 (by decide) ?_
        refine lv_iadd hx hb dL_law_110 ?_
        refine im_top (y := nI (6 * tt + 2)) (nI_add (6 * tt) 2) ?_
        refine va_sld hx hb hX hbl hbA hS (vp_in_nI (n := 6 * tt + 2) (by omega) (by omega)) dL_law_111 ?_
        refine im_top (y := xs (6 * tt + 2)) (by rw [nI_clamp (n := 6 * tt + 2) (by omega)]) ?_
        refine lv_aload_n hx hb dL_law_112 rfl (lv_at hl 0 rfl) ?_
        refine lv_iload_n hx hb dL_law_113 rfl (lv_at hl 3 rfl) ?_
        refine lv_iconst (v := nI 3) hx hb dL_law_114 (by decide) ?_
        refine lv_iadd hx hb dL_law_115 ?_
        refine im_top (y := nI (6 * tt + 3)) (nI_add (6 * tt) 3) ?_
        refine va_sld hx hb hX hbl hbA hS (vp_in_nI (n := 6 * tt + 3) (by omega) (by omega)) dL_law_116 ?_
        refine im_top (y := xs (6 * tt + 3)) (by rw [nI_clamp (n := 6 * tt + 3) (by omega)]) ?_
        refine lv_aload_n hx hb dL_law_117 rfl (lv_at hl 0 rfl) ?_
        refine lv_iload_n hx hb dL_law_118 rfl (lv_at hl 3 rfl) ?_
        refine lv_iconst (v := nI 4) hx hb dL_law_119 (by decide) ?_
        refine lv_iadd hx hb dL_law_120 ?_
        refine im_top (y := nI (6 * tt + 4)) (nI_add (6 * tt) 4) ?_
        refine va_sld hx hb hX hbl hbA hS (vp_in_nI (n := 6 * tt + 4) (by omega) (by omega)) dL_law_121 ?_
        refine im_top (y := xs (6 * tt + 4)) (by rw [nI_clamp (n := 6 * tt + 4) (by omega)]) ?_
        refine lv_aload_n hx hb dL_law_122 rfl (lv_at hl 0 rfl) ?_
        refine lv_iload_n hx hb dL_law_123 rfl (lv_at hl 3 rfl) ?_
        refine lv_iconst (v := nI 5) hx hb dL_law_124 (by decide) ?_
        refine lv_iadd hx hb dL_law_125 ?_
        refine im_top (y := nI (6 * tt + 5)) (nI_add (6 * tt) 5) ?_
        refine va_sld hx hb hX hbl hbA hS (vp_in_nI (n := 6 * tt + 5) (by omega) (by omega)) dL_law_126 ?_
        refine im_top (y := xs (6 * tt + 5)) (by rw [nI_clamp (n := 6 * tt + 5) (by omega)]) ?_
        have hPc := hP.sub (ws' := [(oy, .inr (1, [.ref oyk, .ref oyb, .ref oyo])), (oyk, .inl (doyk, 32, .inl f))]) [2, 3] rfl
        have hKc := hK.sub (tys' := [(doyk, .byte)]) [3] rfl
        have hDc := hD.sub (ws' := [(oy, .inr (1, [.ref oyk, .ref oyb, .ref oyo])), (oyk, .inl (doyk, 32, .inl f))]) [2, 3] (by decide) rfl
        have hFc := va_free (wc := [(oy, .inr (1, [.ref oyk, .ref oyb, .ref oyo])), (oyk, .inl (doyk, 32, .inl f))]) hD hS hA [2, 3] rfl
        refine va_callv (va_runV (As := [.int (xs (6 * tt + 1)), .int (xs (6 * tt + 2)), .int (xs (6 * tt + 3)), .int (xs (6 * tt + 4)), .int (xs (6 * tt + 5))]) (rest := []) ⟨hx, hb, hml, hown, hts⟩ (met_key_m l D H.size oy oyk oyb oyo doyk f (xs (6 * tt + 1)) (xs (6 * tt + 2)) (xs (6 * tt + 3)) (xs (6 * tt + 4)) (xs (6 * tt + 5))) (cwV 5 hts (lw_V q313 q314 q315 q14 q316) rfl rfl rfl (by decide +kernel) ⟨Nat.le_of_ble_eq_true rfl, Nat.le_of_ble_eq_true rfl⟩) ⟨im_Pw.blind, va_recv hK hP (ci := 1) (q0 := 2) rfl rfl, im_Pw.of hPc hKc hDc⟩ rfl rfl hl.1 rfl (lv_room (Nat.le_of_ble_eq_true rfl)) dL_law_127 ⟨by show _ ≤ 600096; omega, by show _ ≤ 7301386; omega⟩) hS (fun q _ h => hFc q h) hFc (fun u2 t H1 locs ht hvm eu2 hB hz1 hk1 hS => ?_)
        have eu2 : u2 = keyW f (xs (6 * tt + 1)) (xs (6 * tt + 2)) (xs (6 * tt + 3)) (xs (6 * tt + 4)) (xs (6 * tt + 5)) := eu2
        obtain ⟨hP1, hD1⟩ := hB
        rw [ht] at hP1
        obtain ⟨hP, hD⟩ := va_join (wr := [(oxb, .inl (doxb, 8, .inl bf)), (oxo, .inl (doxo, 8, .inl g)), (oyb, .inl (doyb, 8, .inl bf)), (oyo, .inl (doyo, 8, .inl g)), (ox, .inr (0, [.ref oxk, .ref oxb, .ref oxo])), (oxk, .inl (doxk, 32, .inl u1))]) (w1 := [(oy, .inr (1, [.ref oyk, .ref oyb, .ref oyo])), (oyk, .inl (doyk, 32, .inl u2))]) hP hD [2, 3] [0, 1, 4, 5, 6, 7] rfl rfl (by decide) (by decide) hk1 hFc hP1 hD1
        generalize H1 = H at hP hS ⊢
        have hP : va_P D vwCl [(oxb, .inl (doxb, 8, .inl bf)), (oxo, .inl (doxo, 8, .inl g)), (oyb, .inl (doyb, 8, .inl bf)), (oyo, .inl (doyo, 8, .inl g)), (ox, .inr (0, [.ref oxk, .ref oxb, .ref oxo])), (oxk, .inl (doxk, 32, .inl u1)), (oy, .inr (1, [.ref oyk, .ref oyb, .ref oyo])), (oyk, .inl (doyk, 32, .inl u2))] H := hP
        have hD : va_D (fun q : Nat => s.heap.size ≤ q) [(oxb, .inl (doxb, 8, .inl bf)), (oxo, .inl (doxo, 8, .inl g)), (oyb, .inl (doyb, 8, .inl bf)), (oyo, .inl (doyo, 8, .inl g)), (ox, .inr (0, [.ref oxk, .ref oxb, .ref oxo])), (oxk, .inl (doxk, 32, .inl u1)), (oy, .inr (1, [.ref oyk, .ref oyb, .ref oyo])), (oyk, .inl (doyk, 32, .inl u2))] := hD
        rw [show u2 = u1 by rw [eu2, eu1]] at hP hD
        refine lv_goto (tgt := 240) hx hb dL_law_130 (by decide) ?_
        refine lv_iinc (v := nI (6 * (tt + 1))) (lv' := [(3, .int (nI (6 * (tt + 1)))), (0, .ref b), (1, .ref ox), (2, .ref oy)]) hx hb dL_law_240 hl (k := 3) rfl (by rw [show 6 * (tt + 1) = 6 * tt + 6 by omega]; exact nI_add (6 * tt) 6) (by decide) rfl (fun ls hl => ?_)
        refine lv_goto (tgt := 18) hx hb dL_law_243 (by decide) ?_
        refine W.widen (k := 8 + 10 * (49 - n)) (n := 102 + 375 * (49 - n)) (by omega) (by omega) ?_
        exact ih _ _ _ ⟨tt + 1, u1, bf, g, by omega, by omega, hP.sub [4, 5, 0, 1, 6, 7, 2, 3] rfl, hD.sub [4, 5, 0, 1, 6, 7, 2, 3] (by decide) rfl, hS, lv_sub hl [1, 2, 3, 0] rfl⟩
      · subst e9
        refine lv_tableIn (off := 100) (tgt := 133) hx hb dL_law_33 (by decide) (by decide) (by decide) (by decide) ?_
        refine lv_aload_n hx hb dL_law_133 rfl (lv_at hl 1 rfl) ?_
        refine lv_aload_n hx hb dL_law_134 rfl (lv_at hl 0 rfl) ?_
        refine lv_iload_n hx hb dL_law_135 rfl (lv_at hl 3 rfl) ?_
        refine lv_iconst (v := nI 1) hx hb dL_law_136 (by decide) ?_
        refine lv_iadd hx hb dL_law_137 ?_
        refine im_top (y := nI (6 * tt + 1)) (nI_add (6 * tt) 1) ?_
        refine va_sld hx hb hX hbl hbA hS (vp_in_nI (n := 6 * tt + 1) (by omega) (by omega)) dL_law_138 ?_
        refine im_top (y := xs (6 * tt + 1)) (by rw [nI_clamp (n := 6 * tt + 1) (by omega)]) ?_
        refine lv_aload_n hx hb dL_law_139 rfl (lv_at hl 0 rfl) ?_
        refine lv_iload_n hx hb dL_law_140 rfl (lv_at hl 3 rfl) ?_
        refine lv_iconst (v := nI 2) hx hb dL_law_141 (by decide) ?_
        refine lv_iadd hx hb dL_law_142 ?_
        refine im_top (y := nI (6 * tt + 2)) (nI_add (6 * tt) 2) ?_
        refine va_sld hx hb hX hbl hbA hS (vp_in_nI (n := 6 * tt + 2) (by omega) (by omega)) dL_law_143 ?_
        refine im_top (y := xs (6 * tt + 2)) (by rw [nI_clamp (n := 6 * tt + 2) (by omega)]) ?_
        have hPc := hP.sub (ws' := [(ox, .inr (0, [.ref oxk, .ref oxb, .ref oxo])), (oxb, .inl (doxb, 8, .inl bf))]) [0, 2] rfl
        have hKc := hK.sub (tys' := [(doxb, .byte)]) [1] rfl
        have hDc := hD.sub (ws' := [(ox, .inr (0, [.ref oxk, .ref oxb, .ref oxo])), (oxb, .inl (doxb, 8, .inl bf))]) [0, 2] (by decide) rfl
        have hFc := va_free (wc := [(ox, .inr (0, [.ref oxk, .ref oxb, .ref oxo])), (oxb, .inl (doxb, 8, .inl bf))]) hD hS hA [0, 2] rfl
        refine va_callv (va_runV (As := [.int (xs (6 * tt + 1)), .int (xs (6 * tt + 2))]) (rest := []) ⟨hx, hb, hml, hown, hts⟩ (met_block_d l D H.size ox oxk oxb oxo doxb bf (xs (6 * tt + 1)) (xs (6 * tt + 2))) (cwV 2 hts (lw_V q52 q53 q54 q13 q55) rfl rfl rfl (by decide +kernel) ⟨Nat.le_of_ble_eq_true rfl, Nat.le_of_ble_eq_true rfl⟩) ⟨im_Pw.blind, va_recv hK hP (ci := 0) (q0 := 0) rfl rfl, im_Pw.of hPc hKc hDc⟩ rfl rfl hl.1 rfl (lv_room (Nat.le_of_ble_eq_true rfl)) dL_law_144 ⟨by show _ ≤ 600096; omega, by show _ ≤ 7301386; omega⟩) hS (fun q _ h => hFc q h) hFc (fun u1 t H1 locs ht hvm eu1 hB hz1 hk1 hS => ?_)
        have eu1 : u1 = blkW bf (xs (6 * tt + 1)) (xs (6 * tt + 2)) := eu1
        obtain ⟨hP1, hD1⟩ := hB
        rw [ht] at hP1
        obtain ⟨hP, hD⟩ := va_join (wr := [(oxk, .inl (doxk, 32, .inl f)), (oxo, .inl (doxo, 8, .inl g)), (oy, .inr (1, [.ref oyk, .ref oyb, .ref oyo])), (oyk, .inl (doyk, 32, .inl f)), (oyb, .inl (doyb, 8, .inl bf)), (oyo, .inl (doyo, 8, .inl g))]) (w1 := [(ox, .inr (0, [.ref oxk, .ref oxb, .ref oxo])), (oxb, .inl (doxb, 8, .inl u1))]) hP hD [0, 2] [1, 3, 4, 5, 6, 7] rfl rfl (by decide) (by decide) hk1 hFc hP1 hD1
        generalize H1 = H at hP hS ⊢
        have hP : va_P D vwCl [(oxk, .inl (doxk, 32, .inl f)), (oxo, .inl (doxo, 8, .inl g)), (oy, .inr (1, [.ref oyk, .ref oyb, .ref oyo])), (oyk, .inl (doyk, 32, .inl f)), (oyb, .inl (doyb, 8, .inl bf)), (oyo, .inl (doyo, 8, .inl g)), (ox, .inr (0, [.ref oxk, .ref oxb, .ref oxo])), (oxb, .inl (doxb, 8, .inl u1))] H := hP
        have hD : va_D (fun q : Nat => s.heap.size ≤ q) [(oxk, .inl (doxk, 32, .inl f)), (oxo, .inl (doxo, 8, .inl g)), (oy, .inr (1, [.ref oyk, .ref oyb, .ref oyo])), (oyk, .inl (doyk, 32, .inl f)), (oyb, .inl (doyb, 8, .inl bf)), (oyo, .inl (doyo, 8, .inl g)), (ox, .inr (0, [.ref oxk, .ref oxb, .ref oxo])), (oxb, .inl (doxb, 8, .inl u1))] := hD
        refine lv_aload_n hx hb dL_law_147 rfl (lv_at hl 2 rfl) ?_
        refine lv_aload_n hx hb dL_law_148 rfl (lv_at hl 0 rfl) ?_
        refine lv_iload_n hx hb dL_law_149 rfl (lv_at hl 3 rfl) ?_
        refine lv_iconst (v := nI 1) hx hb dL_law_150 (by decide) ?_
        refine lv_iadd hx hb dL_law_151 ?_
        refine im_top (y := nI (6 * tt + 1)) (nI_add (6 * tt) 1) ?_
        refine va_sld hx hb hX hbl hbA hS (vp_in_nI (n := 6 * tt + 1) (by omega) (by omega)) dL_law_152 ?_
        refine im_top (y := xs (6 * tt + 1)) (by rw [nI_clamp (n := 6 * tt + 1) (by omega)]) ?_
        refine lv_aload_n hx hb dL_law_153 rfl (lv_at hl 0 rfl) ?_
        refine lv_iload_n hx hb dL_law_154 rfl (lv_at hl 3 rfl) ?_
        refine lv_iconst (v := nI 2) hx hb dL_law_155 (by decide) ?_
        refine lv_iadd hx hb dL_law_156 ?_
        refine im_top (y := nI (6 * tt + 2)) (nI_add (6 * tt) 2) ?_
        refine va_sld hx hb hX hbl hbA hS (vp_in_nI (n := 6 * tt + 2) (by omega) (by omega)) dL_law_157 ?_
        refine im_top (y := xs (6 * tt + 2)) (by rw [nI_clamp (n := 6 * tt + 2) (by omega)]) ?_
        have hPc := hP.sub (ws' := [(oy, .inr (1, [.ref oyk, .ref oyb, .ref oyo])), (oyb, .inl (doyb, 8, .inl bf))]) [2, 4] rfl
        have hKc := hK.sub (tys' := [(doyb, .byte)]) [4] rfl
        have hDc := hD.sub (ws' := [(oy, .inr (1, [.ref oyk, .ref oyb, .ref oyo])), (oyb, .inl (doyb, 8, .inl bf))]) [2, 4] (by decide) rfl
        have hFc := va_free (wc := [(oy, .inr (1, [.ref oyk, .ref oyb, .ref oyo])), (oyb, .inl (doyb, 8, .inl bf))]) hD hS hA [2, 4] rfl
        refine va_callv (va_runV (As := [.int (xs (6 * tt + 1)), .int (xs (6 * tt + 2))]) (rest := []) ⟨hx, hb, hml, hown, hts⟩ (met_block_m l D H.size oy oyk oyb oyo doyb bf (xs (6 * tt + 1)) (xs (6 * tt + 2))) (cwV 2 hts (lw_V q320 q321 q322 q14 q323) rfl rfl rfl (by decide +kernel) ⟨Nat.le_of_ble_eq_true rfl, Nat.le_of_ble_eq_true rfl⟩) ⟨im_Pw.blind, va_recv hK hP (ci := 1) (q0 := 2) rfl rfl, im_Pw.of hPc hKc hDc⟩ rfl rfl hl.1 rfl (lv_room (Nat.le_of_ble_eq_true rfl)) dL_law_158 ⟨by show _ ≤ 600096; omega, by show _ ≤ 7301386; omega⟩) hS (fun q _ h => hFc q h) hFc (fun u2 t H1 locs ht hvm eu2 hB hz1 hk1 hS => ?_)
        have eu2 : u2 = blkW bf (xs (6 * tt + 1)) (xs (6 * tt + 2)) := eu2
        obtain ⟨hP1, hD1⟩ := hB
        rw [ht] at hP1
        obtain ⟨hP, hD⟩ := va_join (wr := [(oxk, .inl (doxk, 32, .inl f)), (oxo, .inl (doxo, 8, .inl g)), (oyk, .inl (doyk, 32, .inl f)), (oyo, .inl (doyo, 8, .inl g)), (ox, .inr (0, [.ref oxk, .ref oxb, .ref oxo])), (oxb, .inl (doxb, 8, .inl u1))]) (w1 := [(oy, .inr (1, [.ref oyk, .ref oyb, .ref oyo])), (oyb, .inl (doyb, 8, .inl u2))]) hP hD [2, 4] [0, 1, 3, 5, 6, 7] rfl rfl (by decide) (by decide) hk1 hFc hP1 hD1
        generalize H1 = H at hP hS ⊢
        have hP : va_P D vwCl [(oxk, .inl (doxk, 32, .inl f)), (oxo, .inl (doxo, 8, .inl g)), (oyk, .inl (doyk, 32, .inl f)), (oyo, .inl (doyo, 8, .inl g)), (ox, .inr (0, [.ref oxk, .ref oxb, .ref oxo])), (oxb, .inl (doxb, 8, .inl u1)), (oy, .inr (1, [.ref oyk, .ref oyb, .ref oyo])), (oyb, .inl (doyb, 8, .inl u2))] H := hP
        have hD : va_D (fun q : Nat => s.heap.size ≤ q) [(oxk, .inl (doxk, 32, .inl f)), (oxo, .inl (doxo, 8, .inl g)), (oyk, .inl (doyk, 32, .inl f)), (oyo, .inl (doyo, 8, .inl g)), (ox, .inr (0, [.ref oxk, .ref oxb, .ref oxo])), (oxb, .inl (doxb, 8, .inl u1)), (oy, .inr (1, [.ref oyk, .ref oyb, .ref oyo])), (oyb, .inl (doyb, 8, .inl u2))] := hD
        rw [show u2 = u1 by rw [eu2, eu1]] at hP hD
        refine lv_goto (tgt := 240) hx hb dL_law_161 (by decide) ?_
        refine lv_iinc (v := nI (6 * (tt + 1))) (lv' := [(3, .int (nI (6 * (tt + 1)))), (0, .ref b), (1, .ref ox), (2, .ref oy)]) hx hb dL_law_240 hl (k := 3) rfl (by rw [show 6 * (tt + 1) = 6 * tt + 6 by omega]; exact nI_add (6 * tt) 6) (by decide) rfl (fun ls hl => ?_)
        refine lv_goto (tgt := 18) hx hb dL_law_243 (by decide) ?_
        refine W.widen (k := 8 + 10 * (49 - n)) (n := 102 + 375 * (49 - n)) (by omega) (by omega) ?_
        exact ih _ _ _ ⟨tt + 1, f, u1, g, by omega, by omega, hP.sub [4, 0, 5, 1, 6, 2, 7, 3] rfl, hD.sub [4, 0, 5, 1, 6, 2, 7, 3] (by decide) rfl, hS, lv_sub hl [1, 2, 3, 0] rfl⟩
      · subst e9
        refine lv_tableIn (off := 131) (tgt := 164) hx hb dL_law_33 (by decide) (by decide) (by decide) (by decide) ?_
        refine lv_aload_n hx hb dL_law_164 rfl (lv_at hl 1 rfl) ?_
        refine lv_aload_n hx hb dL_law_165 rfl (lv_at hl 0 rfl) ?_
        refine lv_iload_n hx hb dL_law_166 rfl (lv_at hl 3 rfl) ?_
        refine lv_iconst (v := nI 1) hx hb dL_law_167 (by decide) ?_
        refine lv_iadd hx hb dL_law_168 ?_
        refine im_top (y := nI (6 * tt + 1)) (nI_add (6 * tt) 1) ?_
        refine va_sld hx hb hX hbl hbA hS (vp_in_nI (n := 6 * tt + 1) (by omega) (by omega)) dL_law_169 ?_
        refine im_top (y := xs (6 * tt + 1)) (by rw [nI_clamp (n := 6 * tt + 1) (by omega)]) ?_
        have hPc := hP.sub (ws' := [(ox, .inr (0, [.ref oxk, .ref oxb, .ref oxo])), (oxk, .inl (doxk, 32, .inl f)), (oxb, .inl (doxb, 8, .inl bf)), (oxo, .inl (doxo, 8, .inl g))]) [0, 1, 2, 3] rfl
        have hKc := hK.sub (tys' := [(doxk, .byte), (doxb, .byte), (doxo, .byte)]) [0, 1, 2] rfl
        have hDc := hD.sub (ws' := [(ox, .inr (0, [.ref oxk, .ref oxb, .ref oxo])), (oxk, .inl (doxk, 32, .inl f)), (oxb, .inl (doxb, 8, .inl bf)), (oxo, .inl (doxo, 8, .inl g))]) [0, 1, 2, 3] (by decide) rfl
        have hFc := va_free (wc := [(ox, .inr (0, [.ref oxk, .ref oxb, .ref oxo])), (oxk, .inl (doxk, 32, .inl f)), (oxb, .inl (doxb, 8, .inl bf)), (oxo, .inl (doxo, 8, .inl g))]) hD hS hA [0, 1, 2, 3] rfl
        refine va_callv (va_runV (As := [.int (xs (6 * tt + 1))]) (rest := []) ⟨hx, hb, hml, hown, hts⟩ (met_lock_d l D H.size ox oxk oxb oxo doxk doxb doxo f bf g (xs (6 * tt + 1))) (cwV 1 hts (lw_V q56 q57 q58 q13 q59) rfl rfl rfl (by decide +kernel) ⟨Nat.le_of_ble_eq_true rfl, Nat.le_of_ble_eq_true rfl⟩) ⟨im_Pf.blind, va_recv hK hP (ci := 0) (q0 := 0) rfl rfl, im_Pf.of hPc hKc hDc hF⟩ rfl rfl hl.1 rfl (lv_room (Nat.le_of_ble_eq_true rfl)) dL_law_170 ⟨by show _ ≤ 600096; omega, by show _ ≤ 7301386; omega⟩) hS (fun q _ h => hFc q h) hFc (fun u1 t H1 locs ht hvm eu1 hB hz1 hk1 hS => ?_)
        have eu1 : u1 = outS (keyB 1 f) bf g := eu1
        obtain ⟨hP1, hD1⟩ := hB
        rw [ht] at hP1
        obtain ⟨hP, hD⟩ := va_join (wr := [(oy, .inr (1, [.ref oyk, .ref oyb, .ref oyo])), (oyk, .inl (doyk, 32, .inl f)), (oyb, .inl (doyb, 8, .inl bf)), (oyo, .inl (doyo, 8, .inl g))]) (w1 := [(ox, .inr (0, [.ref oxk, .ref oxb, .ref oxo])), (oxk, .inl (doxk, 32, .inl f)), (oxb, .inl (doxb, 8, .inl bf)), (oxo, .inl (doxo, 8, .inl u1))]) hP hD [0, 1, 2, 3] [4, 5, 6, 7] rfl rfl (by decide) (by decide) hk1 hFc hP1 hD1
        generalize H1 = H at hP hS ⊢
        have hP : va_P D vwCl [(oy, .inr (1, [.ref oyk, .ref oyb, .ref oyo])), (oyk, .inl (doyk, 32, .inl f)), (oyb, .inl (doyb, 8, .inl bf)), (oyo, .inl (doyo, 8, .inl g)), (ox, .inr (0, [.ref oxk, .ref oxb, .ref oxo])), (oxk, .inl (doxk, 32, .inl f)), (oxb, .inl (doxb, 8, .inl bf)), (oxo, .inl (doxo, 8, .inl u1))] H := hP
        have hD : va_D (fun q : Nat => s.heap.size ≤ q) [(oy, .inr (1, [.ref oyk, .ref oyb, .ref oyo])), (oyk, .inl (doyk, 32, .inl f)), (oyb, .inl (doyb, 8, .inl bf)), (oyo, .inl (doyo, 8, .inl g)), (ox, .inr (0, [.ref oxk, .ref oxb, .ref oxo])), (oxk, .inl (doxk, 32, .inl f)), (oxb, .inl (doxb, 8, .inl bf)), (oxo, .inl (doxo, 8, .inl u1))] := hD
        refine lv_aload_n hx hb dL_law_173 rfl (lv_at hl 2 rfl) ?_
        refine lv_aload_n hx hb dL_law_174 rfl (lv_at hl 0 rfl) ?_
        refine lv_iload_n hx hb dL_law_175 rfl (lv_at hl 3 rfl) ?_
        refine lv_iconst (v := nI 1) hx hb dL_law_176 (by decide) ?_
        refine lv_iadd hx hb dL_law_177 ?_
        refine im_top (y := nI (6 * tt + 1)) (nI_add (6 * tt) 1) ?_
        refine va_sld hx hb hX hbl hbA hS (vp_in_nI (n := 6 * tt + 1) (by omega) (by omega)) dL_law_178 ?_
        refine im_top (y := xs (6 * tt + 1)) (by rw [nI_clamp (n := 6 * tt + 1) (by omega)]) ?_
        have hPc := hP.sub (ws' := [(oy, .inr (1, [.ref oyk, .ref oyb, .ref oyo])), (oyk, .inl (doyk, 32, .inl f)), (oyb, .inl (doyb, 8, .inl bf)), (oyo, .inl (doyo, 8, .inl g))]) [0, 1, 2, 3] rfl
        have hKc := hK.sub (tys' := [(doyk, .byte), (doyb, .byte), (doyo, .byte)]) [3, 4, 5] rfl
        have hDc := hD.sub (ws' := [(oy, .inr (1, [.ref oyk, .ref oyb, .ref oyo])), (oyk, .inl (doyk, 32, .inl f)), (oyb, .inl (doyb, 8, .inl bf)), (oyo, .inl (doyo, 8, .inl g))]) [0, 1, 2, 3] (by decide) rfl
        have hFc := va_free (wc := [(oy, .inr (1, [.ref oyk, .ref oyb, .ref oyo])), (oyk, .inl (doyk, 32, .inl f)), (oyb, .inl (doyb, 8, .inl bf)), (oyo, .inl (doyo, 8, .inl g))]) hD hS hA [0, 1, 2, 3] rfl
        refine va_callv (va_runV (As := [.int (xs (6 * tt + 1))]) (rest := []) ⟨hx, hb, hml, hown, hts⟩ (met_lock_m l D H.size oy oyk oyb oyo doyk doyb doyo f bf g (xs (6 * tt + 1))) (cwV 1 hts (lw_V q324 q325 q326 q14 q327) rfl rfl rfl (by decide +kernel) ⟨Nat.le_of_ble_eq_true rfl, Nat.le_of_ble_eq_true rfl⟩) ⟨im_Pw.blind, va_recv hK hP (ci := 1) (q0 := 0) rfl rfl, im_Pw.of hPc hKc hDc⟩ rfl rfl hl.1 rfl (lv_room (Nat.le_of_ble_eq_true rfl)) dL_law_179 ⟨by show _ ≤ 600096; omega, by show _ ≤ 7301386; omega⟩) hS (fun q _ h => hFc q h) hFc (fun u2 t H1 locs ht hvm eu2 hB hz1 hk1 hS => ?_)
        have eu2 : u2 = outS (keyB 1 f) bf g := eu2
        obtain ⟨hP1, hD1⟩ := hB
        rw [ht] at hP1
        obtain ⟨hP, hD⟩ := va_join (wr := [(ox, .inr (0, [.ref oxk, .ref oxb, .ref oxo])), (oxk, .inl (doxk, 32, .inl f)), (oxb, .inl (doxb, 8, .inl bf)), (oxo, .inl (doxo, 8, .inl u1))]) (w1 := [(oy, .inr (1, [.ref oyk, .ref oyb, .ref oyo])), (oyk, .inl (doyk, 32, .inl f)), (oyb, .inl (doyb, 8, .inl bf)), (oyo, .inl (doyo, 8, .inl u2))]) hP hD [0, 1, 2, 3] [4, 5, 6, 7] rfl rfl (by decide) (by decide) hk1 hFc hP1 hD1
        generalize H1 = H at hP hS ⊢
        have hP : va_P D vwCl [(ox, .inr (0, [.ref oxk, .ref oxb, .ref oxo])), (oxk, .inl (doxk, 32, .inl f)), (oxb, .inl (doxb, 8, .inl bf)), (oxo, .inl (doxo, 8, .inl u1)), (oy, .inr (1, [.ref oyk, .ref oyb, .ref oyo])), (oyk, .inl (doyk, 32, .inl f)), (oyb, .inl (doyb, 8, .inl bf)), (oyo, .inl (doyo, 8, .inl u2))] H := hP
        have hD : va_D (fun q : Nat => s.heap.size ≤ q) [(ox, .inr (0, [.ref oxk, .ref oxb, .ref oxo])), (oxk, .inl (doxk, 32, .inl f)), (oxb, .inl (doxb, 8, .inl bf)), (oxo, .inl (doxo, 8, .inl u1)), (oy, .inr (1, [.ref oyk, .ref oyb, .ref oyo])), (oyk, .inl (doyk, 32, .inl f)), (oyb, .inl (doyb, 8, .inl bf)), (oyo, .inl (doyo, 8, .inl u2))] := hD
        rw [show u2 = u1 by rw [eu2, eu1]] at hP hD
        refine lv_goto (tgt := 240) hx hb dL_law_182 (by decide) ?_
        refine lv_iinc (v := nI (6 * (tt + 1))) (lv' := [(3, .int (nI (6 * (tt + 1)))), (0, .ref b), (1, .ref ox), (2, .ref oy)]) hx hb dL_law_240 hl (k := 3) rfl (by rw [show 6 * (tt + 1) = 6 * tt + 6 by omega]; exact nI_add (6 * tt) 6) (by decide) rfl (fun ls hl => ?_)
        refine lv_goto (tgt := 18) hx hb dL_law_243 (by decide) ?_
        refine W.widen (k := 8 + 10 * (49 - n)) (n := 102 + 375 * (49 - n)) (by omega) (by omega) ?_
        exact ih _ _ _ ⟨tt + 1, f, bf, u1, by omega, by omega, hP.sub [0, 1, 2, 3, 4, 5, 6, 7] rfl, hD.sub [0, 1, 2, 3, 4, 5, 6, 7] (by decide) rfl, hS, lv_sub hl [1, 2, 3, 0] rfl⟩
      · subst e9
        refine lv_tableIn (off := 152) (tgt := 185) hx hb dL_law_33 (by decide) (by decide) (by decide) (by decide) ?_
        refine lv_aload_n hx hb dL_law_185 rfl (lv_at hl 1 rfl) ?_
        refine lv_aload_n hx hb dL_law_186 rfl (lv_at hl 0 rfl) ?_
        refine lv_iload_n hx hb dL_law_187 rfl (lv_at hl 3 rfl) ?_
        refine lv_iconst (v := nI 1) hx hb dL_law_188 (by decide) ?_
        refine lv_iadd hx hb dL_law_189 ?_
        refine im_top (y := nI (6 * tt + 1)) (nI_add (6 * tt) 1) ?_
        refine va_sld hx hb hX hbl hbA hS (vp_in_nI (n := 6 * tt + 1) (by omega) (by omega)) dL_law_190 ?_
        refine im_top (y := xs (6 * tt + 1)) (by rw [nI_clamp (n := 6 * tt + 1) (by omega)]) ?_
        have hPc := hP.sub (ws' := [(ox, .inr (0, [.ref oxk, .ref oxb, .ref oxo])), (oxk, .inl (doxk, 32, .inl f)), (oxb, .inl (doxb, 8, .inl bf)), (oxo, .inl (doxo, 8, .inl g))]) [0, 1, 2, 3] rfl
        have hKc := hK.sub (tys' := [(doxk, .byte), (doxb, .byte), (doxo, .byte)]) [0, 1, 2] rfl
        have hDc := hD.sub (ws' := [(ox, .inr (0, [.ref oxk, .ref oxb, .ref oxo])), (oxk, .inl (doxk, 32, .inl f)), (oxb, .inl (doxb, 8, .inl bf)), (oxo, .inl (doxo, 8, .inl g))]) [0, 1, 2, 3] (by decide) rfl
        have hFc := va_free (wc := [(ox, .inr (0, [.ref oxk, .ref oxb, .ref oxo])), (oxk, .inl (doxk, 32, .inl f)), (oxb, .inl (doxb, 8, .inl bf)), (oxo, .inl (doxo, 8, .inl g))]) hD hS hA [0, 1, 2, 3] rfl
        refine va_callv (va_runV (As := [.int (xs (6 * tt + 1))]) (rest := []) ⟨hx, hb, hml, hown, hts⟩ (met_open_d l D H.size ox oxk oxb oxo doxk doxb doxo f bf g (xs (6 * tt + 1))) (cwV 1 hts (lw_V q285 q286 q287 q13 q288) rfl rfl rfl (by decide +kernel) ⟨Nat.le_of_ble_eq_true rfl, Nat.le_of_ble_eq_true rfl⟩) ⟨im_Pf.blind, va_recv hK hP (ci := 0) (q0 := 0) rfl rfl, im_Pf.of hPc hKc hDc hF⟩ rfl rfl hl.1 rfl (lv_room (Nat.le_of_ble_eq_true rfl)) dL_law_191 ⟨by show _ ≤ 600096; omega, by show _ ≤ 7301386; omega⟩) hS (fun q _ h => hFc q h) hFc (fun u1 t H1 locs ht hvm eu1 hB hz1 hk1 hS => ?_)
        have eu1 : u1 = outS (keyB 0 f) bf g := eu1
        obtain ⟨hP1, hD1⟩ := hB
        rw [ht] at hP1
        obtain ⟨hP, hD⟩ := va_join (wr := [(oy, .inr (1, [.ref oyk, .ref oyb, .ref oyo])), (oyk, .inl (doyk, 32, .inl f)), (oyb, .inl (doyb, 8, .inl bf)), (oyo, .inl (doyo, 8, .inl g))]) (w1 := [(ox, .inr (0, [.ref oxk, .ref oxb, .ref oxo])), (oxk, .inl (doxk, 32, .inl f)), (oxb, .inl (doxb, 8, .inl bf)), (oxo, .inl (doxo, 8, .inl u1))]) hP hD [0, 1, 2, 3] [4, 5, 6, 7] rfl rfl (by decide) (by decide) hk1 hFc hP1 hD1
        generalize H1 = H at hP hS ⊢
        have hP : va_P D vwCl [(oy, .inr (1, [.ref oyk, .ref oyb, .ref oyo])), (oyk, .inl (doyk, 32, .inl f)), (oyb, .inl (doyb, 8, .inl bf)), (oyo, .inl (doyo, 8, .inl g)), (ox, .inr (0, [.ref oxk, .ref oxb, .ref oxo])), (oxk, .inl (doxk, 32, .inl f)), (oxb, .inl (doxb, 8, .inl bf)), (oxo, .inl (doxo, 8, .inl u1))] H := hP
        have hD : va_D (fun q : Nat => s.heap.size ≤ q) [(oy, .inr (1, [.ref oyk, .ref oyb, .ref oyo])), (oyk, .inl (doyk, 32, .inl f)), (oyb, .inl (doyb, 8, .inl bf)), (oyo, .inl (doyo, 8, .inl g)), (ox, .inr (0, [.ref oxk, .ref oxb, .ref oxo])), (oxk, .inl (doxk, 32, .inl f)), (oxb, .inl (doxb, 8, .inl bf)), (oxo, .inl (doxo, 8, .inl u1))] := hD
        refine lv_aload_n hx hb dL_law_194 rfl (lv_at hl 2 rfl) ?_
        refine lv_aload_n hx hb dL_law_195 rfl (lv_at hl 0 rfl) ?_
        refine lv_iload_n hx hb dL_law_196 rfl (lv_at hl 3 rfl) ?_
        refine lv_iconst (v := nI 1) hx hb dL_law_197 (by decide) ?_
        refine lv_iadd hx hb dL_law_198 ?_
        refine im_top (y := nI (6 * tt + 1)) (nI_add (6 * tt) 1) ?_
        refine va_sld hx hb hX hbl hbA hS (vp_in_nI (n := 6 * tt + 1) (by omega) (by omega)) dL_law_199 ?_
        refine im_top (y := xs (6 * tt + 1)) (by rw [nI_clamp (n := 6 * tt + 1) (by omega)]) ?_
        have hPc := hP.sub (ws' := [(oy, .inr (1, [.ref oyk, .ref oyb, .ref oyo])), (oyk, .inl (doyk, 32, .inl f)), (oyb, .inl (doyb, 8, .inl bf)), (oyo, .inl (doyo, 8, .inl g))]) [0, 1, 2, 3] rfl
        have hKc := hK.sub (tys' := [(doyk, .byte), (doyb, .byte), (doyo, .byte)]) [3, 4, 5] rfl
        have hDc := hD.sub (ws' := [(oy, .inr (1, [.ref oyk, .ref oyb, .ref oyo])), (oyk, .inl (doyk, 32, .inl f)), (oyb, .inl (doyb, 8, .inl bf)), (oyo, .inl (doyo, 8, .inl g))]) [0, 1, 2, 3] (by decide) rfl
        have hFc := va_free (wc := [(oy, .inr (1, [.ref oyk, .ref oyb, .ref oyo])), (oyk, .inl (doyk, 32, .inl f)), (oyb, .inl (doyb, 8, .inl bf)), (oyo, .inl (doyo, 8, .inl g))]) hD hS hA [0, 1, 2, 3] rfl
        refine va_callv (va_runV (As := [.int (xs (6 * tt + 1))]) (rest := []) ⟨hx, hb, hml, hown, hts⟩ (met_open_m l D H.size oy oyk oyb oyo doyk doyb doyo f bf g (xs (6 * tt + 1))) (cwV 1 hts (lw_V q346 q347 q348 q14 q349) rfl rfl rfl (by decide +kernel) ⟨Nat.le_of_ble_eq_true rfl, Nat.le_of_ble_eq_true rfl⟩) ⟨im_Pw.blind, va_recv hK hP (ci := 1) (q0 := 0) rfl rfl, im_Pw.of hPc hKc hDc⟩ rfl rfl hl.1 rfl (lv_room (Nat.le_of_ble_eq_true rfl)) dL_law_200 ⟨by show _ ≤ 600096; omega, by show _ ≤ 7301386; omega⟩) hS (fun q _ h => hFc q h) hFc (fun u2 t H1 locs ht hvm eu2 hB hz1 hk1 hS => ?_)
        have eu2 : u2 = outS (keyB 0 f) bf g := eu2
        obtain ⟨hP1, hD1⟩ := hB
        rw [ht] at hP1
        obtain ⟨hP, hD⟩ := va_join (wr := [(ox, .inr (0, [.ref oxk, .ref oxb, .ref oxo])), (oxk, .inl (doxk, 32, .inl f)), (oxb, .inl (doxb, 8, .inl bf)), (oxo, .inl (doxo, 8, .inl u1))]) (w1 := [(oy, .inr (1, [.ref oyk, .ref oyb, .ref oyo])), (oyk, .inl (doyk, 32, .inl f)), (oyb, .inl (doyb, 8, .inl bf)), (oyo, .inl (doyo, 8, .inl u2))]) hP hD [0, 1, 2, 3] [4, 5, 6, 7] rfl rfl (by decide) (by decide) hk1 hFc hP1 hD1
        generalize H1 = H at hP hS ⊢
        have hP : va_P D vwCl [(ox, .inr (0, [.ref oxk, .ref oxb, .ref oxo])), (oxk, .inl (doxk, 32, .inl f)), (oxb, .inl (doxb, 8, .inl bf)), (oxo, .inl (doxo, 8, .inl u1)), (oy, .inr (1, [.ref oyk, .ref oyb, .ref oyo])), (oyk, .inl (doyk, 32, .inl f)), (oyb, .inl (doyb, 8, .inl bf)), (oyo, .inl (doyo, 8, .inl u2))] H := hP
        have hD : va_D (fun q : Nat => s.heap.size ≤ q) [(ox, .inr (0, [.ref oxk, .ref oxb, .ref oxo])), (oxk, .inl (doxk, 32, .inl f)), (oxb, .inl (doxb, 8, .inl bf)), (oxo, .inl (doxo, 8, .inl u1)), (oy, .inr (1, [.ref oyk, .ref oyb, .ref oyo])), (oyk, .inl (doyk, 32, .inl f)), (oyb, .inl (doyb, 8, .inl bf)), (oyo, .inl (doyo, 8, .inl u2))] := hD
        rw [show u2 = u1 by rw [eu2, eu1]] at hP hD
        refine lv_goto (tgt := 240) hx hb dL_law_203 (by decide) ?_
        refine lv_iinc (v := nI (6 * (tt + 1))) (lv' := [(3, .int (nI (6 * (tt + 1)))), (0, .ref b), (1, .ref ox), (2, .ref oy)]) hx hb dL_law_240 hl (k := 3) rfl (by rw [show 6 * (tt + 1) = 6 * tt + 6 by omega]; exact nI_add (6 * tt) 6) (by decide) rfl (fun ls hl => ?_)
        refine lv_goto (tgt := 18) hx hb dL_law_243 (by decide) ?_
        refine W.widen (k := 8 + 10 * (49 - n)) (n := 102 + 375 * (49 - n)) (by omega) (by omega) ?_
        exact ih _ _ _ ⟨tt + 1, f, bf, u1, by omega, by omega, hP.sub [0, 1, 2, 3, 4, 5, 6, 7] rfl, hD.sub [0, 1, 2, 3, 4, 5, 6, 7] (by decide) rfl, hS, lv_sub hl [1, 2, 3, 0] rfl⟩
      · subst e9
        refine lv_tableIn (off := 173) (tgt := 206) hx hb dL_law_33 (by decide) (by decide) (by decide) (by decide) ?_
        refine lv_aload_n hx hb dL_law_206 rfl (lv_at hl 1 rfl) ?_
        have hPc := hP.sub (ws' := [(ox, .inr (0, [.ref oxk, .ref oxb, .ref oxo])), (oxb, .inl (doxb, 8, .inl bf)), (oxo, .inl (doxo, 8, .inl g))]) [0, 2, 3] rfl
        have hKc := hK.sub (tys' := [(doxb, .byte), (doxo, .byte)]) [1, 2] rfl
        have hDc := hD.sub (ws' := [(ox, .inr (0, [.ref oxk, .ref oxb, .ref oxo])), (oxb, .inl (doxb, 8, .inl bf)), (oxo, .inl (doxo, 8, .inl g))]) [0, 2, 3] (by decide) rfl
        have hFc := va_free (wc := [(ox, .inr (0, [.ref oxk, .ref oxb, .ref oxo])), (oxb, .inl (doxb, 8, .inl bf)), (oxo, .inl (doxo, 8, .inl g))]) hD hS hA [0, 2, 3] rfl
        refine va_callv (va_runV (As := []) (rest := []) ⟨hx, hb, hml, hown, hts⟩ (met_again_d l D H.size ox oxk oxb oxo doxb doxo bf g) (cwV 0 hts (lw_V q289 q290 q291 q13 q292) rfl rfl rfl (by decide +kernel) ⟨Nat.le_of_ble_eq_true rfl, Nat.le_of_ble_eq_true rfl⟩) ⟨im_Pw.blind, va_recv hK hP (ci := 0) (q0 := 0) rfl rfl, im_Pw.of hPc hKc hDc⟩ rfl rfl hl.1 rfl (lv_room (Nat.le_of_ble_eq_true rfl)) dL_law_207 ⟨by show _ ≤ 600096; omega, by show _ ≤ 7301386; omega⟩) hS (fun q _ h => hFc q h) hFc (fun u1 t H1 locs ht hvm eu1 hB hz1 hk1 hS => ?_)
        have eu1 : u1 = cpN bf g 8 := eu1
        obtain ⟨hP1, hD1⟩ := hB
        rw [ht] at hP1
        obtain ⟨hP, hD⟩ := va_join (wr := [(oxk, .inl (doxk, 32, .inl f)), (oy, .inr (1, [.ref oyk, .ref oyb, .ref oyo])), (oyk, .inl (doyk, 32, .inl f)), (oyb, .inl (doyb, 8, .inl bf)), (oyo, .inl (doyo, 8, .inl g))]) (w1 := [(ox, .inr (0, [.ref oxk, .ref oxb, .ref oxo])), (oxb, .inl (doxb, 8, .inl u1)), (oxo, .inl (doxo, 8, .inl g))]) hP hD [0, 2, 3] [1, 4, 5, 6, 7] rfl rfl (by decide) (by decide) hk1 hFc hP1 hD1
        generalize H1 = H at hP hS ⊢
        have hP : va_P D vwCl [(oxk, .inl (doxk, 32, .inl f)), (oy, .inr (1, [.ref oyk, .ref oyb, .ref oyo])), (oyk, .inl (doyk, 32, .inl f)), (oyb, .inl (doyb, 8, .inl bf)), (oyo, .inl (doyo, 8, .inl g)), (ox, .inr (0, [.ref oxk, .ref oxb, .ref oxo])), (oxb, .inl (doxb, 8, .inl u1)), (oxo, .inl (doxo, 8, .inl g))] H := hP
        have hD : va_D (fun q : Nat => s.heap.size ≤ q) [(oxk, .inl (doxk, 32, .inl f)), (oy, .inr (1, [.ref oyk, .ref oyb, .ref oyo])), (oyk, .inl (doyk, 32, .inl f)), (oyb, .inl (doyb, 8, .inl bf)), (oyo, .inl (doyo, 8, .inl g)), (ox, .inr (0, [.ref oxk, .ref oxb, .ref oxo])), (oxb, .inl (doxb, 8, .inl u1)), (oxo, .inl (doxo, 8, .inl g))] := hD
        refine lv_aload_n hx hb dL_law_210 rfl (lv_at hl 2 rfl) ?_
        have hPc := hP.sub (ws' := [(oy, .inr (1, [.ref oyk, .ref oyb, .ref oyo])), (oyb, .inl (doyb, 8, .inl bf)), (oyo, .inl (doyo, 8, .inl g))]) [1, 3, 4] rfl
        have hKc := hK.sub (tys' := [(doyb, .byte), (doyo, .byte)]) [4, 5] rfl
        have hDc := hD.sub (ws' := [(oy, .inr (1, [.ref oyk, .ref oyb, .ref oyo])), (oyb, .inl (doyb, 8, .inl bf)), (oyo, .inl (doyo, 8, .inl g))]) [1, 3, 4] (by decide) rfl
        have hFc := va_free (wc := [(oy, .inr (1, [.ref oyk, .ref oyb, .ref oyo])), (oyb, .inl (doyb, 8, .inl bf)), (oyo, .inl (doyo, 8, .inl g))]) hD hS hA [1, 3, 4] rfl
        refine va_callv (va_runV (As := []) (rest := []) ⟨hx, hb, hml, hown, hts⟩ (met_again_m l D H.size oy oyk oyb oyo doyb doyo bf g) (cwV 0 hts (lw_V q359 q360 q361 q14 q362) rfl rfl rfl (by decide +kernel) ⟨Nat.le_of_ble_eq_true rfl, Nat.le_of_ble_eq_true rfl⟩) ⟨im_Pw.blind, va_recv hK hP (ci := 1) (q0 := 1) rfl rfl, im_Pw.of hPc hKc hDc⟩ rfl rfl hl.1 rfl (lv_room (Nat.le_of_ble_eq_true rfl)) dL_law_211 ⟨by show _ ≤ 600096; omega, by show _ ≤ 7301386; omega⟩) hS (fun q _ h => hFc q h) hFc (fun u2 t H1 locs ht hvm eu2 hB hz1 hk1 hS => ?_)
        have eu2 : u2 = cpN bf g 8 := eu2
        obtain ⟨hP1, hD1⟩ := hB
        rw [ht] at hP1
        obtain ⟨hP, hD⟩ := va_join (wr := [(oxk, .inl (doxk, 32, .inl f)), (oyk, .inl (doyk, 32, .inl f)), (ox, .inr (0, [.ref oxk, .ref oxb, .ref oxo])), (oxb, .inl (doxb, 8, .inl u1)), (oxo, .inl (doxo, 8, .inl g))]) (w1 := [(oy, .inr (1, [.ref oyk, .ref oyb, .ref oyo])), (oyb, .inl (doyb, 8, .inl u2)), (oyo, .inl (doyo, 8, .inl g))]) hP hD [1, 3, 4] [0, 2, 5, 6, 7] rfl rfl (by decide) (by decide) hk1 hFc hP1 hD1
        generalize H1 = H at hP hS ⊢
        have hP : va_P D vwCl [(oxk, .inl (doxk, 32, .inl f)), (oyk, .inl (doyk, 32, .inl f)), (ox, .inr (0, [.ref oxk, .ref oxb, .ref oxo])), (oxb, .inl (doxb, 8, .inl u1)), (oxo, .inl (doxo, 8, .inl g)), (oy, .inr (1, [.ref oyk, .ref oyb, .ref oyo])), (oyb, .inl (doyb, 8, .inl u2)), (oyo, .inl (doyo, 8, .inl g))] H := hP
        have hD : va_D (fun q : Nat => s.heap.size ≤ q) [(oxk, .inl (doxk, 32, .inl f)), (oyk, .inl (doyk, 32, .inl f)), (ox, .inr (0, [.ref oxk, .ref oxb, .ref oxo])), (oxb, .inl (doxb, 8, .inl u1)), (oxo, .inl (doxo, 8, .inl g)), (oy, .inr (1, [.ref oyk, .ref oyb, .ref oyo])), (oyb, .inl (doyb, 8, .inl u2)), (oyo, .inl (doyo, 8, .inl g))] := hD
        rw [show u2 = u1 by rw [eu2, eu1]] at hP hD
        refine lv_goto (tgt := 240) hx hb dL_law_214 (by decide) ?_
        refine lv_iinc (v := nI (6 * (tt + 1))) (lv' := [(3, .int (nI (6 * (tt + 1)))), (0, .ref b), (1, .ref ox), (2, .ref oy)]) hx hb dL_law_240 hl (k := 3) rfl (by rw [show 6 * (tt + 1) = 6 * tt + 6 by omega]; exact nI_add (6 * tt) 6) (by decide) rfl (fun ls hl => ?_)
        refine lv_goto (tgt := 18) hx hb dL_law_243 (by decide) ?_
        refine W.widen (k := 8 + 10 * (49 - n)) (n := 102 + 375 * (49 - n)) (by omega) (by omega) ?_
        exact ih _ _ _ ⟨tt + 1, f, u1, g, by omega, by omega, hP.sub [2, 0, 3, 4, 5, 1, 6, 7] rfl, hD.sub [2, 0, 3, 4, 5, 1, 6, 7] (by decide) rfl, hS, lv_sub hl [1, 2, 3, 0] rfl⟩
      · subst e9
        refine lv_tableIn (off := 184) (tgt := 217) hx hb dL_law_33 (by decide) (by decide) (by decide) (by decide) ?_
        refine lv_aload_n hx hb dL_law_217 rfl (lv_at hl 1 rfl) ?_
        refine lv_aload_n hx hb dL_law_218 rfl (lv_at hl 0 rfl) ?_
        refine lv_iload_n hx hb dL_law_219 rfl (lv_at hl 3 rfl) ?_
        refine lv_iconst (v := nI 1) hx hb dL_law_220 (by decide) ?_
        refine lv_iadd hx hb dL_law_221 ?_
        refine im_top (y := nI (6 * tt + 1)) (nI_add (6 * tt) 1) ?_
        refine va_sld hx hb hX hbl hbA hS (vp_in_nI (n := 6 * tt + 1) (by omega) (by omega)) dL_law_222 ?_
        refine im_top (y := xs (6 * tt + 1)) (by rw [nI_clamp (n := 6 * tt + 1) (by omega)]) ?_
        have hPc := hP.sub (ws' := [(ox, .inr (0, [.ref oxk, .ref oxb, .ref oxo])), (oxo, .inl (doxo, 8, .inl g))]) [0, 3] rfl
        have hKc := hK.sub (tys' := [(doxo, .byte)]) [2] rfl
        refine vp_callSi (W.runV (As := [.int (xs (6 * tt + 1))]) (rest := []) ⟨hx, hb, hml, hown, hts⟩ (met_out_d l D ox oxk oxb oxo doxo g (xs (6 * tt + 1))) (cwV 1 hts (lw_V q293 q294 q295 q13 q296) rfl rfl rfl (by decide +kernel) ⟨Nat.le_of_ble_eq_true rfl, Nat.le_of_ble_eq_true rfl⟩) ⟨im_Pr.blind, va_recv hK hP (ci := 0) (q0 := 0) rfl rfl, im_Pr.of hPc hKc⟩ rfl rfl hl.1 rfl (lv_room (Nat.le_of_ble_eq_true rfl)) dL_law_223 ⟨by show _ ≤ 600096; omega, by show _ ≤ 7301386; omega⟩) (fun r_223 hr_223 => ?_)
        have hr_223 : r_223 = g ((xs (6 * tt + 1)).toBitVec.toNat % 8) &&& nI 255 := hr_223
        subst hr_223
        refine lv_aload_n hx hb dL_law_226 rfl (lv_at hl 2 rfl) ?_
        refine lv_aload_n hx hb dL_law_227 rfl (lv_at hl 0 rfl) ?_
        refine lv_iload_n hx hb dL_law_228 rfl (lv_at hl 3 rfl) ?_
        refine lv_iconst (v := nI 1) hx hb dL_law_229 (by decide) ?_
        refine lv_iadd hx hb dL_law_230 ?_
        refine im_top (y := nI (6 * tt + 1)) (nI_add (6 * tt) 1) ?_
        refine va_sld hx hb hX hbl hbA hS (vp_in_nI (n := 6 * tt + 1) (by omega) (by omega)) dL_law_231 ?_
        refine im_top (y := xs (6 * tt + 1)) (by rw [nI_clamp (n := 6 * tt + 1) (by omega)]) ?_
        have hPc := hP.sub (ws' := [(oy, .inr (1, [.ref oyk, .ref oyb, .ref oyo])), (oyo, .inl (doyo, 8, .inl g))]) [4, 7] rfl
        have hKc := hK.sub (tys' := [(doyo, .byte)]) [5] rfl
        refine vp_callSi (W.runV (As := [.int (xs (6 * tt + 1))]) (rest := [.int (g ((xs (6 * tt + 1)).toBitVec.toNat % 8) &&& nI 255)]) ⟨hx, hb, hml, hown, hts⟩ (met_out_m l D oy oyk oyb oyo doyo g (xs (6 * tt + 1))) (cwV 1 hts (lw_V q363 q364 q365 q14 q366) rfl rfl rfl (by decide +kernel) ⟨Nat.le_of_ble_eq_true rfl, Nat.le_of_ble_eq_true rfl⟩) ⟨im_Pr.blind, va_recv hK hP (ci := 1) (q0 := 4) rfl rfl, im_Pr.of hPc hKc⟩ rfl rfl hl.1 rfl (lv_room (Nat.le_of_ble_eq_true rfl)) dL_law_232 ⟨by show _ ≤ 600096; omega, by show _ ≤ 7301386; omega⟩) (fun r_232 hr_232 => ?_)
        have hr_232 : r_232 = g ((xs (6 * tt + 1)).toBitVec.toNat % 8) &&& nI 255 := hr_232
        subst hr_232
        refine lv_icmp_eq (tgt := 240) hx hb dL_law_235 (by decide) (fun c_235 => ?_) (fun c_235 => ?_)
        · skip
          refine lv_iinc (v := nI (6 * (tt + 1))) (lv' := [(3, .int (nI (6 * (tt + 1)))), (0, .ref b), (1, .ref ox), (2, .ref oy)]) hx hb dL_law_240 hl (k := 3) rfl (by rw [show 6 * (tt + 1) = 6 * tt + 6 by omega]; exact nI_add (6 * tt) 6) (by decide) rfl (fun ls hl => ?_)
          refine lv_goto (tgt := 18) hx hb dL_law_243 (by decide) ?_
          refine W.widen (k := 8 + 10 * (49 - n)) (n := 102 + 375 * (49 - n)) (by omega) (by omega) ?_
          exact ih _ _ _ ⟨tt + 1, f, bf, g, by omega, by omega, hP.sub [0, 1, 2, 3, 4, 5, 6, 7] rfl, hD.sub [0, 1, 2, 3, 4, 5, 6, 7] (by decide) rfl, hS, lv_sub hl [1, 2, 3, 0] rfl⟩
        · exact absurd rfl c_235
      · subst e9
        refine lv_tableOut (tgt := 240) hx hb dL_law_33 (by decide) (by decide) ?_
        refine lv_iinc (v := nI (6 * (tt + 1))) (lv' := [(3, .int (nI (6 * (tt + 1)))), (0, .ref b), (1, .ref ox), (2, .ref oy)]) hx hb dL_law_240 hl (k := 3) rfl (by rw [show 6 * (tt + 1) = 6 * tt + 6 by omega]; exact nI_add (6 * tt) 6) (by decide) rfl (fun ls hl => ?_)
        refine lv_goto (tgt := 18) hx hb dL_law_243 (by decide) ?_
        refine W.widen (k := 8 + 10 * (49 - n)) (n := 102 + 375 * (49 - n)) (by omega) (by omega) ?_
        exact ih _ _ _ ⟨tt + 1, f, bf, g, by omega, by omega, hP.sub [0, 1, 2, 3, 4, 5, 6, 7] rfl, hD.sub [0, 1, 2, 3, 4, 5, 6, 7] (by decide) rfl, hS, lv_sub hl [1, 2, 3, 0] rfl⟩
      · subst e9
        refine lv_tableOut (tgt := 240) hx hb dL_law_33 (by decide) (by decide) ?_
        refine lv_iinc (v := nI (6 * (tt + 1))) (lv' := [(3, .int (nI (6 * (tt + 1)))), (0, .ref b), (1, .ref ox), (2, .ref oy)]) hx hb dL_law_240 hl (k := 3) rfl (by rw [show 6 * (tt + 1) = 6 * tt + 6 by omega]; exact nI_add (6 * tt) 6) (by decide) rfl (fun ls hl => ?_)
        refine lv_goto (tgt := 18) hx hb dL_law_243 (by decide) ?_
        refine W.widen (k := 8 + 10 * (49 - n)) (n := 102 + 375 * (49 - n)) (by omega) (by omega) ?_
        exact ih _ _ _ ⟨tt + 1, f, bf, g, by omega, by omega, hP.sub [0, 1, 2, 3, 4, 5, 6, 7] rfl, hD.sub [0, 1, 2, 3, 4, 5, 6, 7] (by decide) rfl, hS, lv_sub hl [1, 2, 3, 0] rfl⟩
end
section
set_option maxHeartbeats 4000000 in
theorem lw_walk (l : Launch) (hflags : l.flags = flags0) (b : Addr) (xs : List Int32) : MetFree l x (headSpec (Jvm.Cond.code x code maxLocals ret :: tables_1) room_1) (lw_P b xs) (fun _ _ _ _ _ => True) lw_Q := by
  refine MetFree.of_bodyS (code := code) (maxLocals := maxLocals) (ret := ret) (by decide) ?_ ?_
  · intro args s m h hn
    obtain ⟨meth, c, h1, h2, h3, h4, h5, h6, -, -⟩ := Cond.code_spec hn (atoms_spec (ws := Jvm.Cond.code x code maxLocals ret :: tables_1) h _ List.mem_cons_self)
    exact ⟨meth, c, h1, h2, h3, h4, h5, h6⟩
  · intro p e s m args below meth c s₁ B hml0 hP _
    obtain ⟨rfl, hx, hbd, hgv⟩ := hP
    obtain ⟨scr, harrAt, hlist, hof, hsmall⟩ := hx
    obtain ⟨hcb, hkn, -, -⟩ := State.arrayAt?_spec harrAt
    have hown : s.vm.findClass R_law = some m.cls := findClass_of_methodNamed B.named
    have hts0 : ∀ c ∈ (Jvm.Cond.code x code maxLocals ret :: tables_1), c.before #[Value.ref b] s = true := atoms_spec (ws := Jvm.Cond.code x code maxLocals ret :: tables_1) B.pre
    have hts : ∀ w ∈ lw_tbl, w.before #[Value.ref b] s = true := k2_hts_sels lw_privs (fun w hw => hts0 w (List.mem_cons_of_mem _ hw)) lw_privs_ok
    have hml : c.maxLocals = 4 := B.maxLocals_eq (hts0 _ List.mem_cons_self)
    have X₀ : Stand p l e room_1 s m #[Value.ref b] below meth c s₁ [] 0 0 := Stand.of_body B
    have hh0 : s₁.heap = s.heap := by rw [B.state]; rfl
    have hsz : scr.slots.size = xs.length := by rw [← Array.length_toList, hlist, List.length_map]
    have hval : ∀ j : Nat, j < xs.length → scr.slots[j]? = some (.int (xs.getD j 0)) := fun j hj => by
      rw [← Array.getElem?_toList, hlist]
      simp [hj]
    have hbl : b < s.heap.size := (Array.getElem?_eq_some_iff.mp hcb).1
    have hX : va_X b xs.length (fun j => xs.getD j 0) s s.heap := ⟨scr, hcb, hof, hkn, hsz, hval⟩
    have K : W p l e room_1 s m #[Value.ref b] below meth c s₁.heap [] 0 0 (lw_Z below #[Value.ref b] s) (entryFrame m ([Value.ref b] : List Value).toArray 4) := by
      rw [hh0]
      exact whole_start l hflags hbd ⟨B.exec, B.bytes, B.returns, hml, hown, hts, hX, hbl, B.notSynchronized, hgv⟩
    obtain ⟨t, a1, o, b1, b2, b3⟩ := K s₁ rfl X₀
    exact ⟨t, o, a1, b1, b2, b3⟩
theorem lw_pre_spec {args : Array Value} {s : State} (h : (Jvm.Cond.and given_1 narrow_1).before args s = true) (hr : rest_1_c.before args s = true) : ∃ (b : Addr) (xs : List Int32), lw_P b xs args s := by
  have hs := flat_of_before _ h
  have hq := flat_of_before _ hr
  have hc : (Cond.count 1).before args s = true := hs _ (by decide +kernel)
  have harr : (Cond.arrayOf (.arg 0) .int).before args s = true := hs _ (by decide +kernel)
  have hle : (Cond.le (.length (.arg 0)) (.int 288)).before args s = true := hs _ (by decide +kernel)
  have hlen : (Cond.isInt (.length (.arg 0))).before args s = true := hq _ (by decide +kernel)
  have hall : (Cond.all (.arg 0) (.isInt (.elem (.arg 0) (.index 0)))).before args s = true := hq _ (by decide +kernel)
  obtain ⟨b, xs, hb, hx⟩ := State.ints_of_pre rfl harr hlen hall
  have hsm : xs.length < 2 ^ 31 := hx.choose_spec.2.2.2
  have hev : (Term.length (.arg 0)).eval args s none [] s = some (.int xs.length.toInt32) := hx.length_eval hb
  have hv := Cond.le_ints hev (show (Term.int 288).eval args s none [] s = some (.int 288) from rfl)
  have hd : xs.length.toInt32 ≤ 288 := by
    simpa [Cond.before, Cond.holds, hv] using hle
  have hN : xs.length ≤ 288 := (Int32.ofNat_le_ofNat hsm (by decide)).mp (show Int32.ofNat xs.length ≤ Int32.ofNat 288 from hd)
  exact ⟨b, xs, Cond.one_arg hc (show args[0]? = some (.ref b) from hb), hx, hN, h⟩
theorem lw_comes (l : Launch) (hflags : l.flags = flags0) : Comes l x (Jvm.Cond.code x code maxLocals ret :: tables_1) room_1 (fun tb e args s => Calls_1 tb e args s ∧ rest_1 tb e args s ∧ Pre_1 tb e args s)
    (fun _ _ args s o t => lw_Q args s o t) := by
  intro p e ha hc hk s m args below hf hfit hheap happ hpre
  obtain ⟨b, xs, hP⟩ := lw_pre_spec hpre.2.2 hpre.2.1
  obtain ⟨k, o, h1, h2, h3, hQ⟩ := lw_walk l hflags b xs p e ha hc hk s m args below hf ((Spec.applies_iff_loose hf).mp happ).1 hP trivial
  exact ⟨k, o, h1, h2, h3, hQ⟩
theorem lw_frame {s t : State} {o : Outcome} {args : Array Value} (h : Framed s o t [] 600096 7301386) :
    Framed s o t (fieldLocs frame_1_writes args s ++ arrayLocs frame_1_arrays args s ++ staticLocs frame_1_statics s) 600096 7301386 := h
theorem lw_limb (L : Cond) (hL : ∀ (args : Array Value) (s t : State), L.after args s (.returned (some (.int 1))) t = true) :
    ArmFor flags0 classFile x code maxLocals ret World_1 tables_1 room_1 Calls_1 rest_1 Pre_1
      (fun tb e a s o t => postC L tb e a s o t ∧ Framed s o t (fieldLocs frame_1_writes a s ++ arrayLocs frame_1_arrays a s ++ staticLocs frame_1_statics s) 600096 7301386) := by
  intro l hflags _ _ p e ha hc hk s m args below hf hfit hheap happ hpre
  obtain ⟨k, o, h1, h2, h3, rfl, hF⟩ := lw_comes l hflags p e ha hc hk s m args below hf hfit hheap happ hpre
  exact ⟨k, _, h1, h2, h3, hL args s _, lw_frame hF⟩
theorem i_vc : Claimed_1_1 ∧ Claimed_1_2 := ⟨lw_limb limb_1_1 (fun args s t => by simp [limb_1_1, Cond.after, Cond.holds, Cond.value]), lw_limb limb_1_2 (fun args s t => Cond.after_iff.mpr (by
  first | (rw [show limb_1_2 = Cond.eq .result (.int 1) from rfl, Cond.eq_ints (x := 1) (y := 1) rfl rfl]; simp; done) | (simp [limb_1_2, Cond.value, Term.eval]; done)))⟩
end
