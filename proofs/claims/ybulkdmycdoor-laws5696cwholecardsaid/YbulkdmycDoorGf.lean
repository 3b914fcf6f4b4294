/-
  THE PLAIN LAW OF SEAT b5696aD: carry-less products of natural numbers, the reduction modulo x^128 + x^7 + x^2 + x + 1, the five lanes. No Go in sight.
-/
namespace Go.Proofs.YbulkdmycDoor.Gf

/-- The carry-less product of x with the lowest n bits of y. -/
def cl : Nat → Nat → Nat → Nat
  | 0, _, _ => 0
  | n + 1, x, y => cl n x y ^^^ (if y.testBit n then x <<< n else 0)

theorem xor4 (p q b d : Nat) : (p ^^^ q) ^^^ (b ^^^ d) = (p ^^^ b) ^^^ (q ^^^ d) := by ac_rfl
theorem xx (a b : Nat) : a ^^^ (a ^^^ b) = b := by rw [← Nat.xor_assoc]; simp

theorem cl_xor_left (n a b y : Nat) : cl n (a ^^^ b) y = cl n a y ^^^ cl n b y := by
  induction n with
  | zero => simp [cl]
  | succ n ih =>
    simp only [cl, ih]
    cases y.testBit n
    · simp
    · simp only [if_true, Nat.shiftLeft_xor_distrib]; ac_rfl

theorem cl_xor_right (n x a b : Nat) : cl n x (a ^^^ b) = cl n x a ^^^ cl n x b := by
  induction n with
  | zero => simp [cl]
  | succ n ih =>
    simp only [cl, ih, Nat.testBit_xor]
    cases a.testBit n <;> cases b.testBit n <;> simp only [Bool.xor_false, Bool.xor_true, Bool.not_true, Bool.not_false, if_true, if_false, Nat.xor_zero, Bool.false_eq_true]
    · ac_rfl
    · ac_rfl
    · have : cl n x a ^^^ x <<< n ^^^ (cl n x b ^^^ x <<< n) = x <<< n ^^^ (x <<< n ^^^ (cl n x a ^^^ cl n x b)) := by ac_rfl
      rw [this, xx]

theorem cl_shl (n x y i : Nat) : cl n (x <<< i) y = cl n x y <<< i := by
  induction n with
  | zero => simp [cl]
  | succ n ih =>
    simp only [cl, ih, Nat.shiftLeft_xor_distrib]
    cases y.testBit n
    · simp
    · simp only [if_true]
      rw [← Nat.shiftLeft_add, ← Nat.shiftLeft_add, Nat.add_comm]

theorem cl_congr (n x y y' : Nat) (h : ∀ t, t < n → y.testBit t = y'.testBit t) : cl n x y = cl n x y' := by
  induction n with
  | zero => rfl
  | succ n ih => simp only [cl]; rw [ih (fun t ht => h t (by omega)), h n (by omega)]

theorem cl_add (m n x y : Nat) : cl (m + n) x y = cl m x y ^^^ (cl n x (y >>> m)) <<< m := by
  induction n with
  | zero => simp [cl]
  | succ n ih =>
    rw [← Nat.add_assoc]
    simp only [cl, ih, Nat.testBit_shiftRight, Nat.shiftLeft_xor_distrib]
    cases y.testBit (m + n)
    · simp
    · simp only [if_true]
      rw [← Nat.shiftLeft_add, Nat.xor_assoc, Nat.add_comm n m]

theorem cl_zero (n x : Nat) : cl n x 0 = 0 := by
  induction n with
  | zero => rfl
  | succ n ih => simp [cl, ih]

theorem cl_ext (m n x y : Nat) (hy : y < 2 ^ m) : cl (m + n) x y = cl m x y := by
  rw [cl_add, Nat.shiftRight_eq_div_pow, Nat.div_eq_of_lt hy, cl_zero]; simp

theorem cl_lt (n x y a : Nat) (hx : x < 2 ^ a) : cl n x y < 2 ^ (a + n) := by
  induction n with
  | zero => simp [cl]; exact Nat.two_pow_pos a
  | succ n ih =>
    simp only [cl]
    refine Nat.xor_lt_two_pow (Nat.lt_of_lt_of_le ih (Nat.pow_le_pow_right (by omega) (by omega))) ?_
    split
    · rw [Nat.shiftLeft_eq, ← Nat.add_assoc, Nat.pow_succ, Nat.pow_add]
      have := Nat.mul_lt_mul_of_pos_right hx (Nat.two_pow_pos n)
      omega
    · exact Nat.two_pow_pos _

theorem cl_bit (n x y k : Nat) (h : (cl n x y).testBit k = true) : ∃ a b, a + b = k ∧ x.testBit a = true ∧ y.testBit b = true := by
  induction n with
  | zero => simp [cl] at h
  | succ n ih =>
    simp only [cl, Nat.testBit_xor] at h
    cases hc : (cl n x y).testBit k
    · rw [hc] at h
      cases hy : y.testBit n
      · simp [hy] at h
      · simp [hy, Nat.testBit_shiftLeft] at h
        exact ⟨k - n, n, by omega, h.2, hy⟩
    · exact ih hc

/-- Two maps that turn xor into xor are one below 2^n if they are one at the powers of two. -/
theorem lin (f g : Nat → Nat) (hf : ∀ a b, f (a ^^^ b) = f a ^^^ f b) (hg : ∀ a b, g (a ^^^ b) = g a ^^^ g b) (n : Nat)
    (h : ∀ k, k < n → f (2 ^ k) = g (2 ^ k)) (z : Nat) (hz : z < 2 ^ n) : f z = g z := by
  have f0 : f 0 = 0 := by have := hf 0 0; simpa using this
  have g0 : g 0 = 0 := by have := hg 0 0; simpa using this
  induction n generalizing z with
  | zero => have : z = 0 := by simpa using hz
            subst this; rw [f0, g0]
  | succ n ih =>
    have e : z = (z % 2 ^ n) ^^^ (if z.testBit n then 2 ^ n else 0) := by
      apply Nat.eq_of_testBit_eq
      intro i
      rw [Nat.testBit_xor, Nat.testBit_mod_two_pow]
      by_cases hi : i < n
      · have : n ≠ i := by omega
        cases hb : z.testBit n <;> simp [hi, this]
      · by_cases hin : i = n
        · subst hin
          cases hb : z.testBit i <;> simp
        · have hzi : z.testBit i = false := Nat.testBit_lt_two_pow (Nat.lt_of_lt_of_le hz (Nat.pow_le_pow_right (by omega) (by omega)))
          have hni : n ≠ i := by omega
          cases hb : z.testBit n <;> simp [hi, hzi, hni]
    have hm := ih (fun k hk => h k (by omega)) (z % 2 ^ n) (Nat.mod_lt _ (Nat.two_pow_pos n))
    rw [e, hf, hg, hm]
    cases z.testBit n
    · simp [f0, g0]
    · simp [h n (by omega)]

/-! ### The reduction -/
def F (h : Nat) : Nat := h ^^^ h <<< 1 ^^^ h <<< 2 ^^^ h <<< 7
def Red (z : Nat) : Nat := z % 2 ^ 128 ^^^ F (z >>> 128) % 2 ^ 128 ^^^ F (F (z >>> 128) >>> 128)
def dbl (a : Nat) : Nat := (a <<< 1) % 2 ^ 128 ^^^ (if a.testBit 127 then 0x87 else 0)

theorem F_xor (a b : Nat) : F (a ^^^ b) = F a ^^^ F b := by
  unfold F; simp only [Nat.shiftLeft_xor_distrib]; ac_rfl
theorem Red_xor (a b : Nat) : Red (a ^^^ b) = Red a ^^^ Red b := by
  unfold Red; simp only [Nat.shiftRight_xor_distrib, F_xor, Nat.xor_mod_two_pow]; ac_rfl
theorem ite_xor (p q : Bool) (c : Nat) : (if (p ^^ q) = true then c else 0) = (if p = true then c else 0) ^^^ (if q = true then c else 0) := by
  cases p <;> cases q <;> simp
theorem dbl_xor (a b : Nat) : dbl (a ^^^ b) = dbl a ^^^ dbl b := by
  unfold dbl; simp only [Nat.shiftLeft_xor_distrib, Nat.xor_mod_two_pow, Nat.testBit_xor, ite_xor]; ac_rfl
theorem Red_small (z : Nat) (h : z < 2 ^ 128) : Red z = z := by
  unfold Red
  rw [Nat.shiftRight_eq_div_pow, Nat.div_eq_of_lt h, Nat.mod_eq_of_lt h]; simp [F]
theorem Red_dbl (z : Nat) (h : z < 2 ^ 255) : Red (z <<< 1) = dbl (Red z) :=
  lin (fun z => Red (z <<< 1)) (fun z => dbl (Red z)) (fun a b => by simp only [Nat.shiftLeft_xor_distrib, Red_xor]) (fun a b => by simp only [Red_xor, dbl_xor]) 255 (by decide +kernel) z h

/-- Horner's way, n bits of y from bit 127 down. -/
def hor (x y : Nat) : Nat → Nat
  | 0 => 0
  | n + 1 => dbl (hor x y n) ^^^ (if y.testBit (127 - n) then x else 0)

theorem hor_eq (x y n : Nat) (hx : x < 2 ^ 128) (hn : n ≤ 128) : hor x y n = Red (cl n x (y >>> (128 - n))) := by
  induction n with
  | zero => simp only [hor, cl]; exact (Red_small 0 (Nat.two_pow_pos _)).symm
  | succ n ih =>
    have e1 : (y >>> (128 - (n + 1))) >>> 1 = y >>> (128 - n) := by rw [← Nat.shiftRight_add]; congr 1; omega
    have hlt : cl n x (y >>> (128 - n)) < 2 ^ 255 := Nat.lt_of_lt_of_le (cl_lt n x _ 128 hx) (Nat.pow_le_pow_right (by omega) (by omega))
    have hb : (y >>> (128 - (n + 1))).testBit 0 = y.testBit (127 - n) := by rw [Nat.testBit_shiftRight]; congr 1; omega
    rw [hor, ih (by omega), ← Red_dbl _ hlt, Nat.add_comm n 1, cl_add, Nat.add_comm 1 n, e1, Red_xor]
    simp only [cl, hb]
    cases y.testBit (127 - n)
    · simp [Red_small 0 (Nat.two_pow_pos _)]
    · simp [Red_small x hx, Nat.xor_comm]

theorem hor_all (x y : Nat) (hx : x < 2 ^ 128) : hor x y 128 = Red (cl 128 x y) := by
  rw [hor_eq x y 128 hx (by omega)]; rfl

/-! ### Words -/
def J (h l : Nat) : Nat := h <<< 64 ^^^ l
theorem J_lt (h l : Nat) (hh : h < 2 ^ 64) (hl : l < 2 ^ 64) : J h l < 2 ^ 128 := by
  unfold J
  refine Nat.xor_lt_two_pow ?_ (Nat.lt_of_lt_of_le hl (Nat.pow_le_pow_right (by omega) (by omega)))
  rw [Nat.shiftLeft_eq]; omega
theorem J_bit (h l k : Nat) (hl : l < 2 ^ 64) : (J h l).testBit k = if k < 64 then l.testBit k else h.testBit (k - 64) := by
  unfold J
  rw [Nat.testBit_xor, Nat.testBit_shiftLeft]
  by_cases hk : k < 64
  · have : ¬ 64 ≤ k := by omega
    simp [hk, this]
  · have : 64 ≤ k := by omega
    have hlk : l.testBit k = false := Nat.testBit_lt_two_pow (Nat.lt_of_lt_of_le hl (Nat.pow_le_pow_right (by omega) (by omega)))
    simp [hk, this, hlk]
theorem J_hi (h l : Nat) (hl : l < 2 ^ 64) : (J h l) >>> 64 = h := by
  apply Nat.eq_of_testBit_eq; intro i
  rw [Nat.testBit_shiftRight, J_bit h l _ hl, if_neg (by omega)]; congr 1; omega
theorem J_inj (h l h' l' : Nat) (hl : l < 2 ^ 64) (hl' : l' < 2 ^ 64) (e : J h l = J h' l') : h = h' ∧ l = l' := by
  have e1 : h = h' := by rw [← J_hi h l hl, e, J_hi h' l' hl']
  subst e1
  refine ⟨rfl, ?_⟩
  unfold J at e
  rw [← xx (h <<< 64) l, e, xx]
theorem J_xor (a b c d : Nat) : J (a ^^^ c) (b ^^^ d) = J a b ^^^ J c d := by
  unfold J; rw [Nat.shiftLeft_xor_distrib]; exact xor4 _ _ _ _
theorem J_split (p : Nat) : J (p / 2 ^ 64) (p % 2 ^ 64) = p := by
  apply Nat.eq_of_testBit_eq; intro i
  rw [J_bit _ _ _ (Nat.mod_lt _ (Nat.two_pow_pos 64))]
  by_cases hi : i < 64
  · rw [if_pos hi, Nat.testBit_mod_two_pow]; simp [hi]
  · rw [if_neg hi, ← Nat.shiftRight_eq_div_pow, Nat.testBit_shiftRight]; congr 1; omega

/-- The model's step on two words. -/
theorem J_dbl (zh zl : Nat) (hh : zh < 2 ^ 64) (hl : zl < 2 ^ 64) :
    J ((zh <<< 1 % 2 ^ 64) ||| (zl >>> 63)) ((zl <<< 1 % 2 ^ 64) ^^^ (if zh >>> 63 = 1 then 0x87 else 0)) = dbl (J zh zl) := by
  have hor1 : (zh <<< 1 % 2 ^ 64) ||| (zl >>> 63) = (zh <<< 1 % 2 ^ 64) ^^^ (zl >>> 63) := by
    apply Nat.eq_of_testBit_eq; intro i
    simp only [Nat.testBit_or, Nat.testBit_xor, Nat.testBit_mod_two_pow, Nat.testBit_shiftLeft, Nat.testBit_shiftRight]
    by_cases hi : 1 ≤ i
    · have : zl.testBit (63 + i) = false := Nat.testBit_lt_two_pow (Nat.lt_of_lt_of_le hl (Nat.pow_le_pow_right (by omega) (by omega)))
      simp [this]
    · have : ¬ i ≥ 1 := hi
      simp [this]
  have hit : (if zh >>> 63 = 1 then 0x87 else 0) = (if zh.testBit 63 = true then 0x87 else 0) := by
    have : (zh >>> 63 = 1) ↔ zh.testBit 63 = true := by
      rw [Nat.testBit_eq_decide_div_mod_eq, Nat.shiftRight_eq_div_pow, decide_eq_true_eq]
      omega
    simp only [this]
  rw [hor1, hit]
  have a1 : J (zh <<< 1 % 2 ^ 64) (if zh.testBit 63 = true then 0x87 else 0) = dbl (J zh 0) := lin (fun z => J (z <<< 1 % 2 ^ 64) (if z.testBit 63 = true then 0x87 else 0)) (fun z => dbl (J z 0))
    (fun a b => by simp only [Nat.shiftLeft_xor_distrib, Nat.xor_mod_two_pow, Nat.testBit_xor, ite_xor, J_xor])
    (fun a b => by rw [show J (a ^^^ b) 0 = J (a ^^^ b) (0 ^^^ 0) from rfl, J_xor, dbl_xor]) 64 (by decide +kernel) zh hh
  have a2 : J (zl >>> 63) (zl <<< 1 % 2 ^ 64) = dbl (J 0 zl) := lin (fun z => J (z >>> 63) (z <<< 1 % 2 ^ 64)) (fun z => dbl (J 0 z))
    (fun a b => by simp only [Nat.shiftLeft_xor_distrib, Nat.shiftRight_xor_distrib, Nat.xor_mod_two_pow, J_xor])
    (fun a b => by rw [show J 0 (a ^^^ b) = J (0 ^^^ 0) (a ^^^ b) from rfl, J_xor, dbl_xor]) 64 (by decide +kernel) zl hl
  have e : J zh zl = J zh 0 ^^^ J 0 zl := by rw [← J_xor]; simp
  rw [e, dbl_xor, ← a1, ← a2, ← J_xor, Nat.xor_comm (if zh.testBit 63 = true then 0x87 else 0)]

/-! ### The five lanes -/
def lane : Nat → Nat
  | 0 => 0x1084210842108421
  | 1 => 0x2108421084210842
  | 2 => 0x4210842108421084
  | 3 => 0x8421084210842108
  | _ => 0x0842108421084210

theorem lane_lt : ∀ i, i < 5 → lane i < 2 ^ 64 := by decide +kernel
theorem lane_bit0 : ∀ i, i < 5 → ∀ t, t < 64 → (lane i).testBit t = (t % 5 == i) := by decide +kernel
theorem lane_bit (i t : Nat) (hi : i < 5) (h : (lane i).testBit t = true) : t % 5 = i := by
  by_cases ht : t < 64
  · rw [lane_bit0 i hi t ht] at h; simpa using h
  · rw [Nat.testBit_lt_two_pow (Nat.lt_of_lt_of_le (lane_lt i hi) (Nat.pow_le_pow_right (by omega) (by omega)))] at h
    cases h

/-- Numbers whose set bits lie at multiples of five. -/
def Sp (x : Nat) : Prop := ∀ t, x.testBit t = true → t % 5 = 0

theorem small_digit : ∀ n, n < 32 → n.testBit 1 = false → n.testBit 2 = false → n.testBit 3 = false → n.testBit 4 = false → n ≤ 1 := by decide +kernel

theorem p32 (m : Nat) : 32 ^ m = 2 ^ (5 * m) := by rw [show 32 = 2 ^ 5 from rfl, ← Nat.pow_mul]

theorem digit_bit (x m s : Nat) (hs : s < 5) : (x / 32 ^ m % 32).testBit s = x.testBit (5 * m + s) := by
  rw [show 32 = 2 ^ 5 from rfl, Nat.testBit_mod_two_pow, show 2 ^ 5 = 32 from rfl, p32, ← Nat.shiftRight_eq_div_pow, Nat.testBit_shiftRight]
  simp [hs]

theorem Sp.digit {x : Nat} (h : Sp x) (m : Nat) : x / 32 ^ m % 32 ≤ 1 := by
  have z : ∀ s, 1 ≤ s → s < 5 → (x / 32 ^ m % 32).testBit s = false := by
    intro s h1 h5
    rw [digit_bit x m s h5]
    cases hb : x.testBit (5 * m + s)
    · rfl
    · have := h _ hb; omega
  exact small_digit _ (Nat.mod_lt _ (by decide)) (z 1 (by decide) (by decide)) (z 2 (by decide) (by decide)) (z 3 (by decide) (by decide)) (z 4 (by decide) (by decide))

theorem div_step (x m : Nat) : x / 32 ^ (m + 1) = x / 32 / 32 ^ m := by
  rw [Nat.pow_succ, Nat.mul_comm, Nat.div_div_eq_div_mul]

theorem nocarry (m : Nat) : ∀ (A B a b : Nat), a + b < 32 → (∀ m, A / 32 ^ m % 32 ≤ a) → (∀ m, B / 32 ^ m % 32 ≤ b) →
    (A + B) / 32 ^ m % 32 = A / 32 ^ m % 32 + B / 32 ^ m % 32 := by
  induction m with
  | zero =>
    intro A B a b hab hA hB
    have h1 := hA 0
    have h2 := hB 0
    simp only [Nat.pow_zero, Nat.div_one] at *
    omega
  | succ m ih =>
    intro A B a b hab hA hB
    have h1 := hA 0
    have h2 := hB 0
    simp only [Nat.pow_zero, Nat.div_one] at h1 h2
    rw [div_step, div_step, div_step, show (A + B) / 32 = A / 32 + B / 32 by omega]
    exact ih _ _ a b hab (fun k => by rw [← div_step]; exact hA _) (fun k => by rw [← div_step]; exact hB _)

theorem shifted_digit (X n m : Nat) : X * 32 ^ n / 32 ^ m % 32 = if m < n then 0 else X / 32 ^ (m - n) % 32 := by
  split
  · rename_i h
    obtain ⟨d, rfl⟩ : ∃ d, n = m + (d + 1) := ⟨n - m - 1, by omega⟩
    rw [Nat.pow_add, ← Nat.mul_assoc, Nat.mul_comm X, Nat.mul_assoc, Nat.mul_div_cancel_left _ (Nat.pos_of_ne_zero (by simp)), Nat.pow_succ, ← Nat.mul_assoc, Nat.mul_mod_left]
  · rename_i h
    obtain ⟨d, rfl⟩ : ∃ d, m = n + d := ⟨m - n, by omega⟩
    rw [Nat.pow_add, ← Nat.div_div_eq_div_mul, Nat.mul_div_cancel _ (Nat.pos_of_ne_zero (by simp)), show n + d - n = d by omega]

theorem bit_digit (x m : Nat) : x.testBit (5 * m) = decide (x / 32 ^ m % 32 % 2 = 1) := by
  rw [Nat.testBit_eq_decide_div_mod_eq, ← p32]
  congr 1
  rw [Nat.mod_mod_of_dvd _ (by decide)]

theorem cl5 (X v : Nat) (h1 : v.testBit 1 = false) (h2 : v.testBit 2 = false) (h3 : v.testBit 3 = false) (h4 : v.testBit 4 = false) :
    cl 5 X v = if v.testBit 0 then X else 0 := by
  simp only [cl, h1, h2, h3, h4]; simp

theorem parity (a b : Nat) : decide ((a + b) % 2 = 1) = (decide (a % 2 = 1) ^^ decide (b % 2 = 1)) := by
  rcases Nat.mod_two_eq_zero_or_one a with ha | ha <;> rcases Nat.mod_two_eq_zero_or_one b with hb | hb <;> simp [Nat.add_mod, ha, hb]

theorem prodDigits (X Y : Nat) (hX : Sp X) (hY : Sp Y) (n : Nat) (hn : n ≤ 30) :
    (∀ m, X * (Y % 32 ^ n) / 32 ^ m % 32 ≤ n) ∧ ∀ m, (X * (Y % 32 ^ n)).testBit (5 * m) = (cl (5 * n) X Y).testBit (5 * m) := by
  induction n with
  | zero => simp [Nat.mod_one, cl]
  | succ n ih =>
    obtain ⟨i1, i2⟩ := ih (by omega)
    have hy := hY.digit n
    have e : X * (Y % 32 ^ (n + 1)) = X * (Y % 32 ^ n) + X * (Y / 32 ^ n % 32) * 32 ^ n := by
      rw [Nat.pow_succ, Nat.mod_mul, Nat.mul_add, Nat.mul_comm (32 ^ n), Nat.mul_assoc]
    have hb : ∀ s, 1 ≤ s → s < 5 → (Y >>> (5 * n)).testBit s = false := by
      intro s h1 h5
      rw [Nat.testBit_shiftRight]
      cases hb : Y.testBit (5 * n + s)
      · rfl
      · have := hY _ hb; omega
    have ec : cl (5 * (n + 1)) X Y = cl (5 * n) X Y ^^^ (if Y.testBit (5 * n) then X else 0) <<< (5 * n) := by
      rw [Nat.mul_add, Nat.mul_one, cl_add, cl5 X _ (hb 1 (by omega) (by omega)) (hb 2 (by omega) (by omega)) (hb 3 (by omega) (by omega)) (hb 4 (by omega) (by omega)), Nat.testBit_shiftRight, Nat.add_zero]
    have hb0 : Y.testBit (5 * n) = decide (Y / 32 ^ n % 32 = 1) := by rw [bit_digit]; congr 1; rw [Nat.mod_eq_of_lt (b := 2) (by omega)]
    have hz : ∀ m, X * (Y / 32 ^ n % 32) * 32 ^ n / 32 ^ m % 32 ≤ 1 := by
      intro m
      rw [shifted_digit]
      split
      · omega
      · rcases (show Y / 32 ^ n % 32 = 0 ∨ Y / 32 ^ n % 32 = 1 by omega) with h | h
        · rw [h]; simp
        · rw [h, Nat.mul_one]; exact hX.digit _
    have hd := fun m => nocarry m _ _ n 1 (by omega) i1 hz
    refine ⟨fun m => ?_, fun m => ?_⟩
    · rw [e, hd m]; have := i1 m; have := hz m; omega
    · rw [bit_digit, e, hd m, parity, ← bit_digit, i2 m, ec, Nat.testBit_xor]
      congr 1
      rw [← bit_digit, hb0]
      rcases (show Y / 32 ^ n % 32 = 0 ∨ Y / 32 ^ n % 32 = 1 by omega) with h | h
      · rw [h]; simp
      · rw [h]
        rw [Nat.mul_one, p32, ← Nat.shiftLeft_eq]; simp

theorem prodBits (X Y : Nat) (hX : Sp X) (hY : Sp Y) (hlt : Y < 2 ^ 65) (m : Nat) : (X * Y).testBit (5 * m) = (cl 65 X Y).testBit (5 * m) := by
  have := (prodDigits X Y hX hY 13 (by omega)).2 m
  rw [Nat.mod_eq_of_lt (show Y < 32 ^ 13 from hlt)] at this
  exact this

theorem lane_shape (x i : Nat) (hi : i < 5) : ∃ X, x &&& lane i = X <<< i ∧ Sp X := by
  refine ⟨(x &&& lane i) >>> i, ?_, ?_⟩
  · apply Nat.eq_of_testBit_eq; intro k
    rw [Nat.testBit_shiftLeft, Nat.testBit_shiftRight]
    by_cases hk : k ≥ i
    · simp only [hk, decide_true, Bool.true_and]; congr 1; omega
    · simp only [hk, decide_false, Bool.false_and]
      cases h : (x &&& lane i).testBit k
      · rfl
      · rw [Nat.testBit_and, Bool.and_eq_true] at h
        have := lane_bit i k hi h.2
        omega
  · intro t ht
    rw [Nat.testBit_shiftRight, Nat.testBit_and, Bool.and_eq_true] at ht
    have := lane_bit i _ hi ht.2
    omega

theorem lane_le (x i : Nat) (hi : i < 5) : x &&& lane i < 2 ^ 64 := Nat.and_lt_two_pow x (lane_lt i hi)

/-- On its own positions the integer product of two lanes has the bits of the carry-less product. -/
theorem lane_prod (x y i j k : Nat) (hi : i < 5) (hj : j < 5) (hk : k % 5 = (i + j) % 5) :
    ((x &&& lane i) * (y &&& lane j)).testBit k = (cl 64 (x &&& lane i) (y &&& lane j)).testBit k := by
  obtain ⟨X, eX, sX⟩ := lane_shape x i hi
  obtain ⟨Y, eY, sY⟩ := lane_shape y j hj
  have hYlt : Y <<< j < 2 ^ 64 := by rw [← eY]; exact lane_le y j hj
  have hY' : Y < 2 ^ (64 - j) := by
    rw [Nat.shiftLeft_eq] at hYlt
    rw [show 64 = (64 - j) + j by omega, Nat.pow_add] at hYlt
    exact Nat.lt_of_mul_lt_mul_right hYlt
  have e1 : X <<< i * Y <<< j = (X * Y) <<< (i + j) := by
    simp only [Nat.shiftLeft_eq, Nat.pow_add]; ac_rfl
  have e2 : cl 64 (X <<< i) (Y <<< j) = (cl 65 X Y) <<< (i + j) := by
    have h1 : cl 64 X (Y <<< j) = (cl (64 - j) X Y) <<< j := by
      have := cl_add j (64 - j) X (Y <<< j)
      rw [show j + (64 - j) = 64 by omega] at this
      rw [this, Nat.shiftLeft_shiftRight]
      have z : cl j X (Y <<< j) = 0 := by
        rw [cl_congr j X (Y <<< j) 0 (fun t ht => ?_), cl_zero]
        rw [Nat.testBit_shiftLeft]; simp; omega
      rw [z, Nat.zero_xor]
    rw [cl_shl, h1, ← Nat.shiftLeft_add, Nat.add_comm j i, show 65 = (64 - j) + (j + 1) by omega, cl_ext _ _ _ _ hY']
  rw [eX, eY, e1, e2, Nat.testBit_shiftLeft, Nat.testBit_shiftLeft]
  by_cases h : k ≥ i + j
  · obtain ⟨m, hm⟩ : ∃ m, k - (i + j) = 5 * m := ⟨(k - (i + j)) / 5, by omega⟩
    rw [hm, prodBits X Y sX sY (Nat.lt_of_lt_of_le hY' (Nat.pow_le_pow_right (by omega) (by omega)))]
  · simp [h]

/-- Off its positions the carry-less product of two lanes has no bit. -/
theorem lane_off (x y i j k : Nat) (hi : i < 5) (hj : j < 5) (hk : k % 5 ≠ (i + j) % 5) : (cl 64 (x &&& lane i) (y &&& lane j)).testBit k = false := by
  cases h : (cl 64 (x &&& lane i) (y &&& lane j)).testBit k
  · rfl
  · obtain ⟨a, b, hab, ha, hb⟩ := cl_bit _ _ _ _ h
    rw [Nat.testBit_and, Bool.and_eq_true] at ha hb
    have h1 := lane_bit i a hi ha.2
    have h2 := lane_bit j b hj hb.2
    omega

theorem lanes_all (x : Nat) (hx : x < 2 ^ 64) : x = (x &&& lane 0) ^^^ (x &&& lane 1) ^^^ (x &&& lane 2) ^^^ (x &&& lane 3) ^^^ (x &&& lane 4) := by
  apply Nat.eq_of_testBit_eq; intro t
  simp only [Nat.testBit_xor, Nat.testBit_and]
  by_cases ht : t < 64
  · rw [lane_bit0 0 (by omega) t ht, lane_bit0 1 (by omega) t ht, lane_bit0 2 (by omega) t ht, lane_bit0 3 (by omega) t ht, lane_bit0 4 (by omega) t ht]
    have : t % 5 < 5 := Nat.mod_lt _ (by omega)
    rcases (show t % 5 = 0 ∨ t % 5 = 1 ∨ t % 5 = 2 ∨ t % 5 = 3 ∨ t % 5 = 4 by omega) with h | h | h | h | h <;> rw [h] <;> cases x.testBit t <;> decide
  · have : x.testBit t = false := Nat.testBit_lt_two_pow (Nat.lt_of_lt_of_le hx (Nat.pow_le_pow_right (by omega) (by omega)))
    simp [this]

/-! ### clmul on words -/
def xph (a0 b0 a1 b1 a2 b2 a3 b3 a4 b4 : Nat) : Nat := a0 * b0 / 2 ^ 64 ^^^ a1 * b1 / 2 ^ 64 ^^^ a2 * b2 / 2 ^ 64 ^^^ a3 * b3 / 2 ^ 64 ^^^ a4 * b4 / 2 ^ 64
def xpl (a0 b0 a1 b1 a2 b2 a3 b3 a4 b4 : Nat) : Nat := a0 * b0 % 2 ^ 64 ^^^ a1 * b1 % 2 ^ 64 ^^^ a2 * b2 % 2 ^ 64 ^^^ a3 * b3 % 2 ^ 64 ^^^ a4 * b4 % 2 ^ 64
/-- Five sums out of the lanes, whichever word ('q') of each product is taken. -/
def clw (q : Nat → Nat → Nat → Nat → Nat → Nat → Nat → Nat → Nat → Nat → Nat) (m0 m1 m2 m3 m4 : Nat) (x0 x1 x2 x3 x4 y0 y1 y2 y3 y4 : Nat) : Nat :=
  q x0 y0 x1 y4 x2 y3 x3 y2 x4 y1 &&& m0 ||| q x0 y1 x1 y0 x2 y4 x3 y3 x4 y2 &&& m1 ||| q x0 y2 x1 y1 x2 y0 x3 y4 x4 y3 &&& m2 |||
    q x0 y3 x1 y2 x2 y1 x3 y0 x4 y4 &&& m3 ||| q x0 y4 x1 y3 x2 y2 x3 y1 x4 y0 &&& m4
def clh (x y : Nat) : Nat := clw xph (lane 1) (lane 2) (lane 3) (lane 4) (lane 0) (x &&& lane 0) (x &&& lane 1) (x &&& lane 2) (x &&& lane 3) (x &&& lane 4) (y &&& lane 0) (y &&& lane 1) (y &&& lane 2) (y &&& lane 3) (y &&& lane 4)
def cll (x y : Nat) : Nat := clw xpl (lane 0) (lane 1) (lane 2) (lane 3) (lane 4) (x &&& lane 0) (x &&& lane 1) (x &&& lane 2) (x &&& lane 3) (x &&& lane 4) (y &&& lane 0) (y &&& lane 1) (y &&& lane 2) (y &&& lane 3) (y &&& lane 4)

theorem clw_lt (q m0 m1 m2 m3 m4 x0 x1 x2 x3 x4 y0 y1 y2 y3 y4) (h0 : m0 < 2 ^ 64) (h1 : m1 < 2 ^ 64) (h2 : m2 < 2 ^ 64) (h3 : m3 < 2 ^ 64) (h4 : m4 < 2 ^ 64) :
    clw q m0 m1 m2 m3 m4 x0 x1 x2 x3 x4 y0 y1 y2 y3 y4 < 2 ^ 64 := by
  unfold clw
  exact Nat.or_lt_two_pow (Nat.or_lt_two_pow (Nat.or_lt_two_pow (Nat.or_lt_two_pow (Nat.and_lt_two_pow _ h0) (Nat.and_lt_two_pow _ h1)) (Nat.and_lt_two_pow _ h2)) (Nat.and_lt_two_pow _ h3)) (Nat.and_lt_two_pow _ h4)
theorem clh_lt (x y : Nat) : clh x y < 2 ^ 64 := clw_lt _ _ _ _ _ _ _ _ _ _ _ _ _ _ _ _ (lane_lt 1 (by omega)) (lane_lt 2 (by omega)) (lane_lt 3 (by omega)) (lane_lt 4 (by omega)) (lane_lt 0 (by omega))
theorem cll_lt (x y : Nat) : cll x y < 2 ^ 64 := clw_lt _ _ _ _ _ _ _ _ _ _ _ _ _ _ _ _ (lane_lt 0 (by omega)) (lane_lt 1 (by omega)) (lane_lt 2 (by omega)) (lane_lt 3 (by omega)) (lane_lt 4 (by omega))

theorem xph_bit (a0 b0 a1 b1 a2 b2 a3 b3 a4 b4 k : Nat) : (xph a0 b0 a1 b1 a2 b2 a3 b3 a4 b4).testBit k =
    ((a0 * b0).testBit (k + 64) ^^ (a1 * b1).testBit (k + 64) ^^ (a2 * b2).testBit (k + 64) ^^ (a3 * b3).testBit (k + 64) ^^ (a4 * b4).testBit (k + 64)) := by
  unfold xph
  simp only [Nat.testBit_xor, Nat.testBit_div_two_pow]
theorem xpl_bit (a0 b0 a1 b1 a2 b2 a3 b3 a4 b4 k : Nat) (hk : k < 64) : (xpl a0 b0 a1 b1 a2 b2 a3 b3 a4 b4).testBit k =
    ((a0 * b0).testBit k ^^ (a1 * b1).testBit k ^^ (a2 * b2).testBit k ^^ (a3 * b3).testBit k ^^ (a4 * b4).testBit k) := by
  unfold xpl
  simp only [Nat.testBit_xor, Nat.testBit_mod_two_pow, hk, decide_true, Bool.true_and]

theorem p0 (b c d e : Bool) : (b != (c != (d != e))) = (e != (d != (c != b))) := by revert b c d e; decide
theorem p1 (a b c d e : Bool) : (a != (b != (c != (d != e)))) = (b != (a != (e != (d != c)))) := by revert a b c d e; decide
theorem p2 (a b c d e : Bool) : (a != (b != (c != (d != e)))) = (c != (b != (a != (e != d)))) := by revert a b c d e; decide
theorem p3 (a b c d e : Bool) : (a != (b != (c != (d != e)))) = (d != (c != (b != (a != e)))) := by revert a b c d e; decide
theorem p4 (a b c d e : Bool) : (a != (b != (c != (d != e)))) = (e != (d != (c != (b != a)))) := by revert a b c d e; decide

theorem clmul_eq (x y : Nat) (hx : x < 2 ^ 64) (hy : y < 2 ^ 64) : J (clh x y) (cll x y) = cl 64 x y := by
  apply Nat.eq_of_testBit_eq; intro k
  by_cases hk : k < 128
  · have e : cl 64 x y = cl 64 ((x &&& lane 0) ^^^ (x &&& lane 1) ^^^ (x &&& lane 2) ^^^ (x &&& lane 3) ^^^ (x &&& lane 4)) ((y &&& lane 0) ^^^ (y &&& lane 1) ^^^ (y &&& lane 2) ^^^ (y &&& lane 3) ^^^ (y &&& lane 4)) := by
      rw [← lanes_all x hx, ← lanes_all y hy]
    have c : ∀ i j, i < 5 → j < 5 → (cl 64 (x &&& lane i) (y &&& lane j)).testBit k = (decide (k % 5 = (i + j) % 5) && ((x &&& lane i) * (y &&& lane j)).testBit k) := by
      intro i j hi hj
      by_cases h : k % 5 = (i + j) % 5
      · rw [lane_prod x y i j k hi hj h]; simp [h]
      · rw [lane_off x y i j k hi hj h]; simp [h]
    have c0 := fun j => c 0 j (by omega)
    have c1 := fun j => c 1 j (by omega)
    have c2 := fun j => c 2 j (by omega)
    have c3 := fun j => c 3 j (by omega)
    have c4 := fun j => c 4 j (by omega)
    have d0 : (0 : Nat) < 5 := by omega
    have d1 : (1 : Nat) < 5 := by omega
    have d2 : (2 : Nat) < 5 := by omega
    have d3 : (3 : Nat) < 5 := by omega
    have d4 : (4 : Nat) < 5 := by omega
    rw [e, J_bit _ _ _ (cll_lt x y)]
    simp only [cl_xor_left, cl_xor_right, Nat.testBit_xor]
    rw [c0 0 d0, c0 1 d1, c0 2 d2, c0 3 d3, c0 4 d4, c1 0 d0, c1 1 d1, c1 2 d2, c1 3 d3, c1 4 d4, c2 0 d0, c2 1 d1, c2 2 d2, c2 3 d3, c2 4 d4, c3 0 d0, c3 1 d1, c3 2 d2, c3 3 d3, c3 4 d4, c4 0 d0, c4 1 d1, c4 2 d2, c4 3 d3, c4 4 d4]
    clear c c0 c1 c2 c3 c4 e
    by_cases h : k < 64
    · rw [if_pos h]
      unfold cll clw
      simp only [Nat.testBit_or, Nat.testBit_and, xpl_bit _ _ _ _ _ _ _ _ _ _ k h]
      rw [lane_bit0 0 d0 k h, lane_bit0 1 d1 k h, lane_bit0 2 d2 k h, lane_bit0 3 d3 k h, lane_bit0 4 d4 k h]
      rcases (show k % 5 = 0 ∨ k % 5 = 1 ∨ k % 5 = 2 ∨ k % 5 = 3 ∨ k % 5 = 4 by omega) with hr | hr | hr | hr | hr <;> rw [hr] <;> simp <;> first | exact p0 _ _ _ _ | exact p1 _ _ _ _ _ | exact p2 _ _ _ _ _ | exact p3 _ _ _ _ _ | exact p4 _ _ _ _ _
    · rw [if_neg h]
      have hj : k - 64 < 64 := by omega
      have hj' : (k - 64) + 64 = k := by omega
      unfold clh clw
      simp only [Nat.testBit_or, Nat.testBit_and, xph_bit, hj']
      rw [lane_bit0 0 d0 _ hj, lane_bit0 1 d1 _ hj, lane_bit0 2 d2 _ hj, lane_bit0 3 d3 _ hj, lane_bit0 4 d4 _ hj]
      rcases (show (k % 5 = 0 ∧ (k - 64) % 5 = 1) ∨ (k % 5 = 1 ∧ (k - 64) % 5 = 2) ∨ (k % 5 = 2 ∧ (k - 64) % 5 = 3) ∨ (k % 5 = 3 ∧ (k - 64) % 5 = 4) ∨ (k % 5 = 4 ∧ (k - 64) % 5 = 0) by omega) with ⟨hr, hs⟩ | ⟨hr, hs⟩ | ⟨hr, hs⟩ | ⟨hr, hs⟩ | ⟨hr, hs⟩ <;> rw [hr, hs] <;> simp <;> first | exact p0 _ _ _ _ | exact p1 _ _ _ _ _ | exact p2 _ _ _ _ _ | exact p3 _ _ _ _ _ | exact p4 _ _ _ _ _
  · rw [Nat.testBit_lt_two_pow (Nat.lt_of_lt_of_le (J_lt _ _ (clh_lt x y) (cll_lt x y)) (Nat.pow_le_pow_right (by omega) (by omega))),
      Nat.testBit_lt_two_pow (Nat.lt_of_lt_of_le (cl_lt 64 x y 64 hx) (Nat.pow_le_pow_right (by omega) (by omega)))]

/-! ### mul128 on words -/
theorem or_xor (a b s : Nat) (hs : s ≤ 64) (hb : b < 2 ^ 64) : (a <<< s % 2 ^ 64) ||| (b >>> (64 - s)) = (a <<< s % 2 ^ 64) ^^^ (b >>> (64 - s)) := by
  apply Nat.eq_of_testBit_eq; intro i
  simp only [Nat.testBit_or, Nat.testBit_xor, Nat.testBit_mod_two_pow, Nat.testBit_shiftLeft, Nat.testBit_shiftRight]
  by_cases hi : s ≤ i
  · have : b.testBit (64 - s + i) = false := Nat.testBit_lt_two_pow (Nat.lt_of_lt_of_le hb (Nat.pow_le_pow_right (by omega) (by omega)))
    simp [this]
  · have : ¬ i ≥ s := hi
    simp [this]

def tw (w3 : Nat) : Nat := w3 >>> 63 ^^^ w3 >>> 62 ^^^ w3 >>> 57
def zh (w3 w2 w1 : Nat) : Nat := w1 ^^^ w3 ^^^ (w3 <<< 1 % 2 ^ 64 ||| w2 >>> 63) ^^^ (w3 <<< 2 % 2 ^ 64 ||| w2 >>> 62) ^^^ (w3 <<< 7 % 2 ^ 64 ||| w2 >>> 57)
def zl (w3 w2 w0 : Nat) : Nat := w0 ^^^ w2 ^^^ w2 <<< 1 % 2 ^ 64 ^^^ w2 <<< 2 % 2 ^ 64 ^^^ w2 <<< 7 % 2 ^ 64 ^^^ tw w3 ^^^ tw w3 <<< 1 % 2 ^ 64 ^^^ tw w3 <<< 2 % 2 ^ 64 ^^^ tw w3 <<< 7 % 2 ^ 64
def W (w3 w2 w1 w0 : Nat) : Nat := J w3 w2 <<< 128 ^^^ J w1 w0

def h3 (w : Nat) : Nat := w ^^^ w <<< 1 % 2 ^ 64 ^^^ w <<< 2 % 2 ^ 64 ^^^ w <<< 7 % 2 ^ 64
def h2 (w : Nat) : Nat := w >>> 63 ^^^ w >>> 62 ^^^ w >>> 57
theorem h3_xor (a b : Nat) : h3 (a ^^^ b) = h3 a ^^^ h3 b := by
  unfold h3; simp only [Nat.shiftLeft_xor_distrib, Nat.xor_mod_two_pow]; ac_rfl
theorem h2_xor (a b : Nat) : h2 (a ^^^ b) = h2 a ^^^ h2 b := by
  unfold h2; simp only [Nat.shiftRight_xor_distrib]; ac_rfl
theorem zh_eq (w3 w2 w1 : Nat) (hw2 : w2 < 2 ^ 64) : zh w3 w2 w1 = w1 ^^^ (h3 w3 ^^^ h2 w2) := by
  unfold zh h3 h2
  rw [show w2 >>> 63 = w2 >>> (64 - 1) from rfl, show w2 >>> 62 = w2 >>> (64 - 2) from rfl, show w2 >>> 57 = w2 >>> (64 - 7) from rfl, or_xor _ _ 1 (by omega) hw2, or_xor _ _ 2 (by omega) hw2, or_xor _ _ 7 (by omega) hw2]
  generalize w2 >>> (64 - 1) = p1; generalize w2 >>> (64 - 2) = p2; generalize w2 >>> (64 - 7) = p3
  generalize w3 <<< 1 % 2 ^ 64 = q1; generalize w3 <<< 2 % 2 ^ 64 = q2; generalize w3 <<< 7 % 2 ^ 64 = q3
  ac_rfl
theorem zl_eq (w3 w2 w0 : Nat) : zl w3 w2 w0 = w0 ^^^ (h3 (h2 w3) ^^^ h3 w2) := by
  unfold zl h3
  rw [show tw w3 = h2 w3 from rfl]
  generalize h2 w3 = t
  generalize w2 <<< 1 % 2 ^ 64 = p1; generalize w2 <<< 2 % 2 ^ 64 = p2; generalize w2 <<< 7 % 2 ^ 64 = p3
  generalize t <<< 1 % 2 ^ 64 = q1; generalize t <<< 2 % 2 ^ 64 = q2; generalize t <<< 7 % 2 ^ 64 = q3
  ac_rfl

theorem J_xor_z1 (a b : Nat) : J (a ^^^ b) 0 = J a 0 ^^^ J b 0 := by rw [← J_xor]; simp
theorem J_xor_z2 (a b : Nat) : J 0 (a ^^^ b) = J 0 a ^^^ J 0 b := by rw [← J_xor]; simp

theorem fold3 (w : Nat) (hw : w < 2 ^ 64) : J (h3 w) (h3 (h2 w)) = Red (J w 0 <<< 128) :=
  lin (fun w => J (h3 w) (h3 (h2 w))) (fun w => Red (J w 0 <<< 128)) (fun a b => by simp only [h3_xor, h2_xor, J_xor])
    (fun a b => by simp only [J_xor_z1, Nat.shiftLeft_xor_distrib, Red_xor]) 64 (by decide +kernel) w hw
theorem fold2 (w : Nat) (hw : w < 2 ^ 64) : J (h2 w) (h3 w) = Red (J 0 w <<< 128) :=
  lin (fun w => J (h2 w) (h3 w)) (fun w => Red (J 0 w <<< 128)) (fun a b => by simp only [h3_xor, h2_xor, J_xor])
    (fun a b => by simp only [J_xor_z2, Nat.shiftLeft_xor_distrib, Red_xor]) 64 (by decide +kernel) w hw

theorem fold_eq (w3 w2 w1 w0 : Nat) (b3 : w3 < 2 ^ 64) (b2 : w2 < 2 ^ 64) (b1 : w1 < 2 ^ 64) (b0 : w0 < 2 ^ 64) :
    J (zh w3 w2 w1) (zl w3 w2 w0) = Red (W w3 w2 w1 w0) := by
  have e : J w3 w2 = J w3 0 ^^^ J 0 w2 := by rw [← J_xor]; simp
  rw [zh_eq w3 w2 w1 b2, zl_eq, J_xor, J_xor, fold3 w3 b3, fold2 w2 b2, W, Red_xor, e, Nat.shiftLeft_xor_distrib, Red_xor, Red_small _ (J_lt _ _ b1 b0), Nat.xor_comm]

def mh (xh xl yh yl : Nat) : Nat := clh (xh ^^^ xl) (yh ^^^ yl) ^^^ (clh xh yh ^^^ clh xl yl)
def ml (xh xl yh yl : Nat) : Nat := cll (xh ^^^ xl) (yh ^^^ yl) ^^^ (cll xh yh ^^^ cll xl yl)

theorem mid (a b c d : Nat) : a ^^^ b ^^^ (c ^^^ d) ^^^ (a ^^^ d) = b ^^^ c := by
  have : a ^^^ b ^^^ (c ^^^ d) ^^^ (a ^^^ d) = a ^^^ (a ^^^ (d ^^^ (d ^^^ (b ^^^ c)))) := by ac_rfl
  rw [this, xx, xx]

theorem J_mid (a b : Nat) : J 0 a <<< 128 ^^^ J b 0 = J a b <<< 64 := by
  have e1 : J 0 a = a := by unfold J; rw [Nat.zero_shiftLeft, Nat.zero_xor]
  have e2 : J b 0 = b <<< 64 := by unfold J; rw [Nat.xor_zero]
  rw [e1, e2]
  unfold J
  rw [Nat.shiftLeft_xor_distrib, ← Nat.shiftLeft_add]

theorem kara_ac (p q r B : Nat) : p ^^^ B ^^^ (q ^^^ r) = q ^^^ B ^^^ (p ^^^ r) := by ac_rfl

theorem kara (xh xl yh yl : Nat) (b1 : xh < 2 ^ 64) (b2 : xl < 2 ^ 64) (b3 : yh < 2 ^ 64) (b4 : yl < 2 ^ 64) :
    W (clh xh yh) (cll xh yh ^^^ mh xh xl yh yl) (clh xl yl ^^^ ml xh xl yh yl) (cll xl yl) = cl 128 (J xh xl) (J yh yl) := by
  have eM : J (mh xh xl yh yl) (ml xh xl yh yl) = cl 64 xh yl ^^^ cl 64 xl yh := by
    unfold mh ml
    rw [J_xor, J_xor, clmul_eq _ _ (Nat.xor_lt_two_pow b1 b2) (Nat.xor_lt_two_pow b3 b4), clmul_eq _ _ b1 b3, clmul_eq _ _ b2 b4, cl_xor_left, cl_xor_right, cl_xor_right]
    exact mid _ _ _ _
  have eP : cl 128 (J xh xl) (J yh yl) = cl 64 (J xh xl) yl ^^^ (cl 64 (J xh xl) yh) <<< 64 := by
    have e := cl_add 64 64 (J xh xl) (J yh yl)
    have e' : cl 64 (J xh xl) (J yh yl) = cl 64 (J xh xl) yl := cl_congr _ _ _ _ (fun t ht => by rw [J_bit _ _ _ b4, if_pos ht])
    rw [J_hi _ _ b4, e'] at e
    exact e
  rw [eP]
  unfold W
  have f1 : ∀ y, cl 64 (J xh xl) y = (cl 64 xh y) <<< 64 ^^^ cl 64 xl y := by
    intro y; rw [show J xh xl = xh <<< 64 ^^^ xl from rfl, cl_xor_left, cl_shl]
  rw [f1, f1, ← clmul_eq xh yh b1 b3, ← clmul_eq xl yl b2 b4]
  have f2 : J (clh xh yh) (cll xh yh ^^^ mh xh xl yh yl) = J (clh xh yh) (cll xh yh) ^^^ J 0 (mh xh xl yh yl) := by rw [← J_xor]; simp
  have f3 : J (clh xl yl ^^^ ml xh xl yh yl) (cll xl yl) = J (clh xl yl) (cll xl yl) ^^^ J (ml xh xl yh yl) 0 := by rw [← J_xor]; simp
  have f4 : J 0 (mh xh xl yh yl) <<< 128 ^^^ J (ml xh xl yh yl) 0 = (J (mh xh xl yh yl) (ml xh xl yh yl)) <<< 64 := by
    exact J_mid _ _
  rw [f2, f3, Nat.shiftLeft_xor_distrib, xor4, f4, eM, Nat.shiftLeft_xor_distrib, Nat.shiftLeft_xor_distrib, ← Nat.shiftLeft_add]
  exact kara_ac _ _ _ _

/-- ████ THE PLAIN LAW ████: mul128's two words are the model's. -/
theorem plain (xh xl yh yl : Nat) (b1 : xh < 2 ^ 64) (b2 : xl < 2 ^ 64) (b3 : yh < 2 ^ 64) (b4 : yl < 2 ^ 64) :
    J (zh (clh xh yh) (cll xh yh ^^^ mh xh xl yh yl) (clh xl yl ^^^ ml xh xl yh yl)) (zl (clh xh yh) (cll xh yh ^^^ mh xh xl yh yl) (cll xl yl)) = hor (J xh xl) (J yh yl) 128 := by
  have m1 : mh xh xl yh yl < 2 ^ 64 := Nat.xor_lt_two_pow (clh_lt _ _) (Nat.xor_lt_two_pow (clh_lt _ _) (clh_lt _ _))
  have m2 : ml xh xl yh yl < 2 ^ 64 := Nat.xor_lt_two_pow (cll_lt _ _) (Nat.xor_lt_two_pow (cll_lt _ _) (cll_lt _ _))
  rw [fold_eq _ _ _ _ (clh_lt _ _) (Nat.xor_lt_two_pow (cll_lt _ _) m1) (Nat.xor_lt_two_pow (clh_lt _ _) m2) (cll_lt _ _), kara _ _ _ _ b1 b2 b3 b4, hor_all _ _ (J_lt _ _ b1 b2)]

end Go.Proofs.YbulkdmycDoor.Gf
