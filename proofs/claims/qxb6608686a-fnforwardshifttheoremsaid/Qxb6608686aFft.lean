/-
  PLAIN MATHEMATICS, no Go in sight: the number-theoretic transform by stages answers the transform's sums at reversed offsets.
-/
namespace Go.Proofs.Qxb6608686a.Fft

/-- The field's prime. A plain definition, so that nothing counts it up. -/
def P : Int := 2013265921
theorem P_eq : P = 2013265921 := rfl
theorem P_pos : 0 < P := by rw [P_eq]; omega

/-! ### Congruence -/
def cg (a b : Int) : Prop := a % P = b % P
theorem cg.refl (a : Int) : cg a a := rfl
theorem cg.symm {a b : Int} (h : cg a b) : cg b a := Eq.symm h
theorem cg.trans {a b c : Int} (h : cg a b) (k : cg b c) : cg a c := Eq.trans h k
theorem cg.add {a b c d : Int} (h : cg a b) (k : cg c d) : cg (a + c) (b + d) := by
  unfold cg at *; rw [Int.add_emod, h, k, ← Int.add_emod]
theorem cg.sub {a b c d : Int} (h : cg a b) (k : cg c d) : cg (a - c) (b - d) := by
  unfold cg at *; rw [Int.sub_emod, h, k, ← Int.sub_emod]
theorem cg.mul {a b c d : Int} (h : cg a b) (k : cg c d) : cg (a * c) (b * d) := by
  unfold cg at *; rw [Int.mul_emod, h, k, ← Int.mul_emod]
theorem cg.mod (a : Int) : cg (a % P) a := by unfold cg; exact Int.emod_emod a P
theorem cg.pow {a b : Int} (h : cg a b) : ∀ n : Nat, cg (a ^ n) (b ^ n)
  | 0 => by rw [Int.pow_zero, Int.pow_zero]; exact cg.refl _
  | n + 1 => by rw [Int.pow_succ, Int.pow_succ]; exact (cg.pow h n).mul h
theorem cg.emod {a b : Int} (h : cg a b) : a % P = b % P := h
theorem mod_lt (a : Int) : 0 ≤ a % P ∧ a % P < P := ⟨Int.emod_nonneg _ (by have := P_pos; omega), Int.emod_lt_of_pos _ P_pos⟩
theorem mod_small {a : Int} (h0 : 0 ≤ a) (h1 : a < P) : a % P = a := Int.emod_eq_of_lt h0 h1
theorem cg_eq {a b : Int} (h : cg a b) (a0 : 0 ≤ a) (a1 : a < P) (b0 : 0 ≤ b) (b1 : b < P) : a = b := by
  have := h.emod
  rwa [mod_small a0 a1, mod_small b0 b1] at this

/-! ### Sums -/
def sm : Nat → (Nat → Int) → Int
  | 0, _ => 0
  | n + 1, f => sm n f + f n
theorem sm_cg {f g : Nat → Int} : ∀ n, (∀ i, i < n → cg (f i) (g i)) → cg (sm n f) (sm n g)
  | 0, _ => cg.refl _
  | n + 1, h => (sm_cg n (fun i hi => h i (by omega))).add (h n (by omega))
theorem sm_eq {f g : Nat → Int} : ∀ n, (∀ i, i < n → f i = g i) → sm n f = sm n g
  | 0, _ => rfl
  | n + 1, h => by rw [sm, sm, sm_eq n (fun i hi => h i (by omega)), h n (by omega)]
theorem sm_double (f : Nat → Int) : ∀ n, sm (2 * n) f = sm n (fun i => f (2 * i)) + sm n (fun i => f (2 * i + 1))
  | 0 => rfl
  | n + 1 => by
    rw [show 2 * (n + 1) = 2 * n + 1 + 1 by omega, sm, sm, sm_double f n, sm, sm]
    omega
theorem sm_mul (c : Int) (f : Nat → Int) : ∀ n, sm n (fun i => c * f i) = c * sm n f
  | 0 => by simp [sm]
  | n + 1 => by rw [sm, sm, sm_mul c f n, Int.mul_add]
theorem sm_sub (f g : Nat → Int) : ∀ n, sm n (fun i => f i - g i) = sm n f - sm n g
  | 0 => rfl
  | n + 1 => by rw [sm, sm, sm, sm_sub f g n]; omega
theorem sm_first (f : Nat → Int) : ∀ n, sm (n + 1) f = f 0 + sm n (fun i => f (i + 1))
  | 0 => by simp [sm]
  | n + 1 => by rw [sm, sm_first f n, sm]; omega

/-! ### Reversed bits -/
def rv : Nat → Nat → Nat
  | 0, _ => 0
  | t + 1, q => rv t (q / 2) + 2 ^ t * (q % 2)
/-- What 'zzRev' reckons: i rounds. -/
def rvr (k : Nat) : Nat → Nat
  | 0 => 0
  | i + 1 => 2 * rvr k i + (k / 2 ^ i) % 2
theorem rv_even (t q : Nat) : rv (t + 1) (2 * q) = rv t q := by
  rw [rv, show 2 * q / 2 = q by omega, show 2 * q % 2 = 0 by omega]; omega
theorem rv_odd (t q : Nat) : rv (t + 1) (2 * q + 1) = rv t q + 2 ^ t := by
  rw [rv, show (2 * q + 1) / 2 = q by omega, show (2 * q + 1) % 2 = 1 by omega]; omega
theorem rv_rvr (k : Nat) : ∀ i, rv i (rvr k i) = k % 2 ^ i
  | 0 => by simp [rv, Nat.mod_one]
  | i + 1 => by
    have h2 : (k / 2 ^ i) % 2 < 2 := Nat.mod_lt _ (by omega)
    rw [rvr, rv, show (2 * rvr k i + k / 2 ^ i % 2) / 2 = rvr k i by omega, show (2 * rvr k i + k / 2 ^ i % 2) % 2 = k / 2 ^ i % 2 by omega, rv_rvr k i, Nat.pow_succ, Nat.mod_mul]
theorem rvr_lt (k : Nat) : ∀ i, rvr k i < 2 ^ i
  | 0 => by simp [rvr]
  | i + 1 => by
    have h2 : (k / 2 ^ i) % 2 < 2 := Nat.mod_lt _ (by omega)
    have := rvr_lt k i
    rw [rvr, Nat.pow_succ]; omega
theorem rv_zero : ∀ t, rv t 0 = 0
  | 0 => rfl
  | t + 1 => by rw [rv]; simp [rv_zero t]

/-! ### The generator -/
def sqn : Nat → Nat → Nat
  | 0, x => x
  | n + 1, x => sqn n (x * x % 2013265921)
theorem sqn_cg : ∀ (n x : Nat), cg (sqn n x) ((x : Int) ^ (2 ^ n))
  | 0, x => by rw [sqn, Nat.pow_zero, Int.pow_succ, Int.pow_zero, Int.one_mul]; exact cg.refl _
  | n + 1, x => by
    rw [sqn]
    refine (sqn_cg n _).trans ?_
    have e : ((x : Int)) ^ (2 ^ (n + 1)) = ((x : Int) * x) ^ (2 ^ n) := by
      rw [Nat.pow_succ, Nat.mul_comm (2 ^ n) 2, Int.pow_mul, Int.pow_succ, Int.pow_succ, Int.pow_zero, Int.one_mul]
    rw [e]
    refine cg.pow ?_ _
    have : ((x * x % 2013265921 : Nat) : Int) = ((x : Int) * x) % P := by rw [P_eq]; simp
    rw [this]
    exact cg.mod _
theorem sq26 : sqn 26 (31 ^ 15) = 2013265920 := by decide +kernel
theorem gen_half : cg ((31 : Int) ^ 1006632960) (-1) := by
  have h := sqn_cg 26 (31 ^ 15)
  rw [sq26] at h
  have e : (((31 : Nat) ^ 15 : Nat) : Int) ^ (2 ^ 26) = (31 : Int) ^ 1006632960 := by
    rw [Int.natCast_pow, ← Int.pow_mul]; rfl
  rw [e] at h
  refine h.symm.trans ?_
  unfold cg; rw [P_eq]; decide

/-- The root of order n that the law names. -/
def om (n : Nat) : Int := if n ≤ 1 then 1 else (31 : Int) ^ (2013265920 / n) % P
/-- The root of order 2h that the table is made of. -/
def wr (h : Nat) : Int := (31 : Int) ^ (2013265920 / (2 * h)) % P
theorem om_bd (n : Nat) : 0 ≤ om n ∧ om n < P := by
  unfold om; split
  · rw [P_eq]; omega
  · exact mod_lt _
theorem wr_bd (h : Nat) : 0 ≤ wr h ∧ wr h < P := mod_lt _

theorem pow_pred (c : Nat) (h : 1 ≤ c) : 2 ^ c = 2 * 2 ^ (c - 1) := by
  obtain ⟨d, rfl⟩ : ∃ d, c = d + 1 := ⟨c - 1, by omega⟩
  rw [Nat.pow_succ, show d + 1 - 1 = d by omega, Nat.mul_comm]

theorem div_pow (b : Nat) (hb : b ≤ 27) : 2013265920 / 2 ^ b = 15 * 2 ^ (27 - b) := by
  have : 2013265920 = 15 * 2 ^ (27 - b) * 2 ^ b := by
    rw [Nat.mul_assoc, ← Nat.pow_add, show 27 - b + b = 27 by omega]
  rw [this]
  exact Nat.mul_div_cancel _ (Nat.pow_pos (by omega))
theorem om_half (b : Nat) (hb : 1 ≤ b) (hb' : b ≤ 27) : cg (om (2 ^ b) ^ (2 ^ (b - 1))) (-1) := by
  have h1 : ¬ 2 ^ b ≤ 1 := by
    have : 2 ^ 1 ≤ 2 ^ b := Nat.pow_le_pow_right (by omega) hb
    omega
  unfold om
  rw [if_neg h1]
  refine ((cg.mod _).pow _).trans ?_
  rw [← Int.pow_mul, div_pow b hb', Nat.mul_assoc, ← Nat.pow_add, show 27 - b + (b - 1) = 26 by omega]
  exact gen_half
theorem om_full (b : Nat) (hb' : b ≤ 27) : cg (om (2 ^ b) ^ (2 ^ b)) 1 := by
  rcases Nat.eq_zero_or_pos b with rfl | hb
  · simp [om, cg]
  · have h := om_half b hb hb'
    have e : om (2 ^ b) ^ (2 ^ b) = om (2 ^ b) ^ (2 ^ (b - 1)) * om (2 ^ b) ^ (2 ^ (b - 1)) := by
      rw [← Int.pow_add]
      congr 1
      have := pow_pred b hb
      omega
    rw [e]
    exact h.mul h
/-- The table's root is a power of the law's. -/
theorem wr_om (b t : Nat) (ht : t < b) (hb : b ≤ 27) : cg (wr (2 ^ (b - t - 1))) (om (2 ^ b) ^ (2 ^ t)) := by
  have h1 : ¬ 2 ^ b ≤ 1 := by
    have : 2 ^ 1 ≤ 2 ^ b := Nat.pow_le_pow_right (by omega) (by omega)
    omega
  have e2 : 2 * 2 ^ (b - t - 1) = 2 ^ (b - t) := by
    exact (pow_pred (b - t) (by omega)).symm
  unfold wr om
  rw [if_neg h1, e2]
  refine (cg.mod _).trans (cg.trans ?_ ((cg.mod _).pow _).symm)
  rw [← Int.pow_mul, div_pow b hb, div_pow (b - t) (by omega), Nat.mul_assoc, ← Nat.pow_add, show 27 - b + t = 27 - (b - t) by omega]
  exact cg.refl _

/-! ### The stages -/
/-- What offset x holds behind t stages over 2^b points. -/
def st (a : Nat → Int) (b t x : Nat) : Int :=
  sm (2 ^ t) (fun i => a (x % 2 ^ (b - t) + i * 2 ^ (b - t)) * om (2 ^ b) ^ ((x % 2 ^ (b - t) + i * 2 ^ (b - t)) * rv t (x / 2 ^ (b - t)))) % P
theorem st_bd (a : Nat → Int) (b t x : Nat) : 0 ≤ st a b t x ∧ st a b t x < P := mod_lt _
theorem st_zero (a : Nat → Int) (b x : Nat) (hx : x < 2 ^ b) (ha : 0 ≤ a x ∧ a x < P) : st a b 0 x = a x := by
  unfold st
  rw [Nat.sub_zero, Nat.mod_eq_of_lt hx, Nat.pow_zero, sm, sm, Nat.zero_mul, Nat.add_zero, rv, Nat.mul_zero, Int.pow_zero, Int.mul_one, Int.zero_add]
  exact mod_small ha.1 ha.2
theorem st_last (a : Nat → Int) (b x : Nat) : st a b b x = sm (2 ^ b) (fun i => a i * om (2 ^ b) ^ (i * rv b x)) % P := by
  unfold st
  rw [Nat.sub_self, Nat.pow_zero, Nat.mod_one, Nat.div_one]
  congr 1
  exact sm_eq _ (fun i _ => by rw [Nat.zero_add, Nat.mul_one])


section
variable (a : Nat → Int) (b t q j : Nat)

theorem pow_split (ht : t < b) : 2 ^ (b - t) = 2 * 2 ^ (b - t - 1) := by
  exact pow_pred (b - t) (by omega)

/-- The sum of one place, unreduced. -/
def ts (a : Nat → Int) (w : Int) (n m r e : Nat) : Int := sm n (fun i => a (r + i * m) * w ^ ((r + i * m) * e))

theorem st_lo (ht : t < b) (hj : j < 2 ^ (b - t - 1)) : st a b t (2 ^ (b - t) * q + j) = ts a (om (2 ^ b)) (2 ^ t) (2 * 2 ^ (b - t - 1)) j (rv t q) % P := by
  have e := pow_split b t ht
  unfold st ts
  have h1 : (2 ^ (b - t) * q + j) % 2 ^ (b - t) = j := by rw [Nat.mul_add_mod]; exact Nat.mod_eq_of_lt (by omega)
  have h2 : (2 ^ (b - t) * q + j) / 2 ^ (b - t) = q := by rw [Nat.mul_add_div (Nat.pow_pos (by omega)), Nat.div_eq_of_lt (by omega)]; omega
  rw [h1, h2, e]
theorem st_hi (ht : t < b) (hj : j < 2 ^ (b - t - 1)) : st a b t (2 ^ (b - t) * q + 2 ^ (b - t - 1) + j) = ts a (om (2 ^ b)) (2 ^ t) (2 * 2 ^ (b - t - 1)) (2 ^ (b - t - 1) + j) (rv t q) % P := by
  have e := pow_split b t ht
  unfold st ts
  rw [Nat.add_assoc]
  have h1 : (2 ^ (b - t) * q + (2 ^ (b - t - 1) + j)) % 2 ^ (b - t) = 2 ^ (b - t - 1) + j := by rw [Nat.mul_add_mod]; exact Nat.mod_eq_of_lt (by omega)
  have h2 : (2 ^ (b - t) * q + (2 ^ (b - t - 1) + j)) / 2 ^ (b - t) = q := by rw [Nat.mul_add_div (Nat.pow_pos (by omega)), Nat.div_eq_of_lt (by omega)]; omega
  rw [h1, h2, e]
theorem st_lo' (ht : t < b) (hj : j < 2 ^ (b - t - 1)) : st a b (t + 1) (2 ^ (b - t) * q + j) = ts a (om (2 ^ b)) (2 * 2 ^ t) (2 ^ (b - t - 1)) j (rv t q) % P := by
  have e := pow_split b t ht
  unfold st ts
  rw [show b - (t + 1) = b - t - 1 by omega]
  have h0 : 2 ^ (b - t) * q = 2 ^ (b - t - 1) * (2 * q) := by rw [e, Nat.mul_comm 2, Nat.mul_assoc]
  have h1 : (2 ^ (b - t) * q + j) % 2 ^ (b - t - 1) = j := by rw [h0, Nat.mul_add_mod]; exact Nat.mod_eq_of_lt (by omega)
  have h2 : (2 ^ (b - t) * q + j) / 2 ^ (b - t - 1) = 2 * q := by rw [h0, Nat.mul_add_div (Nat.pow_pos (by omega)), Nat.div_eq_of_lt (by omega)]; omega
  rw [h1, h2, rv_even, Nat.pow_succ, Nat.mul_comm (2 ^ t) 2]
theorem st_hi' (ht : t < b) (hj : j < 2 ^ (b - t - 1)) : st a b (t + 1) (2 ^ (b - t) * q + 2 ^ (b - t - 1) + j) = ts a (om (2 ^ b)) (2 * 2 ^ t) (2 ^ (b - t - 1)) j (rv t q + 2 ^ t) % P := by
  have e := pow_split b t ht
  unfold st ts
  rw [show b - (t + 1) = b - t - 1 by omega]
  have h0 : 2 ^ (b - t) * q + 2 ^ (b - t - 1) + j = 2 ^ (b - t - 1) * (2 * q + 1) + j := by
    rw [e, Nat.mul_add, Nat.mul_one, Nat.mul_comm 2, Nat.mul_assoc]
  have h1 : (2 ^ (b - t) * q + 2 ^ (b - t - 1) + j) % 2 ^ (b - t - 1) = j := by rw [h0, Nat.mul_add_mod]; exact Nat.mod_eq_of_lt (by omega)
  have h2 : (2 ^ (b - t) * q + 2 ^ (b - t - 1) + j) / 2 ^ (b - t - 1) = 2 * q + 1 := by rw [h0, Nat.mul_add_div (Nat.pow_pos (by omega)), Nat.div_eq_of_lt (by omega)]
  rw [h1, h2, rv_odd, Nat.pow_succ, Nat.mul_comm (2 ^ t) 2]
end

/-- The sum's two halves. -/
theorem ts_add (a : Nat → Int) (w : Int) (n h r e : Nat) : ts a w (2 * n) h r e = ts a w n (2 * h) r e + ts a w n (2 * h) (h + r) e := by
  unfold ts
  rw [sm_double]
  congr 1
  · exact sm_eq _ (fun i _ => by rw [show 2 * i * h = i * (2 * h) by rw [Nat.mul_comm 2 i, Nat.mul_assoc]])
  · exact sm_eq _ (fun i _ => by
      have : r + (2 * i + 1) * h = h + r + i * (2 * h) := by rw [Nat.add_mul, Nat.mul_comm 2 i, Nat.mul_assoc]; omega
      rw [this])
/-- .. at the other half of the exponents. -/
theorem ts_sub (a : Nat → Int) (w : Int) (n h r e : Nat) (hw : cg (w ^ (h * n)) (-1)) : cg (ts a w (2 * n) h r (e + n)) ((ts a w n (2 * h) r e - ts a w n (2 * h) (h + r) e) * (w ^ n) ^ r) := by
  have hw2 : cg (w ^ (2 * h * n)) 1 := by
    have : w ^ (2 * h * n) = w ^ (h * n) * w ^ (h * n) := by rw [← Int.pow_add]; congr 1; rw [Nat.mul_assoc, Nat.two_mul]
    rw [this]; exact hw.mul hw
  rw [ts_add, Int.sub_mul]
  have l : cg (ts a w n (2 * h) r (e + n)) (ts a w n (2 * h) r e * (w ^ n) ^ r) := by
    unfold ts
    rw [Int.mul_comm, ← sm_mul]
    refine sm_cg _ (fun i _ => ?_)
    have e1 : w ^ ((r + i * (2 * h)) * (e + n)) = w ^ ((r + i * (2 * h)) * e) * ((w ^ n) ^ r * (w ^ (2 * h * n)) ^ i) := by
      rw [← Int.pow_mul, ← Int.pow_mul, ← Int.pow_add, ← Int.pow_add]
      congr 1
      have p1 : i * (2 * h) * n = 2 * h * n * i := by rw [Nat.mul_comm i, Nat.mul_right_comm]
      rw [Nat.mul_add]
      congr 1
      rw [Nat.add_mul, Nat.mul_comm r n, p1]
    rw [e1]
    have e2 : cg ((w ^ (2 * h * n)) ^ i) 1 := by have := hw2.pow i; rwa [Int.one_pow] at this
    refine (((cg.refl (a (r + i * (2 * h)))).mul ((cg.refl (w ^ ((r + i * (2 * h)) * e))).mul ((cg.refl ((w ^ n) ^ r)).mul e2)))).trans ?_
    rw [Int.mul_one, Int.mul_comm ((w ^ n) ^ r), Int.mul_assoc]
    exact cg.refl _
  have rr : cg (ts a w n (2 * h) (h + r) (e + n)) (- (ts a w n (2 * h) (h + r) e * (w ^ n) ^ r)) := by
    unfold ts
    rw [Int.mul_comm, ← Int.neg_mul, ← sm_mul]
    refine sm_cg _ (fun i _ => ?_)
    have e1 : w ^ ((h + r + i * (2 * h)) * (e + n)) = w ^ ((h + r + i * (2 * h)) * e) * ((w ^ n) ^ r * (w ^ (h * n) * (w ^ (2 * h * n)) ^ i)) := by
      rw [← Int.pow_mul, ← Int.pow_mul, ← Int.pow_add, ← Int.pow_add, ← Int.pow_add]
      congr 1
      have p1 : i * (2 * h) * n = 2 * h * n * i := by rw [Nat.mul_comm i, Nat.mul_right_comm]
      rw [Nat.mul_add]
      congr 1
      rw [Nat.add_mul (h + r), Nat.add_mul h r n, Nat.mul_comm r n, p1]
      omega
    rw [e1]
    have e2 : cg ((w ^ (2 * h * n)) ^ i) 1 := by have := hw2.pow i; rwa [Int.one_pow] at this
    refine (((cg.refl (a (h + r + i * (2 * h)))).mul ((cg.refl (w ^ ((h + r + i * (2 * h)) * e))).mul ((cg.refl ((w ^ n) ^ r)).mul (hw.mul e2))))).trans ?_
    have : a (h + r + i * (2 * h)) * (w ^ ((h + r + i * (2 * h)) * e) * ((w ^ n) ^ r * (-1 * 1))) = -(w ^ n) ^ r * (a (h + r + i * (2 * h)) * w ^ ((h + r + i * (2 * h)) * e)) := by
      rw [Int.mul_one, Int.mul_neg, Int.mul_one, Int.mul_neg, Int.mul_neg, Int.neg_mul]
      congr 1
      rw [← Int.mul_assoc, Int.mul_comm]
    rw [this]
    exact cg.refl _
  have := l.add rr
  rw [← Int.sub_eq_add_neg] at this
  exact this

/-- ONE BUTTERFLY, its upper half. -/
theorem st_add (a : Nat → Int) (b t q j : Nat) (ht : t < b) (hj : j < 2 ^ (b - t - 1)) :
    st a b (t + 1) (2 ^ (b - t) * q + j) = (st a b t (2 ^ (b - t) * q + j) + st a b t (2 ^ (b - t) * q + 2 ^ (b - t - 1) + j)) % P := by
  rw [st_lo' a b t q j ht hj, st_lo a b t q j ht hj, st_hi a b t q j ht hj, ts_add]
  exact ((cg.mod _).add (cg.mod _)).symm
/-- ONE BUTTERFLY, its lower half. -/
theorem st_mul (a : Nat → Int) (b t q j : Nat) (ht : t < b) (hb : b ≤ 27) (hj : j < 2 ^ (b - t - 1)) :
    st a b (t + 1) (2 ^ (b - t) * q + 2 ^ (b - t - 1) + j) = ((st a b t (2 ^ (b - t) * q + j) - st a b t (2 ^ (b - t) * q + 2 ^ (b - t - 1) + j)) * (wr (2 ^ (b - t - 1)) ^ j % P)) % P := by
  rw [st_hi' a b t q j ht hj, st_lo a b t q j ht hj, st_hi a b t q j ht hj]
  have hw : cg (om (2 ^ b) ^ (2 ^ (b - t - 1) * 2 ^ t)) (-1) := by
    rw [← Nat.pow_add, show b - t - 1 + t = b - 1 by omega]
    exact om_half b (by omega) hb
  refine (ts_sub a (om (2 ^ b)) (2 ^ t) (2 ^ (b - t - 1)) j (rv t q) hw).trans (cg.symm ?_)
  exact ((cg.mod _).sub (cg.mod _)).mul ((cg.mod _).trans ((wr_om b t ht hb).pow j))

/-! ### The laws' sums -/
/-- The k-th sum of the transform, reduced. -/
def dft (a : Nat → Int) (b k : Nat) : Int := sm (2 ^ b) (fun i => a i * om (2 ^ b) ^ (i * k)) % P
theorem st_dft (a : Nat → Int) (b k : Nat) (hk : k < 2 ^ b) : st a b b (rvr k b) = dft a b k := by
  rw [st_last, rv_rvr, Nat.mod_eq_of_lt hk]; rfl

/-- The sequence rotated by one place. -/
def rot (a : Nat → Int) (n : Nat) (j : Nat) : Int := if j = 0 then a (n - 1) else a (j - 1)
theorem dft_rot (a : Nat → Int) (b k : Nat) (hb : b ≤ 27) : dft (rot a (2 ^ b)) b k = (om (2 ^ b) ^ k % P * dft a b k) % P := by
  unfold dft
  have hn : 0 < 2 ^ b := Nat.pow_pos (by omega)
  obtain ⟨n, hn'⟩ : ∃ n, 2 ^ b = n + 1 := ⟨2 ^ b - 1, by omega⟩
  have hfull := om_full b hb
  have e1 : sm (2 ^ b) (fun i => rot a (2 ^ b) i * om (2 ^ b) ^ (i * k)) = a n + om (2 ^ b) ^ k * sm n (fun i => a i * om (2 ^ b) ^ (i * k)) := by
    rw [hn', sm_first, ← sm_mul]
    congr 1
    · simp [rot]
    · refine sm_eq _ (fun i _ => ?_)
      rw [rot, if_neg (by omega), show i + 1 - 1 = i by omega, Nat.add_mul, Nat.one_mul, Int.pow_add]
      rw [← Int.mul_assoc, Int.mul_comm]
  rw [e1]
  have e2 : cg (om (2 ^ b) ^ k * sm (2 ^ b) (fun i => a i * om (2 ^ b) ^ (i * k))) (a n + om (2 ^ b) ^ k * sm n (fun i => a i * om (2 ^ b) ^ (i * k))) := by
    have : sm (2 ^ b) (fun i => a i * om (2 ^ b) ^ (i * k)) = sm n (fun i => a i * om (2 ^ b) ^ (i * k)) + a n * om (2 ^ b) ^ (n * k) := by
      have h : ∀ m, m = n + 1 → sm m (fun i => a i * om (2 ^ b) ^ (i * k)) = sm n (fun i => a i * om (2 ^ b) ^ (i * k)) + a n * om (2 ^ b) ^ (n * k) := fun m hm => by subst hm; rfl
      exact h _ hn'
    rw [this, Int.mul_add, Int.add_comm]
    refine cg.add ?_ (cg.refl _)
    have e3 : om (2 ^ b) ^ k * (a n * om (2 ^ b) ^ (n * k)) = a n * (om (2 ^ b) ^ (2 ^ b)) ^ k := by
      rw [← Int.mul_assoc, Int.mul_comm (om (2 ^ b) ^ k), Int.mul_assoc, ← Int.pow_add, ← Int.pow_mul]
      congr 2
      rw [hn', Nat.add_mul, Nat.one_mul, Nat.add_comm]
    rw [e3]
    have := (cg.refl (a n)).mul (hfull.pow k)
    rwa [Int.one_pow, Int.mul_one] at this
  exact (e2.symm.trans ((cg.mod _).mul (cg.mod _)).symm)
theorem dft_zero (a : Nat → Int) (b : Nat) : dft a b 0 = sm (2 ^ b) a % P := by
  unfold dft
  congr 1
  exact sm_eq _ (fun i _ => by rw [Nat.mul_zero, Int.pow_zero, Int.mul_one])
theorem rvr_zero : ∀ i, rvr 0 i = 0
  | 0 => rfl
  | i + 1 => by rw [rvr, rvr_zero i]; simp

end Go.Proofs.Qxb6608686a.Fft
