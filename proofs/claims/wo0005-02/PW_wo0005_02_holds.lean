import PyProof.Rows.All
import Wide.All
import OpenK.AllK
import Wide.FinOn
import PySem.Challenge.RW_wo0005_02
set_option Elab.async false
set_option autoImplicit false
section
namespace Mine

def bl (n : Nat) : Nat := if n = 0 then 0 else n.log2 + 1
theorem bl_zero : bl 0 = 0 := rfl
theorem bl_le {n k : Nat} : bl n ≤ k ↔ n < 2 ^ k := by
  unfold bl
  by_cases h : n = 0
  · rw [if_pos h, h]; exact ⟨fun _ => Nat.two_pow_pos k, fun _ => Nat.zero_le _⟩
  · rw [if_neg h]
    rw [← Nat.log2_lt h]
    omega
theorem bl_pos {n : Nat} (h : n ≠ 0) : 0 < bl n := by unfold bl; rw [if_neg h]; omega
theorem bl_eq_zero {n : Nat} (h : bl n = 0) : n = 0 := by
  rcases Nat.eq_zero_or_pos n with e | e
  · exact e
  · have := bl_pos (Nat.ne_of_gt e); omega
theorem lt_bl {n k : Nat} : k < bl n ↔ 2 ^ k ≤ n := by
  have := @bl_le n k; omega
theorem bl_eq {n k : Nat} (h1 : 2 ^ k ≤ n) (h2 : n < 2 ^ (k + 1)) : bl n = k + 1 := by
  have a := lt_bl.mpr h1
  have b := bl_le.mpr h2
  omega
theorem bl_half {n : Nat} (h : n ≠ 0) : bl n = bl (n / 2) + 1 := by
  rcases Nat.lt_or_ge n 2 with h1 | h1
  · have : n = 1 := by omega
    subst this; decide
  · have hp := bl_pos (show n / 2 ≠ 0 by omega)
    obtain ⟨k, hk⟩ : ∃ k, bl (n / 2) = k + 1 := ⟨bl (n/2) - 1, by omega⟩
    rw [hk]
    have a := lt_bl.mp (show k < bl (n / 2) by omega)
    have b := bl_le.mp (show bl (n / 2) ≤ k + 1 by omega)
    exact bl_eq (by rw [Nat.pow_succ]; omega) (by rw [Nat.pow_succ]; omega)
theorem bl_double {n : Nat} (h : n ≠ 0) : bl (2 * n) = bl n + 1 := by
  rw [bl_half (show 2 * n ≠ 0 by omega)]; congr 2; omega

theorem xor_lt {x y k : Nat} (hx : x < 2 ^ k) (hy : y < 2 ^ k) : x ^^^ y < 2 ^ k := Nat.xor_lt_two_pow hx hy
theorem bl_xor_le {x y k : Nat} (hx : bl x ≤ k) (hy : bl y ≤ k) : bl (x ^^^ y) ≤ k := bl_le.mpr (xor_lt (bl_le.mp hx) (bl_le.mp hy))
theorem bl_xor_lt {x y : Nat} (h : bl x < bl y) : bl (x ^^^ y) = bl y := by
  have h1 : bl (x ^^^ y) ≤ bl y := bl_xor_le (Nat.le_of_lt h) (Nat.le_refl _)
  rcases Nat.lt_or_ge (bl (x ^^^ y)) (bl y) with h2 | h2
  · obtain ⟨k, hk⟩ : ∃ k, bl y = k + 1 := ⟨bl y - 1, by omega⟩
    have h3 : bl (x ^^^ (x ^^^ y)) ≤ k := bl_xor_le (by omega) (by omega)
    rw [← Nat.xor_assoc, Nat.xor_self, Nat.zero_xor] at h3
    omega
  · omega
theorem bl_xor_lt' {x y : Nat} (h : bl y < bl x) : bl (x ^^^ y) = bl x := by rw [Nat.xor_comm]; exact bl_xor_lt h

theorem two_xor (x y : Nat) : 2 * (x ^^^ y) = (2 * x) ^^^ (2 * y) := by
  have := @Nat.shiftLeft_xor_distrib 1 x y
  simp only [Nat.shiftLeft_eq, Nat.pow_one] at this
  rw [Nat.mul_comm 2, Nat.mul_comm 2, Nat.mul_comm 2]; exact this
theorem pow_xor (x y k : Nat) : (x ^^^ y) * 2 ^ k = (x * 2 ^ k) ^^^ (y * 2 ^ k) := by
  have := @Nat.shiftLeft_xor_distrib k x y
  simpa only [Nat.shiftLeft_eq] using this
theorem xor_half (x y : Nat) : (x ^^^ y) / 2 = x / 2 ^^^ y / 2 := by
  exact Nat.xor_div_two
theorem bit_split (n : Nat) : n = (if n % 2 = 1 then 1 else 0) ^^^ (2 * (n / 2)) := by
  apply Nat.eq_of_testBit_eq
  intro i
  cases i with
  | zero =>
    rw [Nat.testBit_xor]
    by_cases h : n % 2 = 1 <;> simp [h, Nat.testBit_zero]
    
  | succ i =>
    rw [Nat.testBit_xor, Nat.testBit_succ, Nat.testBit_succ, Nat.testBit_succ]
    have : (if n % 2 = 1 then 1 else 0) / 2 = 0 := by split <;> rfl
    rw [this, Nat.zero_testBit, Bool.false_xor]
    congr 1; omega
theorem xor_swap (a b c d : Nat) : (a ^^^ b) ^^^ (c ^^^ d) = (a ^^^ c) ^^^ (b ^^^ d) := by
  rw [Nat.xor_assoc, Nat.xor_assoc, ← Nat.xor_assoc b, Nat.xor_comm b c, Nat.xor_assoc c]
theorem xor_zero_eq {a b : Nat} (h : a ^^^ b = 0) : a = b := by
  have : (a ^^^ b) ^^^ b = b := by rw [h, Nat.zero_xor]
  rwa [Nat.xor_assoc, Nat.xor_self, Nat.xor_zero] at this
theorem xor_cancel (a b : Nat) : (a ^^^ b) ^^^ b = a := by rw [Nat.xor_assoc, Nat.xor_self, Nat.xor_zero]
theorem xor_cancel' (a b : Nat) : a ^^^ (a ^^^ b) = b := by rw [← Nat.xor_assoc, Nat.xor_self, Nat.zero_xor]

/-! the product without carries -/
def cmF : Nat → Nat → Nat → Nat
  | 0, _, _ => 0
  | f + 1, a, b => (if b % 2 = 1 then a else 0) ^^^ (2 * cmF f a (b / 2))
def cm (a b : Nat) : Nat := cmF (b.log2 + 1) a b

theorem cmF_zero (f a : Nat) : cmF f a 0 = 0 := by
  induction f with
  | zero => rfl
  | succ f ih => rw [cmF, if_neg (by decide), Nat.zero_div, ih]; rfl
theorem cmF_eq (a : Nat) : ∀ (f g b : Nat), b < 2 ^ f → b < 2 ^ g → cmF f a b = cmF g a b
  | 0, g, b, h, _ => by have : b = 0 := by simpa using h
                        rw [this, cmF_zero, cmF_zero]
  | f, 0, b, _, h => by have : b = 0 := by simpa using h
                        rw [this, cmF_zero, cmF_zero]
  | f + 1, g + 1, b, h, h' => by
    rw [cmF, cmF, cmF_eq a f g (b / 2) (by rw [Nat.pow_succ] at h; omega) (by rw [Nat.pow_succ] at h'; omega)]
theorem lt_log2 (b : Nat) : b < 2 ^ (b.log2 + 1) := Nat.lt_log2_self
theorem cm_F {a b f : Nat} (h : b < 2 ^ f) : cm a b = cmF f a b := cmF_eq a _ _ b (lt_log2 b) h
theorem cm_step (a b : Nat) : cm a b = (if b % 2 = 1 then a else 0) ^^^ (2 * cm a (b / 2)) := by
  rw [cm, cmF]
  congr 2
  have := lt_log2 b
  exact (cm_F (by rw [Nat.pow_succ] at this; omega)).symm
theorem cm_zero (a : Nat) : cm a 0 = 0 := cmF_zero _ _
theorem cm_one (a : Nat) : cm a 1 = a := by rw [cm_step, if_pos rfl]; show a ^^^ 2 * cm a 0 = a; rw [cm_zero]; simp
theorem zero_cm (b : Nat) : cm 0 b = 0 := by
  induction b using Nat.strongRecOn with
  | _ b ih =>
    by_cases h : b = 0
    · rw [h]; exact cm_zero 0
    · rw [cm_step, ih (b / 2) (by omega)]; simp
theorem cm_xor_left (a a' b : Nat) : cm (a ^^^ a') b = cm a b ^^^ cm a' b := by
  induction b using Nat.strongRecOn with
  | _ b ih =>
    by_cases h : b = 0
    · rw [h]; simp [cm_zero]
    · rw [cm_step, cm_step a b, cm_step a' b, ih (b / 2) (by omega), two_xor, xor_swap]
      congr 1
      split <;> simp
theorem cm_xor_right (a b b' : Nat) : cm a (b ^^^ b') = cm a b ^^^ cm a b' := by
  induction b using Nat.strongRecOn generalizing b' with
  | _ b ih =>
    by_cases h : b = 0
    · rw [h]; simp [cm_zero]
    · rw [cm_step, cm_step a b, cm_step a b', xor_half, ih (b / 2) (by omega), two_xor, xor_swap]
      congr 1
      have : (b ^^^ b') % 2 = (b % 2 + b' % 2) % 2 := by
        have h0 := Nat.xor_mod_two_eq_one (a := b) (b := b')
        rcases Nat.mod_two_eq_zero_or_one b with e | e <;> rcases Nat.mod_two_eq_zero_or_one b' with e' | e' <;> rcases Nat.mod_two_eq_zero_or_one (b ^^^ b') with e2 | e2 <;> simp [e, e', e2] at h0 ⊢
      rw [this]
      rcases Nat.mod_two_eq_zero_or_one b with e | e <;> rcases Nat.mod_two_eq_zero_or_one b' with e' | e' <;> simp [e, e']
theorem cm_two_right (a b : Nat) : cm a (2 * b) = 2 * cm a b := by
  rw [cm_step, if_neg (by omega), Nat.zero_xor]; congr 2; omega
theorem cm_two_left (a b : Nat) : cm (2 * a) b = 2 * cm a b := by
  induction b using Nat.strongRecOn with
  | _ b ih =>
    by_cases h : b = 0
    · rw [h, cm_zero, cm_zero]
    · rw [cm_step, cm_step a b, ih (b / 2) (by omega), two_xor]
      congr 1
      split <;> rfl
theorem cm_pow_right (a b k : Nat) : cm a (b * 2 ^ k) = cm a b * 2 ^ k := by
  induction k with
  | zero => simp
  | succ k ih => rw [Nat.pow_succ, ← Nat.mul_assoc, ← Nat.mul_assoc, Nat.mul_comm _ 2, cm_two_right, ih, Nat.mul_comm 2]
theorem cm_pow (a k : Nat) : cm a (2 ^ k) = a * 2 ^ k := by
  have := cm_pow_right a 1 k
  rwa [Nat.one_mul, cm_one] at this
theorem one_cm (b : Nat) : cm 1 b = b := by
  induction b using Nat.strongRecOn with
  | _ b ih =>
    by_cases h : b = 0
    · rw [h, cm_zero]
    · rw [cm_step, ih (b / 2) (by omega)]; exact (bit_split b).symm
theorem cm_comm (a b : Nat) : cm a b = cm b a := by
  induction b using Nat.strongRecOn with
  | _ b ih =>
    by_cases h : b = 0
    · rw [h, cm_zero, zero_cm]
    · conv => rhs; rw [bit_split b, cm_xor_left, cm_two_left, ← ih (b / 2) (by omega)]
      rw [cm_step]
      congr 1
      split
      · rw [one_cm]
      · rw [zero_cm]
theorem cm_assoc (a b c : Nat) : cm (cm a b) c = cm a (cm b c) := by
  induction c using Nat.strongRecOn with
  | _ c ih =>
    by_cases h : c = 0
    · rw [h, cm_zero, cm_zero, cm_zero]
    · rw [cm_step (cm a b) c, cm_step b c, cm_xor_right, cm_two_right, ih (c / 2) (by omega)]
      congr 1
      split
      · rfl
      · rw [cm_zero]
theorem cm_left_comm (a b c : Nat) : cm a (cm b c) = cm b (cm a c) := by rw [← cm_assoc, cm_comm a b, cm_assoc]
theorem bl_cm {a b : Nat} (ha : a ≠ 0) (hb : b ≠ 0) : bl (cm a b) + 1 = bl a + bl b := by
  induction b using Nat.strongRecOn with
  | _ b ih =>
    by_cases h1 : b = 1
    · rw [h1, cm_one]; rfl
    · have h2 : b / 2 ≠ 0 := by omega
      have e := ih (b / 2) (by omega) h2
      rw [cm_step, bl_half hb]
      have hp := bl_pos ha
      have hp2 := bl_pos h2
      have h3 : cm a (b / 2) ≠ 0 := by
        intro e0; rw [e0, bl_zero] at e; omega
      have e3 := bl_double h3
      rw [bl_xor_lt (by
        have : bl (if b % 2 = 1 then a else 0) ≤ bl a := by split <;> simp [bl_zero]
        omega)]
      omega
theorem cm_ne_zero {a b : Nat} (ha : a ≠ 0) (hb : b ≠ 0) : cm a b ≠ 0 := by
  intro e
  have := bl_cm ha hb
  rw [e, bl_zero] at this
  have := bl_pos ha; have := bl_pos hb
  omega
theorem cm_pow_left (a b k : Nat) : cm (a * 2 ^ k) b = cm a b * 2 ^ k := by rw [cm_comm, cm_pow_right, cm_comm b a]
end Mine
end
section
set_option maxRecDepth 20000
namespace Mine

theorem bl_xor_eq {x y : Nat} (h : bl x = bl y) (h0 : x ≠ 0) : bl (x ^^^ y) < bl x := by
  induction x using Nat.strongRecOn generalizing y with
  | _ x ih =>
    have hp := bl_pos h0
    have hy : y ≠ 0 := by intro e; rw [e, bl_zero] at h; omega
    by_cases h1 : x = 1
    · subst h1
      have e1 : bl 1 = 1 := rfl
      have hy2 : y < 2 ^ 1 := bl_le.mp (by omega)
      have : y = 1 := by omega
      subst this
      decide
    · have h2 : x / 2 ≠ 0 := by omega
      have hx := bl_half h0
      have hy' := bl_half hy
      have e := ih (x / 2) (by omega) (y := y / 2) (by omega) h2
      rw [← xor_half] at e
      by_cases hz : x ^^^ y = 0
      · rw [hz, bl_zero]; omega
      · have := bl_half hz; omega

def CC : Nat := 7976584769
theorem CC_bl : bl CC = 33 := by decide +kernel
theorem CC_ne : CC ≠ 0 := by decide
def Cg (a b : Nat) : Prop := ∃ z, a ^^^ b = cm CC z
theorem Cg.refl (a : Nat) : Cg a a := ⟨0, by rw [Nat.xor_self, cm_zero]⟩
theorem Cg.symm {a b : Nat} (h : Cg a b) : Cg b a := by obtain ⟨z, h⟩ := h; exact ⟨z, by rw [Nat.xor_comm]; exact h⟩
theorem Cg.xor {a b c d : Nat} (h : Cg a b) (g : Cg c d) : Cg (a ^^^ c) (b ^^^ d) := by
  obtain ⟨z, h⟩ := h; obtain ⟨y, g⟩ := g
  exact ⟨z ^^^ y, by rw [xor_swap, h, g, cm_xor_right]⟩
theorem Cg.trans {a b c : Nat} (h : Cg a b) (g : Cg b c) : Cg a c := by
  obtain ⟨z, h⟩ := h; obtain ⟨y, g⟩ := g
  exact ⟨z ^^^ y, by rw [cm_xor_right, ← h, ← g, Nat.xor_assoc, xor_cancel']⟩
theorem Cg.mul {a b : Nat} (c : Nat) (h : Cg a b) : Cg (cm c a) (cm c b) := by
  obtain ⟨z, h⟩ := h
  exact ⟨cm c z, by rw [← cm_xor_right, h, cm_left_comm]⟩
theorem Cg.mul' {a b : Nat} (c : Nat) (h : Cg a b) : Cg (cm a c) (cm b c) := by rw [cm_comm a, cm_comm b]; exact h.mul c
theorem Cg.mul2 {a b c d : Nat} (h : Cg a b) (g : Cg c d) : Cg (cm a c) (cm b d) := (h.mul' c).trans (g.mul b)
theorem Cg.multiple (z : Nat) : Cg (cm CC z) 0 := ⟨z, Nat.xor_zero _⟩
theorem Cg.eq {a b : Nat} (h : Cg a b) (ha : a < 2 ^ 32) (hb : b < 2 ^ 32) : a = b := by
  obtain ⟨z, h⟩ := h
  by_cases hz : z = 0
  · rw [hz, cm_zero] at h; exact xor_zero_eq h
  · have h1 := bl_cm CC_ne hz
    have h2 := bl_xor_le (bl_le.mpr ha) (bl_le.mpr hb)
    have := bl_pos hz
    rw [← h, CC_bl] at h1
    omega
theorem Cg.rd (a : Nat) : ∃ r, r < 2 ^ 32 ∧ Cg a r := by
  generalize hn : bl a = n
  induction n using Nat.strongRecOn generalizing a with
  | _ n ih =>
    rcases Nat.lt_or_ge 32 n with h | h
    · have ha : a ≠ 0 := by intro e; rw [e, bl_zero] at hn; omega
      have e1 : bl (CC * 2 ^ (n - 33)) = n := by
        have := bl_cm (a := CC) (b := 2 ^ (n - 33)) CC_ne (Nat.ne_of_gt (Nat.two_pow_pos _))
        rw [cm_pow, CC_bl, bl_eq (k := n - 33) (Nat.le_refl _) (by rw [Nat.pow_succ]; have := Nat.two_pow_pos (n-33); omega)] at this
        omega
      obtain ⟨r, hr, hc⟩ := ih (bl (a ^^^ CC * 2 ^ (n - 33))) (by have := bl_xor_eq (x := a) (y := CC * 2 ^ (n - 33)) (by rw [e1]; exact hn) ha; omega) _ rfl
      refine ⟨r, hr, Cg.trans ⟨2 ^ (n - 33), ?_⟩ hc⟩
      rw [xor_cancel', cm_pow]
    · exact ⟨a, bl_le.mp (by omega), .refl a⟩

/-! powers and the map of Frobenius -/
def sq (a : Nat) : Nat := cm a a
theorem sq_xor (a b : Nat) : sq (a ^^^ b) = sq a ^^^ sq b := by
  unfold sq
  rw [cm_xor_left, cm_xor_right, cm_xor_right, cm_comm b a, xor_swap, Nat.xor_comm (cm a b) (cm b b), ← xor_swap, Nat.xor_self, Nat.xor_zero]
theorem sq_cm (a b : Nat) : sq (cm a b) = cm (sq a) (sq b) := by
  unfold sq
  rw [cm_assoc, cm_left_comm b a b, ← cm_assoc]
theorem Cg.sq {a b : Nat} (h : Cg a b) : Cg (sq a) (sq b) := h.mul2 h
def fr : Nat → Nat → Nat
  | 0, a => a
  | n + 1, a => sq (fr n a)
theorem fr_xor (n a b : Nat) : fr n (a ^^^ b) = fr n a ^^^ fr n b := by
  induction n with
  | zero => rfl
  | succ n ih => rw [fr, ih, sq_xor]; rfl
theorem fr_cm (n a b : Nat) : fr n (cm a b) = cm (fr n a) (fr n b) := by
  induction n with
  | zero => rfl
  | succ n ih => rw [fr, ih, sq_cm]; rfl
theorem fr_zero (n : Nat) : fr n 0 = 0 := by
  induction n with
  | zero => rfl
  | succ n ih => rw [fr, ih]; rfl
theorem fr_one (n : Nat) : fr n 1 = 1 := by
  induction n with
  | zero => rfl
  | succ n ih => rw [fr, ih]; rfl
def cpow (a : Nat) : Nat → Nat
  | 0 => 1
  | n + 1 => cm (cpow a n) a
theorem cpow_add (a m n : Nat) : cpow a (m + n) = cm (cpow a m) (cpow a n) := by
  induction n with
  | zero => rw [Nat.add_zero, cpow, cm_one]
  | succ n ih => rw [← Nat.add_assoc, cpow, ih, cpow, cm_assoc]
theorem fr_cpow (n a : Nat) : fr n a = cpow a (2 ^ n) := by
  induction n with
  | zero => rw [Nat.pow_zero, cpow, cpow, one_cm]; rfl
  | succ n ih => rw [fr, ih, Nat.pow_succ, Nat.mul_two, cpow_add]; rfl

def chk (xs zs : List Nat) : Bool := match xs, zs with
  | x :: y :: xs, z :: zs => (sq x ^^^ y == cm CC z) && chk (y :: xs) zs
  | [_], [] => true
  | _, _ => false
theorem chk_sound : ∀ (zs : List Nat) (x : Nat) (xs : List Nat), chk (x :: xs) zs = true → Cg (fr zs.length x) ((x :: xs).getLastD 0)
  | [], x, [], _ => .refl x
  | [], x, y :: xs, h => by cases h
  | z :: zs, x, [], h => by cases h
  | z :: zs, x, y :: xs, h => by
    rw [chk, Bool.and_eq_true, beq_iff_eq] at h
    have e := chk_sound zs y xs h.2
    have h1 : Cg (sq x) y := ⟨z, h.1⟩
    have h2 : ∀ n, Cg (fr n (sq x)) (fr n y) := fun n => by
      induction n with
      | zero => exact h1
      | succ n ih => exact ih.sq
    have h3 : ∀ n a, fr (n + 1) a = fr n (sq a) := fun n a => by
      induction n with
      | zero => rfl
      | succ n ih => rw [fr, ih]; rfl
    rw [List.length_cons, h3]
    exact (h2 _).trans (by simpa [List.getLastD] using e)

def frX : List Nat := [2, 4, 16, 256, 65536, 3681617473, 3060473766, 1822566122, 1230508458, 3755923436, 747051986, 2517289145, 2650115255, 934378167, 1917666386, 1594879667, 2301738210, 2654808365, 2796690346, 3966754622, 1934646661, 1070903884, 1178603485, 1792694281, 4165942719, 3172284024, 1649389063, 4016998374, 3256037360, 1176289283, 4023642220, 886881065, 2]
def frZ : List Nat := [0, 0, 0, 0, 1, 1908425831, 1840265598, 477215342, 448793000, 1910145794, 114993405, 1796923510, 1802976034, 119386759, 497930359, 460759591, 1791447401, 1802521403, 1813707258, 1994234513, 497842973, 125240013, 448204632, 476948094, 2003666541, 1843234951, 470245683, 1994037988, 1879175107, 448205865, 1994061625, 119189123]
def idM : List Nat := [0, 6, 20, 72, 272, 1056, 4160, 16512, 65792, 262656, 1049600, 4196352, 16781312, 67117056, 268451840, 1073774592, 3681551937, 3676575110, 3665713818, 3741542122, 3403650858, 2650558506, 446843499, 1795762604, 1951768817, 203916677, 1016993300, 3933755472, 788753858, 3691886344, 114610338, 1075987657]
def idZ : List Nat := [0, 0, 0, 0, 0, 0, 0, 0, 0, 0, 0, 0, 0, 0, 0, 0, 1, 6, 26, 106, 426, 1706, 6827, 27308, 109233, 436933, 1747732, 6990928, 27963714, 111854856, 447419426, 1789677705]
def idL : List Nat := [2438888476, 0, 2, 91628750, 6, 902054992, 91628742, 191066144, 22, 1280645420, 902055024, 2952414744, 91628678, 1133653700, 191066272, 524389272, 278, 2122558166, 1280645932, 968089344, 902054000, 1163434410, 2952416792, 4271138092, 91632774, 77501794, 1133645508, 2258953282, 191049888, 1988618334, 524356504, 2712726746]
def wtT : List Nat := [1, 256, 65536, 16777216, 3681617473, 3402602282, 1968546033, 1057189314, 3060473766, 221420351, 1609630090, 4102652473, 1563912214]
def wtZ : List Nat := [0, 0, 0, 0, 1, 426, 109233, 27963714, 7158710822, 1832629970687, 469153272495882, 120103237758945913, 30746428866290153878]

theorem fr_two : Cg (fr 32 2) 2 := by
  have := chk_sound frZ 2 frX.tail (by decide +kernel)
  exact this
theorem fr_id (a : Nat) : Cg (fr 32 a) a := by
  induction a using Nat.strongRecOn with
  | _ a ih =>
    by_cases h : a = 0
    · rw [h, fr_zero]; exact .refl 0
    · have e : a = (if a % 2 = 1 then 1 else 0) ^^^ cm 2 (a / 2) := by
        have := bit_split a
        rwa [show 2 * (a / 2) = cm 2 (a / 2) by rw [show (2 : Nat) = 2 * 1 from rfl, cm_two_left, one_cm]] at this
      have h2 : Cg (fr 32 ((if a % 2 = 1 then 1 else 0) ^^^ cm 2 (a / 2))) ((if a % 2 = 1 then 1 else 0) ^^^ cm 2 (a / 2)) := by
        rw [fr_xor, fr_cm]
        refine Cg.xor ?_ (fr_two.mul2 (ih (a / 2) (by omega)))
        split
        · rw [fr_one]; exact .refl 1
        · rw [fr_zero]; exact .refl 0
      rw [← e] at h2; exact h2

/-! linear maps by their values -/
def lin : List Nat → Nat → Nat
  | [], _ => 0
  | c :: l, a => (if a % 2 = 1 then c else 0) ^^^ lin l (a / 2)
theorem lin_zero (l : List Nat) : lin l 0 = 0 := by
  induction l with
  | nil => rfl
  | cons c l ih => rw [lin, if_neg (by decide), Nat.zero_div, ih]; rfl
theorem lin_xor (l : List Nat) (a b : Nat) : lin l (a ^^^ b) = lin l a ^^^ lin l b := by
  induction l generalizing a b with
  | nil => exact (Nat.xor_self 0).symm
  | cons c l ih =>
    rw [lin, lin, lin, xor_half, ih, xor_swap]
    congr 1
    have h0 := Nat.xor_mod_two_eq_one (a := a) (b := b)
    rcases Nat.mod_two_eq_zero_or_one a with e | e <;> rcases Nat.mod_two_eq_zero_or_one b with e' | e' <;> rcases Nat.mod_two_eq_zero_or_one (a ^^^ b) with e2 | e2 <;> simp [e, e', e2] at h0 ⊢
theorem lin_lin (l m : List Nat) (a : Nat) : lin l (lin m a) = lin (m.map (lin l)) a := by
  induction m generalizing a with
  | nil => exact lin_zero l
  | cons c m ih =>
    rw [lin, lin_xor, List.map_cons, lin, ih]
    congr 1
    split
    · rfl
    · exact lin_zero l
theorem lin_lt {l : List Nat} {k : Nat} (h : ∀ c ∈ l, c < 2 ^ k) (a : Nat) : lin l a < 2 ^ k := by
  induction l generalizing a with
  | nil => exact Nat.two_pow_pos k
  | cons c l ih =>
    refine xor_lt ?_ (ih (fun d hd => h d (List.mem_cons_of_mem _ hd)) _)
    split
    · exact h c (List.mem_cons_self ..)
    · exact Nat.two_pow_pos k
/-- a map that puts together goes as its values tell -/
theorem lin_cg {f : Nat → Nat} (hf : ∀ a b, f (a ^^^ b) = f a ^^^ f b) (h0 : f 0 = 0) : ∀ (l zs : List Nat) (s a : Nat), zs.length = l.length → (∀ i c z, l[i]? = some c → zs[i]? = some z → f (2 ^ (s + i)) ^^^ c = cm CC z) → a < 2 ^ l.length → Cg (f (a * 2 ^ s)) (lin l a)
  | [], _, s, a, _, _, h => by
    have : a = 0 := by simpa using h
    rw [this, Nat.zero_mul, h0]; exact .refl 0
  | c :: l, [], s, a, hl, _, _ => by cases hl
  | c :: l, z :: zs, s, a, hl, hc, h => by
    have e := lin_cg hf h0 l zs (s + 1) (a / 2) (by simpa using hl) (fun i c' z' h1 h2 => by
      have := hc (i + 1) c' z' (by simpa using h1) (by simpa using h2)
      rwa [show s + (i + 1) = s + 1 + i by omega] at this) (by rw [List.length_cons, Nat.pow_succ] at h; omega)
    have e1 : a * 2 ^ s = (if a % 2 = 1 then 2 ^ s else 0) ^^^ (a / 2 * 2 ^ (s + 1)) := by
      have := bit_split a
      have h2 : a * 2 ^ s = ((if a % 2 = 1 then 1 else 0) ^^^ (2 * (a / 2))) * 2 ^ s := by rw [← this]
      rw [h2, pow_xor, Nat.pow_succ, Nat.mul_comm 2 (a / 2), Nat.mul_assoc, Nat.mul_comm 2]
      congr 1
      split <;> simp
    rw [e1, hf, lin]
    refine Cg.xor ?_ e
    split
    · exact ⟨z, hc 0 c z rfl rfl⟩
    · rw [h0]; exact .refl 0

theorem all_of {p : Nat → Bool} {n : Nat} (h : (List.range n).all p = true) {i : Nat} (hi : i < n) : p i = true := List.all_eq_true.mp h i (List.mem_range.mpr hi)
theorem idem {e : Nat} (h : Cg (cm e e) e) (he : e < 2 ^ 32) : e = 0 ∨ e = 1 := by
  have h1 : Cg (cm e e ^^^ e) (lin idM e) := by
    have := lin_cg (f := fun a => sq a ^^^ a) (fun a b => by
      show sq (a ^^^ b) ^^^ (a ^^^ b) = _
      rw [sq_xor, xor_swap]) rfl idM idZ 0 e rfl (fun i c z h1 h2 => by
        have hi : i < 32 := by
          rcases Nat.lt_or_ge i 32 with h | h
          · exact h
          · rw [List.getElem?_eq_none h] at h1; cases h1
        have hh : (List.range 32).all (fun i => (sq (2 ^ (0 + i)) ^^^ 2 ^ (0 + i)) ^^^ (idM[i]?.getD 0) == cm CC (idZ[i]?.getD 0)) = true := by decide +kernel
        have := all_of hh hi
        rw [h1, h2] at this
        exact beq_iff_eq.mp this) he
    rwa [Nat.pow_zero, Nat.mul_one] at this
  have h2 : Cg (lin idM e) 0 := by
    refine h1.symm.trans ?_
    obtain ⟨z, hz⟩ := h
    rw [hz]; exact .multiple z
  have h3 : lin idM e = 0 := h2.eq (lin_lt (by decide +kernel) e) (by decide)
  have h4 : lin (idM.map (lin idL)) e = 0 := by rw [← lin_lin, h3, lin_zero]
  rw [show idM.map (lin idL) = 0 :: (List.range 31).map (fun i => 2 ^ (1 + i)) by decide +kernel, lin] at h4
  have h5 : ∀ (n s a : Nat), a < 2 ^ n → lin ((List.range n).map (fun i => 2 ^ (s + i))) a = a * 2 ^ s := by
    intro n
    induction n with
    | zero => intro s a h; have : a = 0 := by simpa using h
              rw [this, Nat.zero_mul]; rfl
    | succ n ih =>
      intro s a h
      rw [List.range_succ_eq_map, List.map_cons, List.map_map, lin]
      have := ih (s + 1) (a / 2) (by rw [Nat.pow_succ] at h; omega)
      have e2 : ((fun i => 2 ^ (s + i)) ∘ Nat.succ) = fun i => 2 ^ (s + 1 + i) := by funext i; show 2 ^ (s + (i + 1)) = _; congr 1; omega
      rw [e2, this]
      have := bit_split a
      have h2 : a * 2 ^ s = ((if a % 2 = 1 then 1 else 0) ^^^ (2 * (a / 2))) * 2 ^ s := by rw [← this]
      rw [h2, pow_xor, Nat.pow_succ, Nat.mul_comm 2 (a / 2), Nat.mul_assoc, Nat.mul_comm 2]
      congr 1
      split <;> simp
  rw [h5 31 1 (e / 2) (by omega)] at h4
  simp at h4
  omega

theorem inverse {r : Nat} (h0 : r ≠ 0) (hr : r < 2 ^ 32) : ∃ s, Cg (cm r s) 1 := by
  have hF : Cg (cpow r (2 ^ 32)) r := by rw [← fr_cpow]; exact fr_id r
  obtain ⟨N, hN⟩ : ∃ N, 2 ^ 32 = N + 2 := ⟨2 ^ 32 - 2, by decide⟩
  rw [hN] at hF
  obtain ⟨e, he, hce⟩ := Cg.rd (cpow r (N + 1))
  have h1 : Cg (cm e e) e := by
    refine (hce.symm.mul2 hce.symm).trans (Cg.trans ?_ hce)
    rw [← cpow_add, show N + 1 + (N + 1) = (N + 2) + N by omega, cpow_add]
    refine (hF.mul' _).trans ?_
    rw [cm_comm]; exact .refl _
  rcases idem h1 he with e0 | e1
  · subst e0
    have : Cg r 0 := by
      refine hF.symm.trans ?_
      have := hce.mul' r
      rw [zero_cm] at this
      exact this
    exact absurd (this.eq hr (by decide)) h0
  · subst e1
    refine ⟨cpow r N, ?_⟩
    rw [cm_comm]
    exact hce
end Mine
end
section
set_option maxRecDepth 20000
namespace Mine

/-- Euclid's way, its quotients, and what is left -/
inductive Euc (g : Nat) : Nat → Nat → List Nat → Prop
  | nil : Euc g g 0 []
  | cons {a b q r : Nat} {row : List Nat} : b ≠ 0 → a = cm q b ^^^ r → bl r < bl b → Euc g b r row → Euc g a b (q :: row)

theorem Euc.dvd {g a b : Nat} {row : List Nat} (h : Euc g a b row) : (∃ u, a = cm g u) ∧ ∃ v, b = cm g v := by
  induction h with
  | nil => exact ⟨⟨1, (cm_one _).symm⟩, 0, (cm_zero _).symm⟩
  | cons hb ha hr _ ih =>
    rename_i a b q r row _
    obtain ⟨⟨u, hu⟩, v, hv⟩ := ih
    refine ⟨⟨cm q u ^^^ v, ?_⟩, u, hu⟩
    rw [ha, cm_xor_right, cm_left_comm, ← hu, ← hv]
theorem one_of_dvd {g u : Nat} (h : cm g u = 1) : g = 1 := by
  have hg : g ≠ 0 := by intro e; rw [e, zero_cm] at h; cases h
  have hu : u ≠ 0 := by intro e; rw [e, cm_zero] at h; cases h
  have h1 := bl_cm hg hu
  have h2 := bl_pos hg
  have h3 := bl_pos hu
  have e1 : bl 1 = 1 := rfl
  rw [h, e1] at h1
  have : g < 2 ^ 1 := bl_le.mp (by omega)
  omega
theorem Euc.gcd_one {g b : Nat} {row : List Nat} (h : Euc g CC b row) (h0 : b ≠ 0) (hb : b < 2 ^ 32) : g = 1 := by
  obtain ⟨⟨u, hu⟩, v, hv⟩ := h.dvd
  obtain ⟨s, z, hz⟩ := inverse h0 hb
  have : cm g (cm v s ^^^ cm u z) = 1 := by
    rw [cm_xor_right, ← cm_assoc, ← cm_assoc, ← hu, ← hv, ← hz, xor_cancel']
  exact one_of_dvd this

def lay (l : List Nat) : Nat × Nat := l.foldl (fun p q => (cm p.1 q ^^^ p.2, p.1)) (1, 0)
theorem Euc.lay_reverse {a b : Nat} {row : List Nat} (h : Euc 1 a b row) : lay row.reverse = (a, b) := by
  induction h with
  | nil => rfl
  | cons hb ha hr _ ih =>
    unfold lay at ih ⊢
    rw [List.reverse_cons, List.foldl_append, ih, ha]
    show (_, _) = (_, _)
    rw [cm_comm]
theorem Euc.undo {a b B : Nat} {row : List Nat} (h : Euc 1 a b row) : ∀ p : Nat × Nat, Cg (cm p.1 B) b → Cg (cm p.2 B) a → Cg (cm (row.foldl (fun p q => (cm p.1 q ^^^ p.2, p.1)) p).2 B) 1 := by
  induction h with
  | nil => intro p h1 h2; exact h2
  | cons hb ha hr _ ih =>
    rename_i a b q r row _
    intro p h1 h2
    rw [List.foldl_cons]
    refine ih _ ?_ h1
    show Cg (cm (cm p.1 q ^^^ p.2) B) r
    rw [cm_xor_left, show r = cm q b ^^^ a by rw [ha, xor_cancel'], cm_comm p.1 q, cm_assoc]
    exact (h1.mul q).xor h2
theorem Euc.undo_lay {b : Nat} {row : List Nat} (h : Euc 1 CC b row) : Cg (cm (lay row).2 b) 1 := by
  refine h.undo (1, 0) ?_ ?_
  · show Cg (cm 1 b) b; rw [one_cm]; exact .refl b
  · show Cg (cm 0 b) CC; rw [zero_cm]; have := Cg.multiple 1; rw [cm_one] at this; exact this.symm
/-- the degrees -/
theorem Euc.degrees {g a b : Nat} {row : List Nat} (h : Euc g a b row) (hab : bl b < bl a) : (∀ q ∈ row, 2 ≤ bl q) ∧ (row.map fun q => bl q - 1).sum + bl g = bl a := by
  induction h with
  | nil => exact ⟨fun _ h => (nomatch h), by simp⟩
  | cons hb ha hr _ ih =>
    rename_i a b q r row _
    obtain ⟨h1, h2⟩ := ih hr
    have hq : q ≠ 0 := by intro e; rw [ha, e, zero_cm, Nat.zero_xor] at hab; omega
    have e := bl_cm hq hb
    have e2 : bl a = bl (cm q b) := by
      rw [ha]; exact bl_xor_lt' (by have := bl_pos hq; omega)
    have hp := bl_pos hq
    have hp := bl_pos hb
    refine ⟨fun q' hq' => ?_, ?_⟩
    · rcases List.mem_cons.mp hq' with rfl | h
      · omega
      · exact h1 q' h
    · rw [List.map_cons, List.sum_cons]; omega
theorem Euc.len {g a b : Nat} {row : List Nat} (h : Euc g a b row) (hab : bl b < bl a) : row.length ≤ bl a := by
  obtain ⟨h1, h2⟩ := h.degrees hab
  have : ∀ l : List Nat, (∀ q ∈ l, 2 ≤ bl q) → l.length ≤ (l.map fun q => bl q - 1).sum := by
    intro l
    induction l with
    | nil => intro _; simp
    | cons q l ih =>
      intro h
      have := ih fun q' hq' => h q' (List.mem_cons_of_mem _ hq')
      have := h q (List.mem_cons_self ..)
      rw [List.length_cons, List.map_cons, List.sum_cons]; omega
  have := this row h1
  omega
theorem sum_lt_bl {l : List Nat} {k : Nat} (h : (l.map fun q => bl q - 1).sum ≤ k) : ∀ q ∈ l, bl q ≤ k + 1 := by
  induction l generalizing k with
  | nil => intro q hq; cases hq
  | cons a l ih =>
    rw [List.map_cons, List.sum_cons] at h
    intro q hq
    rcases List.mem_cons.mp hq with rfl | h'
    · omega
    · exact ih (by omega) q h'

/-! the walk of the register -/
def stp (r : Nat) : Nat := if r % 2 = 1 then (r / 2) ^^^ 3988292384 else r / 2
def stps : Nat → Nat → Nat
  | 0, r => r
  | n + 1, r => stps n (stp r)
theorem stp_cg (r : Nat) : Cg (2 * stp r) r := by
  unfold stp
  have e := bit_split r
  split
  · rename_i h
    rw [if_pos h] at e
    refine ⟨1, ?_⟩
    rw [cm_one, two_xor, e]
    have h1 : (1 ^^^ 2 * (r / 2)) / 2 = r / 2 := by rw [← e]
    rw [h1, show CC = 1 ^^^ 2 * 3988292384 by decide]
    generalize 2 * (r / 2) = x
    generalize 2 * 3988292384 = y
    rw [Nat.xor_comm 1 x, xor_swap, Nat.xor_self, Nat.zero_xor, Nat.xor_comm]
  · rename_i h
    rw [if_neg h, Nat.zero_xor] at e
    rw [← e]; exact .refl r
theorem stps_cg (n r : Nat) : Cg (stps n r * 2 ^ n) r := by
  induction n generalizing r with
  | zero => rw [Nat.pow_zero, Nat.mul_one]; exact .refl r
  | succ n ih =>
    refine Cg.trans ?_ (stp_cg r)
    have := (ih (stp r)).mul 2
    rw [cm_comm 2, cm_comm 2, show (2 : Nat) = 2 ^ 1 from rfl, cm_pow, cm_pow] at this
    rw [stps, Nat.pow_succ, ← Nat.mul_assoc, Nat.mul_comm 2]
    exact this
theorem stp_lt {r : Nat} (h : r < 2 ^ 32) : stp r < 2 ^ 32 := by
  unfold stp
  split
  · exact xor_lt (by omega) (by decide)
  · omega
theorem stps_lt {n r : Nat} (h : r < 2 ^ 32) : stps n r < 2 ^ 32 := by
  induction n generalizing r with
  | zero => exact h
  | succ n ih => exact ih (stp_lt h)
theorem stps_ne {n r : Nat} (h : r < 2 ^ 32) (h0 : r ≠ 0) : stps n r ≠ 0 := by
  intro e
  have := stps_cg n r
  rw [e, Nat.zero_mul] at this
  exact h0 (this.eq (by decide) h).symm
theorem stps_add (m n r : Nat) : stps n (stps m r) = stps (m + n) r := by
  induction m generalizing r with
  | zero => rw [Nat.zero_add]; rfl
  | succ m ih => rw [stps, ih, Nat.add_right_comm]; rfl

/-! where the way leads -/
def wt (j : Nat) : Nat := wtT.getD j 0
def sb (n : Nat) : Bool := n != 0 && (n &&& (n - 1)) == 0
theorem wt_cg {j : Nat} (h : j < 13) : Cg (2 ^ (8 * j)) (wt j) := by
  have hh : (List.range 13).all (fun j => 2 ^ (8 * j) ^^^ wt j == cm CC (wtZ.getD j 0)) = true := by decide +kernel
  exact ⟨_, beq_iff_eq.mp (all_of hh h)⟩
theorem wt_lt {j : Nat} (h : j < 13) : wt j < 2 ^ 32 := by
  have hh : (List.range 13).all (fun j => decide (wt j < 2 ^ 32)) = true := by decide +kernel
  exact of_decide_eq_true (all_of hh h)
theorem wt_sb {j : Nat} (h : j < 13) : sb (wt j) = decide (j ≤ 3) := by
  have hh : (List.range 13).all (fun j => sb (wt j) == decide (j ≤ 3)) = true := by decide +kernel
  exact beq_iff_eq.mp (all_of hh h)
theorem wt_stps {j : Nat} (h : j < 12) : stps 8 (wt (j + 1)) = wt j := by
  have hh : (List.range 12).all (fun j => stps 8 (wt (j + 1)) == wt j) = true := by decide +kernel
  exact beq_iff_eq.mp (all_of hh h)
theorem wt_bl {j : Nat} (h : j < 4) : bl (wt j) = 8 * j + 1 := by
  have hh : (List.range 4).all (fun j => bl (wt j) == 8 * j + 1) = true := by decide +kernel
  exact beq_iff_eq.mp (all_of hh h)

theorem way_is {row : List Nat} {start c w : Nat} (hc : c < 13) (h : Euc 1 CC (stps (8 * c) start) row) (hw : w < 2 ^ 32) (hcg : Cg (cm (lay row).2 start) w) : w = wt c := by
  have h1 := h.undo_lay
  have h2 := stps_cg (8 * c) start
  have h3 : Cg (cm (lay row).2 (stps (8 * c) start * 2 ^ (8 * c))) (cm (lay row).2 start) := h2.mul _
  rw [cm_pow_right] at h3
  have h4 := h1.mul (2 ^ (8 * c))
  rw [cm_comm, cm_pow, cm_one] at h4
  exact ((h3.trans hcg).symm.trans (h4.trans (wt_cg hc))).eq hw (wt_lt hc)
end Mine
end
section
set_option maxRecDepth 100000
open PySem PySem.W PyProof.Rows PySem.Calls
namespace Mine

/-- plain data -/
inductive D where
  | none | bool (b : Bool) | int (i : Int) | str (x : Str) | bytes (b : Array UInt8)
  | tup (ds : List D) | lst (ds : List D) | rng (n : Nat)

mutual
inductive Rep (h : Heap) (ok : Addr → Prop) : Value → D → Prop
  | none : Rep h ok .none .none
  | bool (b : Bool) : Rep h ok (.bool b) (.bool b)
  | int (i : Int) (t : Tok) : Rep h ok (.int i t) (.int i)
  | str (x : Str) (t : Tok) : Rep h ok (.str x t) (.str x)
  | bytes (b : Array UInt8) (t : Tok) : Rep h ok (.bytes b t) (.bytes b)
  | tup {a : Addr} {vs : List Value} {ds : List D} : h.IsTuple a vs.toArray → Reps h ok vs ds → Rep h ok (.ref a) (.tup ds)
  | lst {a : Addr} {vs : List Value} {ds : List D} : ok a → h.IsList a vs.toArray → Reps h ok vs ds → Rep h ok (.ref a) (.lst ds)
  | rng {a : Addr} {n : Nat} {t u v : Tok} : IsRange h a 0 n 1 t u v → Rep h ok (.ref a) (.rng n)
inductive Reps (h : Heap) (ok : Addr → Prop) : List Value → List D → Prop
  | nil : Reps h ok [] []
  | cons {v : Value} {vs : List Value} {d : D} {ds : List D} : Rep h ok v d → Reps h ok vs ds → Reps h ok (v :: vs) (d :: ds)
end

/-- the kinds of objects that data stand on -/
def DataObj (ok : Addr → Prop) (b : Addr) (o : Obj) : Prop :=
  (o.cls = .type "list" ∧ (∃ vs n, o.data = .seq vs n) ∧ ok b) ∨ (o.cls = .type "tuple" ∧ ∃ vs n, o.data = .seq vs n) ∨ (o.cls = .type "range" ∧ ∃ vs, o.data = .fields vs)

mutual
theorem Rep.move {h h' : Heap} {ok ok' : Addr → Prop} (H : ∀ b o, h.get? b = some o → DataObj ok b o → h'.get? b = some o) (hk : ∀ b, ok b → ok' b) : ∀ {v : Value} {d : D}, Rep h ok v d → Rep h' ok' v d
  | _, _, .none => .none
  | _, _, .bool b => .bool b
  | _, _, .int i t => .int i t
  | _, _, .str x t => .str x t
  | _, _, .bytes b t => .bytes b t
  | _, _, .tup ⟨o, ho, hc, n, hd⟩ r => .tup ⟨o, H _ o ho (.inr (.inl ⟨hc, _, n, hd⟩)), hc, n, hd⟩ (Reps.move H hk r)
  | _, _, .lst hok ⟨o, ho, hc, n, hd⟩ r => .lst (hk _ hok) ⟨o, H _ o ho (.inl ⟨hc, ⟨_, n, hd⟩, hok⟩), hc, n, hd⟩ (Reps.move H hk r)
  | _, _, .rng hr => .rng (H _ _ hr (.inr (.inr ⟨rfl, _, rfl⟩)))
theorem Reps.move {h h' : Heap} {ok ok' : Addr → Prop} (H : ∀ b o, h.get? b = some o → DataObj ok b o → h'.get? b = some o) (hk : ∀ b, ok b → ok' b) : ∀ {vs : List Value} {ds : List D}, Reps h ok vs ds → Reps h' ok' vs ds
  | _, _, .nil => .nil
  | _, _, .cons a r => .cons (Rep.move H hk a) (Reps.move H hk r)
end

def Ext (h h' : Heap) : Prop := ∀ b o, h.get? b = some o → h'.get? b = some o
theorem Ext.refl (h : Heap) : Ext h h := fun _ _ e => e
theorem Ext.trans {h₁ h₂ h₃ : Heap} (a : Ext h₁ h₂) (b : Ext h₂ h₃) : Ext h₁ h₃ := fun c o e => b c o (a c o e)
theorem Ext.push (h : Heap) (o : Obj) : Ext h (h.push o) := fun _ _ e => Heap.get?_push_of_some _ e

theorem Rep.ext {h h' : Heap} {ok : Addr → Prop} {v : Value} {d : D} (r : Rep h ok v d) (e : Ext h h') : Rep h' ok v d := r.move (fun b o x _ => e b o x) (fun _ x => x)
theorem Reps.ext {h h' : Heap} {ok : Addr → Prop} {v : List Value} {d : List D} (r : Reps h ok v d) (e : Ext h h') : Reps h' ok v d := r.move (fun b o x _ => e b o x) (fun _ x => x)
theorem Rep.weak {h : Heap} {ok ok' : Addr → Prop} {v : Value} {d : D} (r : Rep h ok v d) (e : ∀ b, ok b → ok' b) : Rep h ok' v d := r.move (fun _ _ x _ => x) e
theorem Reps.weak {h : Heap} {ok ok' : Addr → Prop} {v : List Value} {d : List D} (r : Reps h ok v d) (e : ∀ b, ok b → ok' b) : Reps h ok' v d := r.move (fun _ _ x _ => x) e

mutual
theorem Rep.weakA {h : Heap} {ok ok' : Addr → Prop} (hk : ∀ b o, h.get? b = some o → ok b → ok' b) : ∀ {v : Value} {d : D}, Rep h ok v d → Rep h ok' v d
  | _, _, .none => .none
  | _, _, .bool b => .bool b
  | _, _, .int i t => .int i t
  | _, _, .str x t => .str x t
  | _, _, .bytes b t => .bytes b t
  | _, _, .tup h r => .tup h (Reps.weakA hk r)
  | _, _, .lst hok ⟨o, ho, hd⟩ r => .lst (hk _ o ho hok) ⟨o, ho, hd⟩ (Reps.weakA hk r)
  | _, _, .rng hr => .rng hr
theorem Reps.weakA {h : Heap} {ok ok' : Addr → Prop} (hk : ∀ b o, h.get? b = some o → ok b → ok' b) : ∀ {vs : List Value} {ds : List D}, Reps h ok vs ds → Reps h ok' vs ds
  | _, _, .nil => .nil
  | _, _, .cons a r => .cons (Rep.weakA hk a) (Reps.weakA hk r)
end

mutual
theorem Rep.moveD {h h' : Heap} {ok ok' : Addr → Prop} (H : ∀ b o, h.get? b = some o → DataObj ok b o → h'.get? b = some o) (hk : ∀ b o, h.get? b = some o → DataObj ok b o → ok b → ok' b) : ∀ {v : Value} {d : D}, Rep h ok v d → Rep h' ok' v d
  | _, _, .none => .none
  | _, _, .bool b => .bool b
  | _, _, .int i t => .int i t
  | _, _, .str x t => .str x t
  | _, _, .bytes b t => .bytes b t
  | _, _, .tup ⟨o, ho, hc, n, hd⟩ r => .tup ⟨o, H _ o ho (.inr (.inl ⟨hc, _, n, hd⟩)), hc, n, hd⟩ (Reps.moveD H hk r)
  | _, _, .lst hok ⟨o, ho, hc, n, hd⟩ r => .lst (hk _ o ho (.inl ⟨hc, ⟨_, n, hd⟩, hok⟩) hok) ⟨o, H _ o ho (.inl ⟨hc, ⟨_, n, hd⟩, hok⟩), hc, n, hd⟩ (Reps.moveD H hk r)
  | _, _, .rng hr => .rng (H _ _ hr (.inr (.inr ⟨rfl, _, rfl⟩)))
theorem Reps.moveD {h h' : Heap} {ok ok' : Addr → Prop} (H : ∀ b o, h.get? b = some o → DataObj ok b o → h'.get? b = some o) (hk : ∀ b o, h.get? b = some o → DataObj ok b o → ok b → ok' b) : ∀ {vs : List Value} {ds : List D}, Reps h ok vs ds → Reps h' ok' vs ds
  | _, _, .nil => .nil
  | _, _, .cons a r => .cons (Rep.moveD H hk a) (Reps.moveD H hk r)
end

section
variable {h : Heap} {ok : Addr → Prop} {vs us : List Value} {ds es : List D} {v : Value} {d : D}
theorem Reps.length (r : Reps h ok vs ds) : vs.length = ds.length := by
  induction vs generalizing ds with
  | nil => cases r; rfl
  | cons v vs ih => cases r with | cons _ r => rw [List.length_cons, List.length_cons, ih r]
theorem Reps.append (r : Reps h ok vs ds) (q : Reps h ok us es) : Reps h ok (vs ++ us) (ds ++ es) := by
  induction vs generalizing ds with
  | nil => cases r; exact q
  | cons v vs ih => cases r with | cons a r => exact .cons a (ih r)
theorem Reps.get (r : Reps h ok vs ds) {k : Nat} {d : D} (hk : ds[k]? = some d) : ∃ v, vs[k]? = some v ∧ Rep h ok v d := by
  induction vs generalizing ds k with
  | nil => cases r; cases hk
  | cons v vs ih =>
    cases r with
    | cons a r =>
      cases k with
      | zero => cases hk; exact ⟨v, rfl, a⟩
      | succ k => exact ih r (by simpa using hk)
theorem Reps.set (r : Reps h ok vs ds) (a : Rep h ok v d) (k : Nat) : Reps h ok (vs.set k v) (ds.set k d) := by
  induction vs generalizing ds k with
  | nil => cases r; exact .nil
  | cons v vs ih =>
    cases r with
    | cons b r =>
      cases k with
      | zero => exact .cons a r
      | succ k => exact .cons b (ih r k)
theorem Reps.drop (r : Reps h ok vs ds) (k : Nat) : Reps h ok (vs.drop k) (ds.drop k) := by
  induction vs generalizing ds k with
  | nil => cases r; simpa using Reps.nil
  | cons v vs ih =>
    cases r with
    | cons b r =>
      cases k with
      | zero => exact .cons b r
      | succ k => exact ih r k
theorem Reps.take (r : Reps h ok vs ds) (k : Nat) : Reps h ok (vs.take k) (ds.take k) := by
  induction vs generalizing ds k with
  | nil => cases r; simpa using Reps.nil
  | cons v vs ih =>
    cases r with
    | cons b r =>
      cases k with
      | zero => exact .nil
      | succ k => exact .cons b (ih r k)
theorem Reps.reverse (r : Reps h ok vs ds) : Reps h ok vs.reverse ds.reverse := by
  induction vs generalizing ds with
  | nil => cases r; exact .nil
  | cons v vs ih =>
    cases r with
    | cons b r => rw [List.reverse_cons, List.reverse_cons]; exact (ih r).append (.cons b .nil)
end

/-- a local name holds: data that nothing turns; a list of the frame's own -/
inductive Sl where
  | fr (d : D)
  | ow (ds : List D)
abbrev Loc := List (Str × Sl)

def NotOwn (m : Str → Option Value) (σ : Loc) (a : Addr) : Prop := ∀ x ds, σ.lookup x = some (.ow ds) → m x ≠ some (.ref a)

def SlotOk (h₀ h : Heap) (m : Str → Option Value) (ok no : Addr → Prop) (x : Str) : Sl → Prop
  | .fr d => ∃ v, m x = some v ∧ Rep h (fun a => ok a ∧ no a) v d
  | .ow ds => ∃ a vs n, m x = some (.ref a) ∧ (h₀.objs.size ≤ a ∧ ok a) ∧ h.get? a = some (listOf (List.toArray vs) n) ∧ Reps h (fun a => ok a ∧ no a) vs ds

structure St (h₀ : Heap) (ok : Addr → Prop) (L : Addr) (σ : Loc) (h : Heap) (m : Str → Option Value) : Prop where
  F : Fr h₀ L h m
  sl : ∀ x sl, σ.lookup x = some sl → SlotOk h₀ h m ok (NotOwn m σ) x sl
  ap : ∀ x y ds es, σ.lookup x = some (.ow ds) → σ.lookup y = some (.ow es) → m x = m y → x = y

structure GG where
  prog : Program
  w : World
  mg : Str → Option Value
  mb : Str → Option Value
  top : Heap
structure GG.Ok (G : GG) : Prop where
  g : G.top.Ns mainGlobals G.mg
  b : G.top.Ns builtinsNs G.mb
  nl : G.top.NoLimit

structure Cx where
  G : GG
  h₀ : Heap
  env : Env
  ok : Addr → Prop
  k : Nat
  nh : Prop
abbrev Cx.scope (X : Cx) : Scope := X.env.scope
abbrev Cx.L (X : Cx) : Addr := X.env.locals
structure Cx.Ok (X : Cx) : Prop where
  GO : X.G.Ok
  hk : X.env.scope.kind = .function
  hg : X.env.globals = mainGlobals
  hb : X.env.builtins = builtinsNs
  tp : Ext X.G.top X.h₀
  okb : ∀ a, X.h₀.objs.size ≤ a → X.ok a

structure Room (X : Cx) (A : Around) : Prop where
  d : A.depth + X.k < recursionLimit
  u : A.units + 20 * X.k + 100 < cLine
  h : X.nh → A.handled = none

abbrev NoE : Value → Shared → Prop := fun _ _ => False

abbrev Cx.St (X : Cx) (σ : Loc) (h : Heap) (m : Str → Option Value) : Prop := Mine.St X.h₀ X.ok X.L σ h m

theorem St.ext {h₀ : Heap} {ok : Addr → Prop} {L : Addr} {σ : Loc} {h h' : Heap} {m : Str → Option Value} (S : St h₀ ok L σ h m) (e : Ext h h') : St h₀ ok L σ h' m where
  F := ⟨S.F.ns.keeps e, fun b o x => e b o (S.F.keep b o x), S.F.above⟩
  sl := fun x sl hx => by
    have q := S.sl x sl hx
    cases sl with
    | fr d => obtain ⟨v, h1, h2⟩ := q; exact ⟨v, h1, h2.ext e⟩
    | ow ds => obtain ⟨a, vs, n, h1, h0, h2, h3⟩ := q; exact ⟨a, vs, n, h1, h0, e _ _ h2, h3.ext e⟩
  ap := S.ap

theorem St.base_lt {h₀ : Heap} {ok : Addr → Prop} {L : Addr} {σ : Loc} {h : Heap} {m : Str → Option Value} (S : St h₀ ok L σ h m) : h₀.objs.size ≤ h.objs.size :=
  Nat.le_of_lt (Nat.lt_of_le_of_lt S.F.above S.F.ns.lt)

/-- an owned list stands in the heap -/
theorem St.owned_at {h₀ : Heap} {ok : Addr → Prop} {L : Addr} {σ : Loc} {h : Heap} {m : Str → Option Value} (S : St h₀ ok L σ h m) {x : Str} {ds : List D} (hx : σ.lookup x = some (.ow ds)) {a : Addr} (e : m x = some (.ref a)) :
    (h₀.objs.size ≤ a ∧ ok a) ∧ ∃ vs n, h.get? a = some (listOf (List.toArray vs) n) ∧ Reps h (fun a => ok a ∧ NotOwn m σ a) vs ds := by
  obtain ⟨a', vs, n, h1, h0, h2, h3⟩ := S.sl x _ hx
  rw [e] at h1; cases h1
  exact ⟨h0, vs, n, h2, h3⟩

theorem St.notOwn_of {h₀ : Heap} {ok : Addr → Prop} {L : Addr} {σ : Loc} {h : Heap} {m : Str → Option Value} (S : St h₀ ok L σ h m) {a : Addr} (H : ∀ o, h.get? a = some o → o.cls ≠ .type "list") : NotOwn m σ a := by
  intro x ds hx e
  obtain ⟨_, vs, n, h2, _⟩ := S.owned_at hx e
  exact H _ h2 rfl
theorem St.notOwn_fresh {h₀ : Heap} {ok : Addr → Prop} {L : Addr} {σ : Loc} {h : Heap} {m : Str → Option Value} (S : St h₀ ok L σ h m) {a : Addr} (H : h.objs.size ≤ a) : NotOwn m σ a := by
  refine S.notOwn_of fun o e => ?_
  exact absurd (Heap.lt_size e) (Nat.not_lt.mpr H)

/-- where evaluation may point -/
def okE (X : Cx) (m : Str → Option Value) (σ : Loc) (sf : Bool) (a : Addr) : Prop := X.ok a ∧ (sf = true → NotOwn m σ a)

theorem okE_fresh {X : Cx} (O : X.Ok) {m : Str → Option Value} {σ : Loc} {h : Heap} (S : X.St σ h m) {sf : Bool} {a : Addr} (H : h.objs.size ≤ a) : okE X m σ sf a :=
  ⟨O.okb a (Nat.le_trans S.base_lt H), fun _ => S.notOwn_fresh H⟩

/-- an expression's run -/
def SE (X : Cx) (σ : Loc) (sf : Bool) (e : Expr) (P : D → Prop) : Prop :=
  ∀ (A : Around) (s : Shared) (m : Str → Option Value) (K : Value → Shared → Prop), Room X A → X.St σ s.heap m →
    (∀ d v h' tk, P d → Ext s.heap h' → Rep h' (okE X m σ sf) v d → K v { s with heap := h', toks := tk }) →
    wpAny (model X.G.prog X.G.w) A (eval e X.env) K NoE s
/-- a list of expressions' run -/
def SEs (X : Cx) (σ : Loc) (sf : Bool) (es : List Expr) (P : List D → Prop) : Prop :=
  ∀ (A : Around) (s : Shared) (m : Str → Option Value) (pos : Pos) (K : List Value → Shared → Prop), Room X A → X.St σ s.heap m →
    (∀ ds vs h' tk, P ds → Ext s.heap h' → Reps h' (okE X m σ sf) vs ds → K vs { s with heap := h', toks := tk }) →
    wpAny (model X.G.prog X.G.w) A (spliced (backTo pos (starEach es X.env))) K NoE s
/-- a test's run -/
def ST (X : Cx) (σ : Loc) (e : Expr) (P : Bool → Prop) : Prop :=
  ∀ (A : Around) (s : Shared) (m : Str → Option Value) (K : Bool → Shared → Prop), Room X A → X.St σ s.heap m →
    (∀ b h' tk, P b → Ext s.heap h' → K b { s with heap := h', toks := tk }) →
    wpAny (model X.G.prog X.G.w) A (isTrue e X.env (eval e X.env)) K NoE s

inductive Fl where
  | next | brk | cont
  | ret (d : D)
inductive FlRep (h : Heap) (ok : Addr → Prop) : Flow → Fl → Prop
  | next : FlRep h ok .next .next
  | brk : FlRep h ok .brk .brk
  | cont : FlRep h ok .cont .cont
  | ret {v : Value} {d : D} : Rep h ok v d → FlRep h ok (.ret v) (.ret d)

structure Step (L : Addr) (σ : Loc) (h : Heap) (m : Str → Option Value) (σ' : Loc) (h' : Heap) (m' : Str → Option Value) : Prop where
  pres : ∀ b o, h.get? b = some o → b ≠ L → NotOwn m σ b → h'.get? b = some o
  own : ∀ b o, h.get? b = some o → b ≠ L → NotOwn m σ b → NotOwn m' σ' b

theorem Step.refl {L : Addr} {σ : Loc} {h : Heap} {m : Str → Option Value} : Step L σ h m σ h m := ⟨fun _ _ e _ _ => e, fun _ _ _ _ x => x⟩
theorem Step.ofExt {L : Addr} {σ : Loc} {h h' : Heap} {m : Str → Option Value} (e : Ext h h') : Step L σ h m σ h' m := ⟨fun b o x _ _ => e b o x, fun _ _ _ _ x => x⟩
theorem Step.trans {L : Addr} {σ σ' σ'' : Loc} {h h' h'' : Heap} {m m' m'' : Str → Option Value} (a : Step L σ h m σ' h' m') (b : Step L σ' h' m' σ'' h'' m'') : Step L σ h m σ'' h'' m'' :=
  ⟨fun c o e n q => b.pres c o (a.pres c o e n q) n (a.own c o e n q), fun c o e n q => b.own c o (a.pres c o e n q) n (a.own c o e n q)⟩

/-- statements' run -/
def SS (X : Cx) (σ : Loc) (st : List Stmt) (P : Fl → Loc → Prop) : Prop :=
  ∀ (A : Around) (s : Shared) (m : Str → Option Value) (K : Flow → Shared → Prop), Room X A → X.St σ s.heap m →
    (∀ fl fl' σ' m' h' tk, P fl' σ' → FlRep h' X.ok fl fl' → X.St σ' h' m' → Step X.L σ s.heap m σ' h' m' → K fl { s with heap := h', toks := tk }) →
    wpAny (model X.G.prog X.G.w) A (execs st X.env) K NoE s
def S1 (X : Cx) (σ : Loc) (st : Stmt) (P : Fl → Loc → Prop) : Prop :=
  ∀ (A : Around) (s : Shared) (m : Str → Option Value) (K : Flow → Shared → Prop), Room X A → X.St σ s.heap m →
    (∀ fl fl' σ' m' h' tk, P fl' σ' → FlRep h' X.ok fl fl' → X.St σ' h' m' → Step X.L σ s.heap m σ' h' m' → K fl { s with heap := h', toks := tk }) →
    wpAny (model X.G.prog X.G.w) A (exec st X.env) K NoE s

theorem SS.nil {X : Cx} {σ : Loc} {P : Fl → Loc → Prop} (h : P .next σ) : SS X σ [] P := fun _ s m _ _ S hK =>
  wpAny_execs_nil (hK _ _ _ m s.heap s.toks h .next S .refl)
theorem SS.cons {X : Cx} {σ : Loc} {st : Stmt} {rest : List Stmt} {P : Fl → Loc → Prop} (h : S1 X σ st (fun fl σ' => match fl with | .next => SS X σ' rest P | f => P f σ')) : SS X σ (st :: rest) P := by
  intro A s m K R S hK
  refine wpAny_execs_cons (h A s m _ R S ?_)
  intro fl fl' σ' m' h' tk hP hf S' hs
  cases hf with
  | next => exact hP A _ m' K R S' fun fl fl' σ'' m'' h'' tk' hP' hf' S'' hs' => hK fl fl' σ'' m'' h'' tk' hP' hf' S'' (hs.trans hs')
  | brk => exact hK _ _ _ _ _ _ hP .brk S' hs
  | cont => exact hK _ _ _ _ _ _ hP .cont S' hs
  | ret r => exact hK _ _ _ _ _ _ hP (.ret r) S' hs

theorem SS.mono {X : Cx} {σ : Loc} {st : List Stmt} {P P' : Fl → Loc → Prop} (h : SS X σ st P) (hp : ∀ fl σ', P fl σ' → P' fl σ') : SS X σ st P' :=
  fun A s m K R S hK => h A s m K R S fun fl fl' σ' m' h' tk q => hK fl fl' σ' m' h' tk (hp _ _ q)
theorem SE.mono {X : Cx} {σ : Loc} {sf : Bool} {e : Expr} {P P' : D → Prop} (h : SE X σ sf e P) (hp : ∀ d, P d → P' d) : SE X σ sf e P' :=
  fun A s m K R S hK => h A s m K R S fun d v h' tk q => hK d v h' tk (hp _ q)

/-- fewer names -/
def Sub (σ' σ : Loc) : Prop := ∀ x sl, σ'.lookup x = some sl → σ.lookup x = some sl
theorem St.sub {h₀ : Heap} {ok : Addr → Prop} {L : Addr} {σ σ' : Loc} {h : Heap} {m : Str → Option Value} (S : St h₀ ok L σ h m) (H : Sub σ' σ) : St h₀ ok L σ' h m where
  F := S.F
  sl := fun x sl hx => by
    have q := S.sl x sl (H x sl hx)
    have w : ∀ b, (ok b ∧ NotOwn m σ b) → (ok b ∧ NotOwn m σ' b) := fun b hb => ⟨hb.1, fun y ds hy => hb.2 y ds (H y _ hy)⟩
    cases sl with
    | fr d => obtain ⟨v, h1, h2⟩ := q; exact ⟨v, h1, h2.weak w⟩
    | ow ds => obtain ⟨a, vs, n, h1, h0, h2, h3⟩ := q; exact ⟨a, vs, n, h1, h0, h2, h3.weak w⟩
  ap := fun x y ds es hx hy e => S.ap x y ds es (H x _ hx) (H y _ hy) e
theorem Step.sub {L : Addr} {σ σ' σ'' : Loc} {h h' : Heap} {m m' : Str → Option Value} (a : Step L σ h m σ' h' m') (H : Sub σ'' σ') : Step L σ h m σ'' h' m' :=
  ⟨a.pres, fun b o e n q y ds hy => a.own b o e n q y ds (H y _ hy)⟩

end Mine
end
section
set_option maxRecDepth 100000
open PySem PySem.W PyProof.Rows PySem.Calls
namespace Mine

section
variable {X : Cx} {σ : Loc} {sf : Bool} {P : D → Prop}

theorem SE.cnone {k : Nat} {pos : Pos} (h : P .none) : SE X σ sf (.Constant .none k pos) P := fun _ s _ _ _ _ hK =>
  wpAny_Constant_none (hK _ _ s.heap s.toks h (.refl _) .none)
theorem SE.cbool {b : Bool} {k : Nat} {pos : Pos} (h : P (.bool b)) : SE X σ sf (.Constant (.bool b) k pos) P := fun _ s _ _ _ _ hK =>
  wpAny_Constant_bool (hK _ _ s.heap s.toks h (.refl _) (.bool b))
theorem SE.cint {i : Int} {k : Nat} {pos : Pos} (h : P (.int i)) : SE X σ sf (.Constant (.int i) k pos) P := fun _ s _ _ _ _ hK =>
  wpAny_Constant_int (hK _ _ s.heap _ h (.refl _) (.int i _))
theorem SE.cstr {x : Str} {k : Nat} {pos : Pos} (h : P (.str x)) : SE X σ sf (.Constant (.str x) k pos) P := fun _ s _ _ _ _ hK =>
  wpAny_Constant_str (hK _ _ s.heap _ h (.refl _) (.str x _))
theorem SE.cbytes {b : List UInt8} {k : Nat} {pos : Pos} (h : P (.bytes b.toArray)) : SE X σ sf (.Constant (.bytes b) k pos) P := fun _ s _ _ _ _ hK =>
  (wpAny_mkTextBytes (hK _ _ s.heap _ h (.refl _) (.bytes b.toArray _)) : wpAny _ _ (mkTextBytes b.toArray) _ _ _)

theorem SE.name (O : X.Ok) {x : Str} {pos : Pos} {d : D} (hx : σ.lookup x = some (.fr d)) (h : P d) (hl : X.scope.names.lookup x = some .local) (hd : (x == ("__debug__" : Str)) = false := by decide) : SE X σ sf (.Name x pos) P := by
  intro A s m K R S hK
  obtain ⟨v, h1, h2⟩ := S.sl x _ hx
  exact wpAny_Name (wpAny_loadName_local O.hk hl S.F.ns h1 (hK _ _ s.heap s.toks h (.refl _) (h2.weak fun b hb => ⟨hb.1, fun _ => hb.2⟩))) hd
theorem SE.nameO (O : X.Ok) {x : Str} {pos : Pos} {ds : List D} (hx : σ.lookup x = some (.ow ds)) (h : P (.lst ds)) (hl : X.scope.names.lookup x = some .local) (hd : (x == ("__debug__" : Str)) = false := by decide) : SE X σ false (.Name x pos) P := by
  intro A s m K R S hK
  obtain ⟨a, vs, n, h1, h0, h2, h3⟩ := S.sl x _ hx
  refine wpAny_Name (wpAny_loadName_local O.hk hl S.F.ns h1 (hK _ _ s.heap s.toks h (.refl _) ?_)) hd
  exact .lst ⟨O.okb a h0.1, fun e => nomatch e⟩ ⟨_, h2, rfl, n, rfl⟩ (h3.weak fun b hb => ⟨hb.1, fun e => nomatch e⟩)

/-- weaker place facts -/
theorem SE.anyf {e : Expr} (h : SE X σ true e P) : SE X σ sf e P := fun A s m K R S hK =>
  h A s m K R S fun d v h' tk hp he hr => hK d v h' tk hp he (hr.weak fun _ q => ⟨q.1, fun _ => q.2 rfl⟩)
end

/-- an operator's word -/
def opW (op : Operator) (a b : D) (P : D → Prop) : Prop := match op, a, b with
  | .Add, .int a, .int b => P (.int (a + b))
  | .Sub, .int a, .int b => P (.int (a - b))
  | .Mult, .int a, .int b => IntMulOk a b ∧ P (.int (a * b))
  | .FloorDiv, .int a, .int b => b ≠ 0 ∧ b.natAbs.log2 < 9000 ∧ P (.int (a.fdiv b))
  | .Mod, .int a, .int b => b ≠ 0 ∧ P (.int (a.fmod b))
  | .Pow, .int a, .int b => 0 ≤ b ∧ b ≤ 1000000 ∧ a.natAbs < 2 ^ 64 ∧ P (.int (a ^ b.toNat))
  | .LShift, .int a, .int b => 0 ≤ b ∧ (Builtin.Int.intBits a : Int) + b ≤ 2 ^ 27 ∧ P (.int (a * 2 ^ b.toNat))
  | .RShift, .int a, .int b => 0 ≤ b ∧ P (.int (a.fdiv (2 ^ b.toNat)))
  | .BitAnd, .int a, .int b => P (.int (Builtin.bitAnd a b))
  | .BitOr, .int a, .int b => P (.int (Builtin.bitOr a b))
  | .BitXor, .int a, .int b => P (.int (Builtin.bitXor a b))
  | .Add, .lst a, .lst b => a.length + b.length ≤ sizeLine ∧ P (.lst (a ++ b))
  | _, _, _ => False

theorem Rep.int_inv {h : Heap} {ok : Addr → Prop} {v : Value} {i : Int} (r : Rep h ok v (.int i)) : ∃ t, v = .int i t := by cases r; exact ⟨_, rfl⟩
theorem Rep.bool_inv {h : Heap} {ok : Addr → Prop} {v : Value} {i : Bool} (r : Rep h ok v (.bool i)) : v = .bool i := by cases r; rfl
theorem Rep.lst_inv {h : Heap} {ok : Addr → Prop} {v : Value} {ds : List D} (r : Rep h ok v (.lst ds)) : ∃ a vs, v = .ref a ∧ ok a ∧ h.IsList a (List.toArray vs) ∧ Reps h ok vs ds := by cases r; exact ⟨_, _, rfl, by assumption, by assumption, by assumption⟩
theorem Rep.tup_inv {h : Heap} {ok : Addr → Prop} {v : Value} {ds : List D} (r : Rep h ok v (.tup ds)) : ∃ a vs, v = .ref a ∧ h.IsTuple a (List.toArray vs) ∧ Reps h ok vs ds := by cases r; exact ⟨_, _, rfl, by assumption, by assumption⟩
theorem Rep.bytes_inv {h : Heap} {ok : Addr → Prop} {v : Value} {i : Array UInt8} (r : Rep h ok v (.bytes i)) : ∃ t, v = .bytes i t := by cases r; exact ⟨_, rfl⟩
theorem Rep.str_inv {h : Heap} {ok : Addr → Prop} {v : Value} {i : Str} (r : Rep h ok v (.str i)) : ∃ t, v = .str i t := by cases r; exact ⟨_, rfl⟩

theorem isList_new {h : Heap} {vs : List Value} : (h.push { cls := .type "list", data := .seq vs.toArray }).IsList h.objs.size vs.toArray := ⟨_, Heap.get?_push_size _ rfl, rfl, 0, rfl⟩
theorem isTuple_new {h : Heap} {vs : List Value} : (h.push { cls := .type "tuple", data := .seq vs.toArray }).IsTuple h.objs.size vs.toArray := ⟨_, Heap.get?_push_size _ rfl, rfl, 0, rfl⟩

section
variable {X : Cx} {σ : Loc} {sf : Bool} {P : D → Prop}

theorem op_sound (O : X.Ok) {A : Around} {s : Shared} {m : Str → Option Value} {K : Value → Shared → Prop} (S : X.St σ s.heap m) {op : Operator} {a b : D} {va vb : Value} (H : opW op a b P) (ra : Rep s.heap (okE X m σ sf) va a) (rb : Rep s.heap (okE X m σ sf) vb b)
    (hK : ∀ d v h' tk, P d → Ext s.heap h' → Rep h' (okE X m σ sf) v d → K v { s with heap := h', toks := tk }) : wpAny (model X.G.prog X.G.w) A (binaryOp op va vb) K NoE s := by
  have fin : ∀ i : Int, P (.int i) → K (.int i s.toks) { s with toks := s.toks + 1 } := fun i hp => hK _ _ s.heap (s.toks + 1) hp (.refl _) (.int i _)
  unfold opW at H
  split at H
  · obtain ⟨t, rfl⟩ := ra.int_inv; obtain ⟨u, rfl⟩ := rb.int_inv; exact wpAny_add_int (fin _ H)
  · obtain ⟨t, rfl⟩ := ra.int_inv; obtain ⟨u, rfl⟩ := rb.int_inv; exact sub_int' (fin _ H)
  · obtain ⟨t, rfl⟩ := ra.int_inv; obtain ⟨u, rfl⟩ := rb.int_inv; exact PyProof.Rows.mul_int (fin _ H.2) H.1
  · obtain ⟨t, rfl⟩ := ra.int_inv; obtain ⟨u, rfl⟩ := rb.int_inv; exact PyProof.Rows.floordiv_int H.1 (fin _ H.2.2) (.inl (PyProof.noPylong_of_log2 H.2.1))
  · obtain ⟨t, rfl⟩ := ra.int_inv; obtain ⟨u, rfl⟩ := rb.int_inv; exact mod_int' H.1 (fin _ H.2)
  · obtain ⟨t, rfl⟩ := ra.int_inv; obtain ⟨u, rfl⟩ := rb.int_inv; exact pow_int_small H.1 H.2.1 H.2.2.1 (fin _ H.2.2.2)
  · obtain ⟨t, rfl⟩ := ra.int_inv; obtain ⟨u, rfl⟩ := rb.int_inv; exact PyProof.Rows.lshift_int H.1 H.2.1 (fin _ H.2.2)
  · obtain ⟨t, rfl⟩ := ra.int_inv; obtain ⟨u, rfl⟩ := rb.int_inv; exact PyProof.Rows.rshift_int H.1 (fin _ H.2)
  · obtain ⟨t, rfl⟩ := ra.int_inv; obtain ⟨u, rfl⟩ := rb.int_inv; exact PyProof.Rows.and_int (fin _ H)
  · obtain ⟨t, rfl⟩ := ra.int_inv; obtain ⟨u, rfl⟩ := rb.int_inv; exact PyProof.Rows.or_int (fin _ H)
  · obtain ⟨t, rfl⟩ := ra.int_inv; obtain ⟨u, rfl⟩ := rb.int_inv; exact PyProof.Rows.xor_int (fin _ H)
  · obtain ⟨a, vs, rfl, _, hl, ra⟩ := ra.lst_inv
    obtain ⟨b, us, rfl, _, hl', rb⟩ := rb.lst_inv
    obtain ⟨⟨c1, d1, q1, l1⟩, ho, hc, n1, hd⟩ := id hl
    obtain ⟨⟨c2, d2, q2, l2⟩, ho2, hc2, n2, hd2⟩ := id hl'
    dsimp only at hc hd hc2 hd2
    subst hc hd hc2 hd2
    refine concat_meets ⟨_, ho, rfl⟩ ⟨_, ho2, rfl⟩ noFill_list_add seq_list_add PySem.F.slot_list_add PySem.F.entry_list_add (PySem.F.args_list_add_2 _ _)
      (list_addW a b vs.toArray us.toArray n1 n2 d1 d2 l1 l2 (by rw [List.size_toArray, List.size_toArray, ra.length, rb.length]; exact H.1)) ⟨ho, ho2, ?_⟩
    rw [List.append_toArray]
    exact hK _ _ _ s.toks H.2 (Ext.push _ _) (.lst (okE_fresh O S (Nat.le_refl _)) isList_new ((ra.append rb).ext (Ext.push _ _)))
  · exact H.elim

theorem SE.bin (O : X.Ok) {op : Operator} {l r : Expr} {pos : Pos} (h : SE X σ sf l (fun a => SE X σ sf r (fun b => opW op a b P))) : SE X σ sf (.BinOp l op r pos) P := by
  intro A s m K R S hK
  refine wpAny_BinOp (h A s m _ R S fun a va h1 t1 ha e1 ra => ?_)
  refine ha A _ m _ R (S.ext e1) fun b vb h2 t2 hb e2 rb => ?_
  exact op_sound O ((S.ext e1).ext e2) hb (ra.ext e2) rb fun d v h' tk hp e3 r => hK d v h' tk hp ((e1.trans e2).trans e3) r

/-- the unary minus -/
theorem SE.neg {x : Expr} {pos : Pos} (h : SE X σ sf x (fun a => match a with | .int i => P (.int (-i)) | _ => False)) : SE X σ sf (.UnaryOp .USub x pos) P := by
  intro A s m K R S hK
  refine wpAny_UnaryOp (h A s m _ R S fun a va h1 t1 ha e1 ra => ?_)
  cases a with
  | int i => obtain ⟨t, rfl⟩ := ra.int_inv; exact PyProof.Rows.neg_int (hK _ _ h1 _ ha e1 (.int _ _))
  | _ => exact ha.elim

/-- a comparison's word -/
def cmpW (op : CmpOp) (a b : D) (P : Bool → Prop) : Prop := match op, a, b with
  | .Lt, .int a, .int b => P (decide (a < b))
  | .LtE, .int a, .int b => P (decide (a ≤ b))
  | .Gt, .int a, .int b => P (decide (b < a))
  | .GtE, .int a, .int b => P (decide (b ≤ a))
  | .Eq, .int a, .int b => P (decide (a = b))
  | .NotEq, .int a, .int b => P (!decide (a = b))
  | .Eq, .str a, .str b => P (a == b)
  | .Is, .bool a, .bool b => P (a == b)
  | .IsNot, .bool a, .bool b => P (!(a == b))
  | _, _, _ => False

theorem bool_beq (a b : Bool) : (Value.bool a == Value.bool b) = (a == b) := by cases a <;> cases b <;> decide
theorem cmp_sound {A : Around} {s : Shared} {ok : Addr → Prop} {K : Value → Shared → Prop} {Q : Bool → Prop} {op : CmpOp} {a b : D} {va vb : Value} (H : cmpW op a b Q) (ra : Rep s.heap ok va a) (rb : Rep s.heap ok vb b)
    (hK : ∀ b, Q b → K (.bool b) s) : wpAny (model X.G.prog X.G.w) A (compareOp op va vb) K NoE s := by
  unfold cmpW at H
  split at H
  · obtain ⟨t, rfl⟩ := ra.int_inv; obtain ⟨u, rfl⟩ := rb.int_inv; exact PyProof.Rows.lt_int (hK _ H)
  · obtain ⟨t, rfl⟩ := ra.int_inv; obtain ⟨u, rfl⟩ := rb.int_inv; exact PyProof.Rows.le_int (hK _ H)
  · obtain ⟨t, rfl⟩ := ra.int_inv; obtain ⟨u, rfl⟩ := rb.int_inv; exact PyProof.Rows.gt_int (hK _ H)
  · obtain ⟨t, rfl⟩ := ra.int_inv; obtain ⟨u, rfl⟩ := rb.int_inv; exact PyProof.Rows.ge_int (hK _ H)
  · obtain ⟨t, rfl⟩ := ra.int_inv; obtain ⟨u, rfl⟩ := rb.int_inv; exact PyProof.Rows.eq_int (hK _ H)
  · obtain ⟨t, rfl⟩ := ra.int_inv; obtain ⟨u, rfl⟩ := rb.int_inv; exact PyProof.Rows.ne_int (hK _ H)
  · obtain ⟨t, rfl⟩ := ra.str_inv; obtain ⟨u, rfl⟩ := rb.str_inv; exact PyProof.Rows.eq_str (hK _ H)
  · cases ra.bool_inv; cases rb.bool_inv; exact is_bool (hK _ H)
  · cases ra.bool_inv; cases rb.bool_inv; exact wpAny_isNot_plain rfl (hK _ (by rw [show (Value.bool _ == Value.bool _) = _ from bool_beq _ _]; exact H))
  · exact H.elim

theorem SE.cmp {op : CmpOp} {l r : Expr} {pos : Pos} (h : SE X σ sf l (fun a => SE X σ sf r (fun b => cmpW op a b fun c => P (.bool c)))) (hm : behindInMarks op r = false := by with_unfolding_all rfl) : SE X σ sf (.Compare l [op] [r] pos) P := by
  intro A s m K R S hK
  refine wpAny_Compare1 (h A s m _ R S fun a va h1 t1 ha e1 ra => ?_) hm
  refine ha A _ m _ R (S.ext e1) fun b vb h2 t2 hb e2 rb => ?_
  exact cmp_sound hb (ra.ext e2) rb fun c hc => hK _ _ h2 t2 hc (e1.trans e2) (.bool c)

/-- the conditional expression -/
theorem SE.ifexp {test body orelse : Expr} {pos : Pos} (h : ST X σ test (fun c => if c then SE X σ sf body P else SE X σ sf orelse P)) : SE X σ sf (.IfExp test body orelse pos) P := by
  intro A s m K R S hK
  refine wpAny_IfExp (h A s m _ R S fun c h1 t1 hc e1 => ?_)
  cases c with
  | true => exact hc A _ m _ R (S.ext e1) fun d v h' tk hp e2 r => hK d v h' tk hp (e1.trans e2) r
  | false => exact hc A _ m _ R (S.ext e1) fun d v h' tk hp e2 r => hK d v h' tk hp (e1.trans e2) r

/-- tests -/
theorem ST.cmp {l r : Expr} {op : CmpOp} {pos : Pos} {Q : Bool → Prop} (h : SE X σ false l (fun a => SE X σ false r (fun b => cmpW op a b Q))) (hm : behindInMarks op r = false := by with_unfolding_all rfl) : ST X σ (.Compare l [op] [r] pos) Q := by
  intro A s m K R S hK
  refine wpAny_isTrue_Compare1 (h A s m _ R S fun a va h1 t1 ha e1 ra => ?_) hm
  refine ha A _ m _ R (S.ext e1) fun b vb h2 t2 hb e2 rb => ?_
  exact cmp_sound hb (ra.ext e2) rb fun c hc => wpAny_truthy_bool (hK _ h2 t2 hc (e1.trans e2))
theorem ST.not {x : Expr} {pos : Pos} {Q : Bool → Prop} (h : ST X σ x (fun b => Q (!b))) : ST X σ (.UnaryOp .Not x pos) Q := fun A s m _ R S hK =>
  isTrue_not (h A s m _ R S fun _ h' tk hb e => hK _ h' tk hb e)
/-- a value's truth -/
def truW (d : D) (Q : Bool → Prop) : Prop := match d with
  | .bool b => Q b
  | .int i => Q (i != 0)
  | _ => False
theorem tru_sound {A : Around} {s : Shared} {ok : Addr → Prop} {K : Bool → Shared → Prop} {Q : Bool → Prop} {a : D} {va : Value} (H : truW a Q) (ra : Rep s.heap ok va a) (hK : ∀ b, Q b → K b s) : wpAny (model X.G.prog X.G.w) A (truthy va) K NoE s := by
  unfold truW at H
  split at H
  · cases ra.bool_inv; exact wpAny_truthy_bool (hK _ H)
  · obtain ⟨t, rfl⟩ := ra.int_inv; exact PySem.P.truthy_int (hK _ H)
  · exact H.elim
theorem ST.plain {e : Expr} {Q : Bool → Prop} (h : SE X σ false e (fun d => truW d Q))
    (hp : ∀ (env : Env) (whole : Sem Value), isTrue e env whole = (do let v ← whole; standAt e.pos; holding [v] (truthy v)) := by intro _ _; rfl) : ST X σ e Q := by
  intro A s m K R S hK
  refine isTrue_plain (h A s m _ R S fun d v h1 t1 hd e1 r => ?_) (hp _ _)
  exact tru_sound hd r fun b hb => hK b h1 t1 hb e1
/-- two comparisons in a chain -/
theorem ST.chain {l r₁ r₂ : Expr} {o₁ o₂ : CmpOp} {pos : Pos} {Q : Bool → Prop} (h : SE X σ false l (fun a => SE X σ false r₁ (fun b => cmpW o₁ a b fun c => if c then SE X σ false r₂ (fun d => cmpW o₂ b d Q) else Q false)))
    (hm : lastMarks [o₁, o₂] [r₁, r₂] = false := by with_unfolding_all rfl) : ST X σ (.Compare l [o₁, o₂] [r₁, r₂] pos) Q := by
  intro A s m K R S hK
  refine isTrue_chain (h A s m _ R S fun a va h1 t1 ha e1 ra => ?_) hm
  refine test_link (ha A _ m _ R (S.ext e1) fun b vb h2 t2 hb e2 rb => ?_)
  refine cmp_sound hb (ra.ext e2) rb fun c hc => wpAny_truthy_bool ?_
  cases c with
  | false => exact hK _ h2 t2 hc (e1.trans e2)
  | true =>
    refine test_last (hc A _ m _ R ((S.ext e1).ext e2) fun d vd h3 t3 hd e3 rd => ?_)
    exact cmp_sound hd (rb.ext e3) rd fun c hc => wpAny_truthy_bool (hK _ h3 t3 hc ((e1.trans e2).trans e3))
/-- and, or -/
theorem ST.and_nil {pos : Pos} {Q : Bool → Prop} (h : Q true) : ST X σ (.BoolOp .And [] pos) Q := fun _ s _ _ _ _ hK => isTrue_and_nil (hK _ s.heap s.toks h (.refl _))
theorem ST.or_nil {pos : Pos} {Q : Bool → Prop} (h : Q false) : ST X σ (.BoolOp .Or [] pos) Q := fun _ s _ _ _ _ hK => isTrue_or_nil (hK _ s.heap s.toks h (.refl _))
theorem ST.and {x : Expr} {rest : List Expr} {pos : Pos} {Q : Bool → Prop} (h : ST X σ x (fun c => if c then ST X σ (.BoolOp .And rest pos) Q else Q false)) : ST X σ (.BoolOp .And (x :: rest) pos) Q := by
  intro A s m K R S hK
  refine isTrue_and (h A s m _ R S fun c h1 t1 hc e1 => ?_)
  cases c with
  | false => exact hK _ h1 t1 hc e1
  | true => exact hc A _ m _ R (S.ext e1) fun b h2 t2 hb e2 => hK b h2 t2 hb (e1.trans e2)
theorem ST.or {x : Expr} {rest : List Expr} {pos : Pos} {Q : Bool → Prop} (h : ST X σ x (fun c => if c then Q true else ST X σ (.BoolOp .Or rest pos) Q)) : ST X σ (.BoolOp .Or (x :: rest) pos) Q := by
  intro A s m K R S hK
  refine isTrue_or (h A s m _ R S fun c h1 t1 hc e1 => ?_)
  cases c with
  | true => exact hK _ h1 t1 hc e1
  | false => exact hc A _ m _ R (S.ext e1) fun b h2 t2 hb e2 => hK b h2 t2 hb (e1.trans e2)
theorem SE.bool_one {op : BoolOp} {e : Expr} {pos : Pos} (h : SE X σ sf e P) : SE X σ sf (.BoolOp op [e] pos) P := fun A s m K R S hK => BoolOp_one (h A s m K R S hK)
theorem SE.and {e₁ e₂ : Expr} {rest : List Expr} {pos : Pos} (h : SE X σ sf e₁ (fun a => match a with | .bool true => SE X σ sf (.BoolOp .And (e₂ :: rest) pos) P | .bool false => P (.bool false) | _ => False)) : SE X σ sf (.BoolOp .And (e₁ :: e₂ :: rest) pos) P := by
  intro A s m K R S hK
  refine BoolOp_and (h A s m _ R S fun a va h1 t1 ha e1 ra => ?_)
  cases a with
  | bool c =>
    cases ra.bool_inv
    refine wpAny_truthy_bool ?_
    cases c with
    | false => exact hK _ _ h1 t1 ha e1 (.bool false)
    | true => exact ha A _ m _ R (S.ext e1) fun d v h' tk hp e2 r => hK d v h' tk hp (e1.trans e2) r
  | _ => exact ha.elim
theorem SE.or {e₁ e₂ : Expr} {rest : List Expr} {pos : Pos} (h : SE X σ sf e₁ (fun a => match a with | .bool false => SE X σ sf (.BoolOp .Or (e₂ :: rest) pos) P | .bool true => P (.bool true) | _ => False)) : SE X σ sf (.BoolOp .Or (e₁ :: e₂ :: rest) pos) P := by
  intro A s m K R S hK
  refine BoolOp_or (h A s m _ R S fun a va h1 t1 ha e1 ra => ?_)
  cases a with
  | bool c =>
    cases ra.bool_inv
    refine wpAny_truthy_bool ?_
    cases c with
    | true => exact hK _ _ h1 t1 ha e1 (.bool true)
    | false => exact ha A _ m _ R (S.ext e1) fun d v h' tk hp e2 r => hK d v h' tk hp (e1.trans e2) r
  | _ => exact ha.elim

/-- lists of expressions -/
theorem SEs.nil {Q : List D → Prop} (h : Q []) : SEs X σ sf [] Q := fun _ s _ _ _ _ _ hK => spliced_none (hK _ _ s.heap s.toks h (.refl _) .nil)
theorem SEs.cons {e : Expr} {rest : List Expr} {Q : List D → Prop} (h : SE X σ sf e (fun d => SEs X σ sf rest (fun ds => Q (d :: ds)))) (he : ∀ env, starEach (e :: rest) env = (false, eval e env) :: starEach rest env := by intro _; rfl) : SEs X σ sf (e :: rest) Q := by
  intro A s m pos K R S hK
  refine spliced_more (h A s m _ R S fun d v h1 t1 hd e1 r => ?_) (he _)
  exact hd A _ m pos _ R (S.ext e1) fun ds vs h2 t2 hq e2 rs => hK _ _ h2 t2 hq (e1.trans e2) (.cons (r.ext e2) rs)
theorem SE.tuple {es : List Expr} {k : Nat} {pos : Pos} (h : SEs X σ sf es (fun ds => ds.length ≤ 1000 ∧ P (.tup ds))) : SE X σ sf (.Tuple es k pos) P := by
  intro A s m K R S hK
  refine Tuple_ (h A s m pos _ R S fun ds vs h1 t1 hd e1 rs => ?_)
  refine wpAny_newObj_type ?_ (by show vs.toArray.size ≤ sizeLine; rw [List.size_toArray, rs.length]; exact Nat.le_trans hd.1 (by decide))
  exact hK _ _ _ t1 hd.2 (e1.trans (Ext.push _ _)) (.tup isTuple_new (rs.ext (Ext.push _ _)))
theorem SE.list (O : X.Ok) {es : List Expr} {pos : Pos} (h : SEs X σ sf es (fun ds => ds.length ≤ 1000 ∧ P (.lst ds))) : SE X σ sf (.List es pos) P := by
  intro A s m K R S hK
  refine List_ (h A s m pos _ R S fun ds vs h1 t1 hd e1 rs => ?_)
  refine wpAny_newObj_type ?_ (by show vs.toArray.size ≤ sizeLine; rw [List.size_toArray, rs.length]; exact Nat.le_trans hd.1 (by decide))
  exact hK _ _ _ t1 hd.2 (e1.trans (Ext.push _ _)) (.lst (okE_fresh O (S.ext e1) (Nat.le_refl _)) isList_new (rs.ext (Ext.push _ _)))

end
end Mine
end
section
set_option maxRecDepth 100000
open PySem PySem.W PyProof.Rows PySem.Calls
namespace Mine

/-- an item -/
def subW (a b : D) (P : D → Prop) : Prop := match a, b with
  | .lst ds, .int i => (0 ≤ i ∧ i < 2 ^ 63 ∧ ∃ d, ds[i.toNat]? = some d ∧ P d) ∨ (i = -1 ∧ ∃ d, ds.getLast? = some d ∧ P d)
  | .tup ds, .int i => 0 ≤ i ∧ i < 2 ^ 63 ∧ ∃ d, ds[i.toNat]? = some d ∧ P d
  | .bytes b, .int i => 0 ≤ i ∧ i < b.size ∧ b.size ≤ 1099511627776 ∧ P (.int (b.toList.getD i.toNat 0).toNat)
  | _, _ => False

section
variable {X : Cx} {σ : Loc} {sf : Bool} {P : D → Prop}

theorem sub_sound {A : Around} {s : Shared} {ok : Addr → Prop} {K : Value → Shared → Prop} {value slice : Expr} {a b : D} {va vb : Value} (H : subW a b P) (ra : Rep s.heap ok va a) (rb : Rep s.heap ok vb b)
    (hs : subscripted slice false va vb = operate [va, vb] (getItem va vb))
    (hK : ∀ d v tk, P d → Rep s.heap ok v d → K v { s with toks := tk }) : wpAny (model X.G.prog X.G.w) A (subscriptTail value slice va vb) K NoE s := by
  unfold subW at H
  split at H
  · rename_i ds i
    obtain ⟨l, vs, rfl, hok, hl, rs⟩ := ra.lst_inv
    obtain ⟨t, rfl⟩ := rb.int_inv
    rcases H with ⟨h0, h1, d, hd, hp⟩ | ⟨rfl, d, hd, hp⟩
    · obtain ⟨v, hv, rv⟩ := rs.get hd
      exact tail_any hl.typeIs slot_list_getitem.lookup (wpAny_getItem_list hl h0 h1 (by simpa using hv) (hK d v s.toks hp rv)) hs
    · have hne : 0 < ds.length := by
        cases ds with
        | nil => cases hd
        | cons _ _ => exact Nat.succ_pos _
      have hd' : ds[ds.length - 1]? = some d := by rw [← hd, List.getLast?_eq_getElem?]
      obtain ⟨v, hv, rv⟩ := rs.get hd'
      have hlen := rs.length
      refine tail_any hl.typeIs slot_list_getitem.lookup (wpAny_getItem_list_neg hl (by omega) (by simp only [List.size_toArray]; omega) (by omega) (x := v) ?_ (hK d v s.toks hp rv)) hs
      have : (-1 + ((vs.toArray.size : Nat) : Int)).toNat = ds.length - 1 := by simp only [List.size_toArray]; omega
      rw [this]
      simpa using hv
  · rename_i ds i
    obtain ⟨l, vs, rfl, hl, rs⟩ := ra.tup_inv
    obtain ⟨t, rfl⟩ := rb.int_inv
    obtain ⟨h0, h1, d, hd, hp⟩ := H
    obtain ⟨v, hv, rv⟩ := rs.get hd
    have hlt : i.toNat < vs.length := by
      rcases Nat.lt_or_ge i.toNat vs.length with h | h
      · exact h
      · rw [List.getElem?_eq_none h] at hv; cases hv
    exact item_tupleT hl (by omega) h1 (seqIndex_of h0 (by omega)) hv (hK d v s.toks hp rv) hs
  · rename_i b i
    obtain ⟨t, rfl⟩ := ra.bytes_inv
    obtain ⟨u, rfl⟩ := rb.int_inv
    obtain ⟨h0, h1, h2, hp⟩ := H
    have e : b = b.toList.toArray := by simp
    rw [e]
    rw [e] at hs
    refine tail_any (typeIs_bytes _ _ _) FB.slot_bytes_getitem.lookup (getItem_bytes (by simpa using h2) h0 (by simpa using h1) (hK _ _ _ hp (.int _ _))) hs
  · exact H.elim

theorem SE.sub {value slice : Expr} {pos : Pos} (h : SE X σ sf value (fun a => SE X σ sf slice (fun b => subW a b P)))
    (hs : ∀ o i, subscripted slice false o i = operate [o, i] (getItem o i) := by intro _ _; rfl) : SE X σ sf (.Subscript value slice pos) P := by
  intro A s m K R S hK
  refine Subscript_ (h A s m _ R S fun a va h1 t1 ha e1 ra => ?_)
  refine ha A _ m _ R (S.ext e1) fun b vb h2 t2 hb e2 rb => ?_
  exact sub_sound hb (ra.ext e2) rb (hs _ _) fun d v tk hp r => hK d v h2 tk hp (e1.trans e2) r

/-- bit_length -/
theorem SE.bitlen {o : Expr} {apos pos : Pos} (h : SE X σ sf o (fun a => match a with | .int i => P (.int (Builtin.Int.intBits i : Nat)) | _ => False))
    (hb : ∀ env, attributeBase o (Str.ofString "bit_length") env (eval o env) = eval o env := by intro _; rfl) (hl : (apos.endLine == pos.line) = true := by rfl) :
    SE X σ sf (.Call (.Attribute o (Str.ofString "bit_length") apos) [] [] pos) P := by
  intro A s m K R S hK
  refine wpAny_Call_method0_late (hb _) hl (h A s m _ R S fun a va h1 t1 ha e1 ra => ?_)
  cases a with
  | int i =>
    obtain ⟨t, rfl⟩ := ra.int_inv
    refine ⟨"int", "int.bit_length", PySem.F.plainAttrs_int, PyProof.Rows.slot_int_bit_length, PyProof.Rows.type_int_bit_length, typeIs_int _ i t, (fun _ e => nomatch e), ?_⟩
    refine callWith_builtin rfl ?_
    refine PyProof.Rows.evalArgs_none ?_
    exact PyProof.Rows.call_int_bit_length (hK _ _ h1 _ ha e1 (.int _ _))
  | _ => exact ha.elim

/-- a call of a built-in function or type, or of the text's own def -/
theorem spliced_args {A : Around} {s : Shared} {env : Env} {e : Expr} {rest : List Expr} {pos : Pos} {f : Value} {M : Model} {Q : Args → Shared → Prop} {E : Value → Shared → Prop} (he : starEach (e :: rest) env = (false, eval e env) :: starEach rest env)
    (h : wpAny M A (spliced (backTo pos (starEach (e :: rest) env))) (fun vs s' => Q ⟨vs, []⟩ s') E s) : wpAny M A (evalArgs f true (backTo pos (starEach (e :: rest) env)) []) Q E s := by
  have e1 : backTo pos (starEach (e :: rest) env) = (false, eval e env) :: backTo pos (starEach rest env) := by
    rw [he]; simp [backTo]
  rw [e1] at h ⊢
  exact evalArgs_plain h

/-- a slice -/
def cutRev : List D → List D := List.reverse

theorem SE.rev (O : X.Ok) {value : Expr} {u : Pos} {k : Nat} {p up pos : Pos}
    (h : SE X σ sf value (fun a => match a with | .lst ds => ds.length ≤ sizeLine ∧ P (.lst ds.reverse) | _ => False)) (ht : ∀ o r, letTemporaryGo value o r = pure () := by intro _ _; rfl) :
    SE X σ sf (.Subscript value (.Slice none none (some (.UnaryOp .USub (.Constant (.int 1) k u) up)) p) pos) P := by
  intro A s m K R S hK
  refine wpAny_Subscript_Slice_step (T := "list") list_getitem_lookup (h A s m _ R S fun a va h1 t1 ha e1 ra => ?_) ht
  cases a with
  | lst ds =>
    obtain ⟨l, vs, rfl, hok, hl, rs⟩ := ra.lst_inv
    refine wpAny_Slice ?_
    rw [evalPart_none, evalPart_some]
    refine wpAny_pure (wpAny_pure ?_)
    refine wpAny_UnaryOp (wpAny_Constant_int (PyProof.Rows.neg_int ?_))
    refine ⟨(hl.push _).typeIs, wpAny_getItem_list_slice (hl.push _) (Heap.IsSliceOf.new ..) .none .none (.int _ _) (by decide) ?_ (by rw [List.size_toArray, rs.length]; exact ha.1)⟩
    rw [show (-1 : Int) = -1 from rfl, krv_pick]
    refine hK _ _ _ _ ha.2 ((e1.trans (Ext.push _ _)).trans (Ext.push _ _)) (.lst (okE_fresh O ((S.ext e1).ext (Ext.push _ _)) (Nat.le_refl _)) isList_new ?_)
    exact rs.reverse.ext ((Ext.push _ _).trans (Ext.push _ _))
  | _ => exact ha.elim

theorem SE.cut (O : X.Ok) {value lo hi : Expr} {p pos : Pos}
    (h : SE X σ sf value (fun a => SE X σ sf lo (fun b => SE X σ sf hi (fun c => match a, b, c with | .lst ds, .int i, .int j => ds.length ≤ sizeLine ∧ 0 ≤ i ∧ i ≤ j ∧ j ≤ ds.length ∧ P (.lst ((ds.drop i.toNat).take (j.toNat - i.toNat))) | _, _, _ => False))))
    (ht : ∀ o r, letTemporaryGo value o r = pure () := by intro _ _; rfl) :
    SE X σ sf (.Subscript value (.Slice (some lo) (some hi) none p) pos) P := by
  intro A s m K R S hK
  refine wpAny_Subscript_list_slice (h A s m _ R S fun a va h1 t1 ha e1 ra => ?_) ht
  rw [evalPart_some, evalPart_some]
  refine ha A _ m _ R (S.ext e1) fun b vb h2 t2 hb e2 rb => ?_
  refine hb A _ m _ R ((S.ext e1).ext e2) fun c vc h3 t3 hc e3 rc => ?_
  dsimp only at hc ⊢
  split at hc
  · rename_i ds i j
    obtain ⟨l, vs, rfl, hok, hl, rs⟩ := ra.lst_inv
    obtain ⟨t, rfl⟩ := rb.int_inv
    obtain ⟨u, rfl⟩ := rc.int_inv
    obtain ⟨h4, h5, h6, h7, hp⟩ := hc
    refine ⟨l, vs.toArray, some i, some j, rfl, hl.at fun o e => e3 _ _ (e2 _ _ e), by rw [List.size_toArray, rs.length]; exact h4, .int _ _, .int _ _, ?_⟩
    obtain ⟨x, rfl⟩ := Int.eq_ofNat_of_zero_le h5
    obtain ⟨y, rfl⟩ := Int.eq_ofNat_of_zero_le (show 0 ≤ j by omega)
    rw [slicePick_run vs.toArray x y (by rw [List.size_toArray, rs.length]; omega) (by omega)]
    refine hK _ _ _ _ hp ((((e1.trans e2).trans e3).trans (Ext.push _ _)).trans (Ext.push _ _)) ?_
    rw [← Heap.size_push h3]
    refine .lst (okE_fresh O ((((S.ext e1).ext e2).ext e3).ext (Ext.push _ _)) (Nat.le_refl _)) isList_new ?_
    exact (((rs.ext e2).ext e3).drop _ |>.take _).ext ((Ext.push _ _).trans (Ext.push _ _))
  · exact hc.elim
theorem SE.butlast (O : X.Ok) {value : Expr} {n : Int} {k : Nat} {u up p pos : Pos}
    (h : SE X σ sf value (fun a => match a with | .lst ds => ds.length ≤ sizeLine ∧ 1 ≤ n ∧ P (.lst (ds.take (ds.length - n.toNat))) | _ => False))
    (ht : ∀ o r, letTemporaryGo value o r = pure () := by intro _ _; rfl) :
    SE X σ sf (.Subscript value (.Slice none (some (.UnaryOp .USub (.Constant (.int n) k u) up)) none p) pos) P := by
  intro A s m K R S hK
  refine wpAny_Subscript_list_slice (h A s m _ R S fun a va h1 t1 ha e1 ra => ?_) ht
  rw [evalPart_none, evalPart_some]
  refine wpAny_pure ?_
  refine wpAny_UnaryOp (wpAny_Constant_int (PyProof.Rows.neg_int ?_))
  cases a with
  | lst ds =>
    obtain ⟨l, vs, rfl, hok, hl, rs⟩ := ra.lst_inv
    obtain ⟨h4, h5, hp⟩ := ha
    refine ⟨l, vs.toArray, none, some (-n), rfl, hl, by rw [List.size_toArray, rs.length]; exact h4, .none, .int _ _, ?_⟩
    obtain ⟨x, rfl⟩ := Int.eq_ofNat_of_zero_le (show 0 ≤ n by omega)
    dsimp only
    have e : (vs.toArray.toList.take (vs.toArray.size - x)) = vs.take (ds.length - x) := by rw [List.size_toArray, rs.length]
    rw [slicePick_butLast vs.toArray x (by omega), e]
    refine hK _ _ _ _ hp ((e1.trans (Ext.push _ _)).trans (Ext.push _ _)) ?_
    rw [← Heap.size_push h1]
    refine .lst (okE_fresh O ((S.ext e1).ext (Ext.push _ _)) (Nat.le_refl _)) isList_new ?_
    exact (rs.take _).ext ((Ext.push _ _).trans (Ext.push _ _))
  | _ => exact ha.elim
end
end Mine
end
section
set_option maxRecDepth 100000
open PySem PySem.W PyProof.Rows PySem.Calls
namespace Mine

/-- a def of the text stands under a global name -/
def HasDef (G : GG) (d : DefRec) : Prop :=
  ∃ f o pm code doc, G.mg d.name = some (.ref f) ∧ G.top.get? f = some o ∧ o.data = .func (docDef d.name d.params d.body d.scope pm code doc) ∧ G.top.CodeRec code d.name
def IsFn (G : GG) (name : Str) : Prop := ∃ f o fd, G.mg name = some (.ref f) ∧ G.top.get? f = some o ∧ o.data = .func fd
theorem HasDef.fn {G : GG} {d : DefRec} (h : HasDef G d) : IsFn G d.name := by
  obtain ⟨f, o, pm, code, doc, h1, h2, h3, _⟩ := h
  exact ⟨f, o, _, h1, h2, h3⟩

/-- what a def of the text does, for these data -/
def Spec (G : GG) (k : Nat) (nh : Prop) (name : Str) (ds : List D) (P : D → Prop) : Prop :=
  ∀ f, G.mg name = some (.ref f) →
    ∀ (A : Around) (s : Shared) (vs : List Value) (ok : Addr → Prop) (K : Value → Shared → Prop), Ext G.top s.heap → A.depth + k < recursionLimit → A.units + 20 * k + 100 < cLine → (nh → A.handled = none) →
      (∀ a, s.heap.objs.size ≤ a → ok a) → Reps s.heap ok vs ds →
      (∀ d v h' tk, P d → Ext s.heap h' → Rep h' ok v d → K v { s with heap := h', toks := tk }) → wpAny (model G.prog G.w) A (call (.ref f) vs) K NoE s

theorem Spec.mono {G : GG} {k : Nat} {nh : Prop} {name : Str} {ds : List D} {P P' : D → Prop} (h : Spec G k nh name ds P) (hp : ∀ d, P d → P' d) : Spec G k nh name ds P' :=
  fun f hf A s vs ok K e hd hu hh ho hr hK => h f hf A s vs ok K e hd hu hh ho hr fun d v h' tk hp' => hK d v h' tk (hp d hp')

theorem St.topExt {X : Cx} (O : X.Ok) {σ : Loc} {h : Heap} {m : Str → Option Value} (S : X.St σ h m) : Ext X.G.top h := fun b o e => S.F.keep b o (O.tp b o e)

section
variable {X : Cx} {σ : Loc} {sf : Bool} {P : D → Prop}

/-- a call of a def -/
theorem SE.call (O : X.Ok) {k : Nat} {nh : Prop} {f : Str} {e : Expr} {rest : List Expr} {np pos : Pos} (h : SEs X σ sf (e :: rest) (fun ds => Spec X.G k nh f ds P)) (hf : IsFn X.G f) (hk : k ≤ X.k) (hn : nh → X.nh)
    (hx : X.scope.names.lookup f = some .globalImplicit) (he : ∀ env, starEach (e :: rest) env = (false, eval e env) :: starEach rest env := by intro _; rfl) (hd : (f == ("__debug__" : Str)) = false := by decide) :
    SE X σ sf (.Call (.Name f np) (e :: rest) [] pos) P := by
  intro A s m K R S hK
  obtain ⟨fa, o, fd, hfa, hto, hdat⟩ := hf
  refine wpAny_Call_NameR (Name_function_global O.hk hx (loadGlobal_global (O.hg ▸ (O.GO.g.keeps O.tp).keeps S.F.keep) hfa ?_) hd)
  refine callWith_function (o := o) (fd := fd) (spliced_args (he _) (h A s m pos _ R S fun ds vs h1 t1 hs e1 rs => ?_))
  refine ⟨⟨e1 _ _ (S.topExt O _ _ hto), hdat⟩, ?_⟩
  have S1 := S.ext e1
  refine hs fa hfa A _ vs (okE X m σ sf) K (S1.topExt O) ?_ ?_ (fun x => R.h (hn x)) (fun _ H => okE_fresh O S1 H) rs fun d v h' tk hp e2 r => hK d v h' tk hp (e1.trans e2) r
  · have := R.d; omega
  · have := R.u; omega

/-- a call of a built-in thing -/
def BSpec (X : Cx) (sf : Bool) (σ : Loc) (b : Value) (ds : List D) (P : D → Prop) : Prop :=
  ∀ (A : Around) (s : Shared) (m : Str → Option Value) (vs : List Value) (K : Value → Shared → Prop), Room X A → X.St σ s.heap m → Reps s.heap (okE X m σ sf) vs ds →
    (∀ d v h' tk, P d → Ext s.heap h' → Rep h' (okE X m σ sf) v d → K v { s with heap := h', toks := tk }) → wpAny (model X.G.prog X.G.w) A (call b vs) K NoE s

theorem noStar {es : List Expr} {env : Env} {pos : Pos} {vs : List (Sem Value)} (h : starEach es env = vs.map fun v => (false, v)) : (backTo pos (starEach es env)).any (·.1) = false := by
  rw [h]; induction vs with
  | nil => rfl
  | cons v r ih => simp [backTo]

theorem SE.bcall (O : X.Ok) {f : Str} {b : Value} {e : Expr} {rest : List Expr} {np pos : Pos} (h : SEs X σ sf (e :: rest) (fun ds => BSpec X sf σ b ds P))
    (hb : (∃ id, b = .builtin id) ∨ ∃ T, b = .type T)
    (hm : X.G.mg f = none) (hv : X.G.mb f = some b) (hx : X.scope.names.lookup f = some .globalImplicit) (he : ∀ env, starEach (e :: rest) env = (false, eval e env) :: starEach rest env := by intro _; rfl)
    (hr : ∀ env pos, (backTo pos (starEach (e :: rest) env)).any (·.1) = false := by intro _ _; rfl) (hd : (f == ("__debug__" : Str)) = false := by decide) :
    SE X σ sf (.Call (.Name f np) (e :: rest) [] pos) P := by
  intro A s m K R S hK
  refine wpAny_Call_NameR (Name_function_global O.hk hx (loadGlobal_builtin (O.hg ▸ (O.GO.g.keeps O.tp).keeps S.F.keep) hm (O.hb ▸ (O.GO.b.keeps O.tp).keeps S.F.keep) hv ?_) hd)
  have go : ∀ fv, wpAny (model X.G.prog X.G.w) A (evalArgs fv true (backTo pos (starEach (e :: rest) X.env)) []) (fun a s₁ => wpAny (model X.G.prog X.G.w) A (PySem.call b ([] ++ a.pos) a.kw) K NoE s₁) NoE s := fun fv =>
    spliced_args (he _) (h A s m pos _ R S fun ds vs h1 t1 hs e1 rs => hs A _ m vs K R (S.ext e1) rs fun d v h' tk hp e2 r => hK d v h' tk hp (e1.trans e2) r)
  rcases hb with ⟨id, rfl⟩ | ⟨T, rfl⟩
  · exact callWith_builtin (hr _ _) (go _)
  · exact PySem.callWith_type (hr _ _) (go _)

theorem BSpec.len {d : D} (h : match d with | .lst ds => ds.length ≤ 2 ^ 40 ∧ P (.int ds.length) | .bytes b => b.size ≤ 2 ^ 40 ∧ P (.int b.size) | _ => False) : BSpec X sf σ (.builtin "len") [d] P := by
  intro A s m vs K R S rs hK
  cases rs with
  | cons r rs =>
    cases rs
    cases d with
    | lst ds =>
      obtain ⟨l, us, rfl, hok, hl, ra⟩ := r.lst_inv
      have e : (us.toArray.size : Int) = ds.length := by rw [List.size_toArray, ra.length]
      refine call_len_list hl (by rw [e]; have := h.1; omega) ?_
      rw [e]; exact hK _ _ _ _ h.2 (.refl _) (.int _ _)
    | bytes b =>
      obtain ⟨t, rfl⟩ := r.bytes_inv
      exact len_bytes (by have := h.1; omega) (hK _ _ _ _ h.2 (.refl _) (.int _ _))
    | _ => exact h.elim
theorem BSpec.max {a b : Int} (hn : X.nh) (h : P (.int (if b > a then b else a))) : BSpec X sf σ (.builtin "max") [.int a, .int b] P := by
  intro A s m vs K R S rs hK
  cases rs with
  | cons r rs =>
    cases rs with
    | cons r2 rs =>
      cases rs
      obtain ⟨t, rfl⟩ := r.int_inv
      obtain ⟨u, rfl⟩ := r2.int_inv
      refine max_two_ints (R.h hn) fun h' tk e => ?_
      by_cases c : b > a
      · rw [if_pos c] at h ⊢; exact hK _ _ _ _ h e (.int _ _)
      · rw [if_neg c] at h ⊢; exact hK _ _ _ _ h e (.int _ _)
theorem BSpec.min {a b : Int} (hn : X.nh) (h : P (.int (if b < a then b else a))) : BSpec X sf σ (.builtin "min") [.int a, .int b] P := by
  intro A s m vs K R S rs hK
  cases rs with
  | cons r rs =>
    cases rs with
    | cons r2 rs =>
      cases rs
      obtain ⟨t, rfl⟩ := r.int_inv
      obtain ⟨u, rfl⟩ := r2.int_inv
      refine min_two_ints (R.h hn) fun h' tk e => ?_
      by_cases c : b < a
      · rw [if_pos c] at h ⊢; exact hK _ _ _ _ h e (.int _ _)
      · rw [if_neg c] at h ⊢; exact hK _ _ _ _ h e (.int _ _)
theorem BSpec.range {n : Int} (h : P (.rng n.toNat)) (h0 : 0 ≤ n) : BSpec X sf σ (.type "range") [.int n] P := by
  intro A s m vs K R S rs hK
  cases rs with
  | cons r rs =>
    cases rs
    obtain ⟨t, rfl⟩ := r.int_inv
    refine call_range_1 (hK _ _ _ _ h (Ext.push _ _) (.rng (t := s.toks) (u := t) (v := s.toks + 1) ?_))
    rw [Int.toNat_of_nonneg h0]
    exact Heap.get?_push_size _ rfl
/-- ints, all of them -/
def Ints (ds : List D) (ns : List Int) : Prop := ds = ns.map D.int
theorem Reps.ints {h : Heap} {ok : Addr → Prop} : ∀ {vs : List Value} {ns : List Int}, Reps h ok vs (ns.map D.int) → IntsAre vs ns
  | [], [], _ => by first | exact .nil | constructor
  | _ :: _, n :: ns, .cons r rs => by
    obtain ⟨t, rfl⟩ := r.int_inv
    first | exact .cons _ _ (Reps.ints rs) | exact .cons (Reps.ints rs)
theorem BSpec.bytes {ns : List Int} (hn : X.nh) (hr : ∀ n ∈ ns, 0 ≤ n ∧ n < 256) (hz : ns.length ≤ sizeLine) (h : P (.bytes (byteArr ns))) : BSpec X sf σ (.type "bytes") [.lst (ns.map D.int)] P := by
  intro A s m vs K R S rs hK
  cases rs with
  | cons r rs =>
    cases rs
    obtain ⟨l, us, rfl, hok, hl, ra⟩ := r.lst_inv
    exact call_bytes_ints hl ra.ints hr (by rw [ra.length, List.length_map]; exact hz) (R.h hn) fun h' t k e => hK _ _ _ _ h e (.bytes _ _)
theorem BSpec.sum {ns : List Int} (hn : X.nh) (h : P (.int ns.sum)) : BSpec X sf σ (.builtin "sum") [.lst (ns.map D.int)] P := by
  intro A s m vs K R S rs hK
  cases rs with
  | cons r rs =>
    cases rs
    obtain ⟨l, us, rfl, hok, hl, ra⟩ := r.lst_inv
    have hi := ra.ints
    obtain ⟨xs, hx⟩ := hi.allInts.items
    refine sum_intListG (xs := xs) (R.h hn) (hx ▸ hl) fun h' tk t' e => ?_
    have e1 : xs.toList.map (·.1) = ns := by
      rw [← nums_intItems, ← hx]
      exact hi.numsOf
    rw [preSum_eq, e1, List.take_of_length_le (by rw [← e1]; simp)]
    exact hK _ _ _ _ h e (.int _ _)
end
end Mine
end
section
set_option maxRecDepth 100000
open PySem PySem.W PyProof.Rows PySem.Calls
namespace Mine

/-- parameters and their data -/
inductive Al (h : Heap) (ok : Addr → Prop) : List (Str × Sl) → List (Str × Value) → Prop
  | nil : Al h ok [] []
  | cons {x : Str} {d : D} {v : Value} {σ : List (Str × Sl)} {b : List (Str × Value)} : Rep h ok v d → Al h ok σ b → Al h ok ((x, .fr d) :: σ) ((x, v) :: b)
section
variable {h : Heap} {ok : Addr → Prop}
theorem Al.append {σ σ' : List (Str × Sl)} {b b' : List (Str × Value)} (a : Al h ok σ b) (c : Al h ok σ' b') : Al h ok (σ ++ σ') (b ++ b') := by
  induction a with
  | nil => exact c
  | cons r _ ih => exact .cons r ih
theorem Al.reverse {σ : List (Str × Sl)} {b : List (Str × Value)} (a : Al h ok σ b) : Al h ok σ.reverse b.reverse := by
  induction a with
  | nil => exact .nil
  | cons r _ ih => rw [List.reverse_cons, List.reverse_cons]; exact ih.append (.cons r .nil)
theorem Al.lookup {σ : List (Str × Sl)} {b : List (Str × Value)} (a : Al h ok σ b) {x : Str} {sl : Sl} (e : σ.lookup x = some sl) : ∃ d v, sl = .fr d ∧ b.lookup x = some v ∧ Rep h ok v d := by
  induction a with
  | nil => cases e
  | @cons y d v σ b r _ ih =>
    simp only [List.lookup] at e ⊢
    split at e
    · cases e; exact ⟨d, v, rfl, rfl, r⟩
    · exact ih e
theorem Al.zip {names : List Str} {ds : List D} {vs : List Value} (hr : Reps h ok vs ds) : Al h ok (names.zip (ds.map Sl.fr)) (names.zip vs) := by
  induction names generalizing ds vs with
  | nil => simpa using Al.nil
  | cons x names ih =>
    cases hr with
    | nil => simpa using Al.nil
    | cons a r => exact .cons a (ih r)
end

/-- a def's body answers for the def -/
theorem Spec.intro {G : GG} (GO : G.Ok) {d : DefRec} (hd : HasDef G d) {k : Nat} {nh : Prop} {ds : List D} {P : D → Prop} {σ : Loc}
    (h : ∀ (h₀ : Heap) (L a : Addr) (cd : Value) (ok : Addr → Prop), Cx.Ok ⟨G, h₀, envOf d.name d.scope L a cd, ok, k, nh⟩ →
      SS ⟨G, h₀, envOf d.name d.scope L a cd, ok, k, nh⟩ σ d.body (fun fl _ => match fl with | .ret d => P d | _ => False))
    (hbind : ∀ pm code doc (vs : List Value), vs.length = ds.length → bindArgs (docDef d.name d.params d.body d.scope pm code doc) ⟨vs, []⟩ = pure ((d.params.args.map (·.arg)).zip vs))
    (hσ : ((d.params.args.map (·.arg)).zip (ds.map Sl.fr)).reverse = σ)
    (hloc : ∀ x ∈ d.params.args.map (·.arg), d.scope.names.lookup x = some .local)
    (hco : d.scope.isCoroutine = false) (hgen : d.scope.isGenerator = false) (hk : d.scope.kind = .function)
    (hcell : ∀ x ∈ d.scope.names, x.2 ≠ .cell) : Spec G (k + 1) nh d.name ds P := by
  intro f hf A s vs ok K hE hdp hun hnh hok hr hK
  obtain ⟨f', o, pm, code, doc, h1, h2, h3, h4⟩ := hd
  rw [hf] at h1; cases h1
  refine wpAny_call (call_plain (by omega) (hE _ _ h2) h3 (GO.nl.keeps hE) (h4.keeps hE) (hbind pm code doc vs hr.length) ?_ ?_ hco hgen hk hcell)
  · intro x hx
    exact hloc _ (List.of_mem_zip hx).1
  · intro h₁ F
    have hX : Cx.Ok ⟨G, s.heap, envOf d.name d.scope s.heap.objs.size f code, ok, k, nh⟩ := ⟨GO, hk, rfl, rfl, hE, hok⟩
    have al : Al s.heap ok σ ((d.params.args.map (·.arg)).zip vs).reverse := hσ ▸ (Al.zip hr).reverse
    have S : Cx.St ⟨G, s.heap, envOf d.name d.scope s.heap.objs.size f code, ok, k, nh⟩ σ h₁ (fun x => ((d.params.args.map (·.arg)).zip vs).reverse.lookup x) := by
      refine ⟨F, fun x sl hx => ?_, fun x y ds es hx _ _ => ?_⟩
      · obtain ⟨d', v, rfl, hv, r⟩ := al.lookup hx
        refine ⟨v, hv, (r.ext fun b o e => F.keep b o e).weak fun b hb => ⟨hb, fun y es hy => ?_⟩⟩
        obtain ⟨_, _, e, _⟩ := al.lookup hy
        cases e
      · obtain ⟨_, _, e, _⟩ := al.lookup hx
        cases e
    have R : Room ⟨G, s.heap, envOf d.name d.scope s.heap.objs.size f code, ok, k, nh⟩ (A.deeper (envOf d.name d.scope s.heap.objs.size f code)) := by
      refine ⟨?_, ?_, fun x => hnh x⟩
      · show A.depth + 1 + k < recursionLimit; omega
      · show A.units + 3 + 20 * k + 100 < cLine; omega
    refine wpAny_mono (h s.heap s.heap.objs.size f code ok hX (A.deeper (envOf d.name d.scope s.heap.objs.size f code)) { s with heap := h₁, toks := s.toks + ((d.params.args.map (·.arg)).zip vs).length } _
      (fun fl s' => ∃ v, fl = .ret v ∧ K v s') R S ?_) ?_ ?_
    · intro fl fl' σ' m' h' tk hP hf S' hs
      cases hf with
      | ret r => exact ⟨_, rfl, hK _ _ h' tk hP (fun b o e => S'.F.keep b o e) r⟩
      | _ => exact hP.elim
    · intro fl s' H
      obtain ⟨v, rfl, hv⟩ := H
      exact hv
    · exact fun _ _ x => x.elim

/-- stores -/
def upd : Loc → Str → Sl → Loc
  | [], x, sl => [(x, sl)]
  | (y, s) :: r, x, sl => if x == y then (x, sl) :: r else (y, s) :: upd r x sl
theorem upd_lookup (σ : Loc) (x : Str) (sl : Sl) (y : Str) : (upd σ x sl).lookup y = if y = x then some sl else σ.lookup y := by
  induction σ with
  | nil =>
    simp only [upd, List.lookup]
    by_cases h : y = x
    · simp [h]
    · have : (y == x) = false := by simpa using h
      simp [this, h]
  | cons p r ih =>
    obtain ⟨z, s⟩ := p
    unfold upd
    by_cases hxz : x = z
    · subst hxz
      simp only [beq_self_eq_true, if_true, List.lookup]
      by_cases h : y = x
      · simp [h]
      · have : (y == x) = false := by simpa using h
        simp [this, h]
    · have e : (x == z) = false := by simpa using hxz
      simp only [e, Bool.false_eq_true, if_false, List.lookup]
      by_cases h : y = z
      · subst h
        simp [Ne.symm hxz]
      · have : (y == z) = false := by simpa using h
        simp only [this, ih]

theorem Ns.notData {h : Heap} {L : Addr} {m : Str → Option Value} (N : h.Ns L m) {ok : Addr → Prop} {o : Obj} (e : h.get? L = some o) : ¬ DataObj ok L o := by
  obtain ⟨o', es, ep, h1, h2, _⟩ := N
  rw [e] at h1; cases h1
  rintro (⟨_, ⟨vs, n, h3⟩, _⟩ | ⟨_, vs, n, h3⟩ | ⟨_, vs, h3⟩) <;> rw [h2] at h3 <;> cases h3
theorem Ns.notList {h : Heap} {L : Addr} {m : Str → Option Value} (N : h.Ns L m) {vs : Array Value} {n : Nat} : h.get? L ≠ some (listOf vs n) := by
  intro e
  obtain ⟨o', es, ep, h1, h2, _⟩ := N
  rw [e] at h1; cases h1; cases h2

theorem Rep.store {h h' : Heap} {ok ok' : Addr → Prop} {L : Addr} {m : Str → Option Value} {v : Value} {d : D} (r : Rep h ok v d) (N : h.Ns L m) (hs : Heap.SameBut L h h') (hk : ∀ b, ok b → ok' b) : Rep h' ok' v d :=
  r.move (fun b o e hd => (hs.2 b (fun q => by subst q; exact Ns.notData N e hd)).trans e) hk
theorem Reps.store {h h' : Heap} {ok ok' : Addr → Prop} {L : Addr} {m : Str → Option Value} {v : List Value} {d : List D} (r : Reps h ok v d) (N : h.Ns L m) (hs : Heap.SameBut L h h') (hk : ∀ b, ok b → ok' b) : Reps h' ok' v d :=
  r.move (fun b o e hd => (hs.2 b (fun q => by subst q; exact Ns.notData N e hd)).trans e) hk

def mset (m : Str → Option Value) (x : Str) (v : Value) : Str → Option Value := fun y => if y = x then some v else m y

section
variable {h₀ h h' : Heap} {ok : Addr → Prop} {L : Addr} {σ : Loc} {m : Str → Option Value} {x : Str}

theorem NotOwn.store {sl : Sl} {v : Value} {a : Addr} (H : NotOwn m σ a) (hv : ∀ ds, sl = .ow ds → v ≠ .ref a) : NotOwn (mset m x v) (upd σ x sl) a := by
  intro y ds hy e
  rw [upd_lookup] at hy
  unfold mset at e
  by_cases hyx : y = x
  · rw [if_pos hyx] at hy e
    cases e; cases hy
    exact hv _ rfl rfl
  · rw [if_neg hyx] at hy e
    exact H y ds hy e

/-- a datum under a name -/
theorem St.storeFr (S : St h₀ ok L σ h m) {d : D} {v : Value} (r : Rep h (fun a => ok a ∧ NotOwn m σ a) v d) (hn : h'.Ns L (mset m x v)) (hs : Heap.SameBut L h h') : St h₀ ok L (upd σ x (.fr d)) h' (mset m x v) := by
  have w : ∀ b, (ok b ∧ NotOwn m σ b) → (ok b ∧ NotOwn (mset m x v) (upd σ x (.fr d)) b) := fun b hb => ⟨hb.1, hb.2.store (fun _ e => nomatch e)⟩
  refine ⟨S.F.set hn hs, fun y sl hy => ?_, fun y z ds es hy hz e => ?_⟩
  · rw [upd_lookup] at hy
    by_cases hyx : y = x
    · rw [if_pos hyx] at hy; cases hy
      exact ⟨v, by simp [mset, hyx], r.store S.F.ns hs w⟩
    · rw [if_neg hyx] at hy
      have q := S.sl y sl hy
      cases sl with
      | fr d => obtain ⟨u, h1, h2⟩ := q; exact ⟨u, by simp only [mset, if_neg hyx]; exact h1, h2.store S.F.ns hs w⟩
      | ow ds =>
        obtain ⟨a, vs, n, h1, h0, h2, h3⟩ := q
        refine ⟨a, vs, n, by simp only [mset, if_neg hyx]; exact h1, h0, ?_, h3.store S.F.ns hs w⟩
        exact (hs.2 a fun q => by subst q; exact Ns.notList S.F.ns h2).trans h2
  · rw [upd_lookup] at hy hz
    by_cases hyx : y = x
    · rw [if_pos hyx] at hy; cases hy
    · by_cases hzx : z = x
      · rw [if_pos hzx] at hz; cases hz
      · rw [if_neg hyx] at hy; rw [if_neg hzx] at hz
        simp only [mset, if_neg hyx, if_neg hzx] at e
        exact S.ap y z ds es hy hz e

/-- a list of the frame's own under a name -/
theorem St.storeOw {pend : List Addr} {a : Addr} {ds : List D} {vs : List Value} {n : Nat} (S : St h₀ (fun b => ok b ∧ b ∉ a :: pend) L σ h m) (hok : ok a) (hap : a ∉ pend) (h0 : h₀.objs.size ≤ a) (hl : h.get? a = some (listOf vs.toArray n))
    (r : Reps h (fun b => (ok b ∧ b ∉ a :: pend) ∧ NotOwn m σ b) vs ds) (hn : h'.Ns L (mset m x (.ref a))) (hs : Heap.SameBut L h h') : St h₀ (fun b => ok b ∧ b ∉ pend) L (upd σ x (.ow ds)) h' (mset m x (.ref a)) := by
  have w : ∀ b, ((ok b ∧ b ∉ a :: pend) ∧ NotOwn m σ b) → ((ok b ∧ b ∉ pend) ∧ NotOwn (mset m x (.ref a)) (upd σ x (.ow ds)) b) := fun b hb =>
    ⟨⟨hb.1.1, fun q => hb.1.2 (List.mem_cons_of_mem _ q)⟩, hb.2.store fun _ _ e => by cases e; exact hb.1.2 (List.mem_cons_self ..)⟩
  have at' : ∀ c ws n, h.get? c = some (listOf ws n) → h'.get? c = some (listOf ws n) := fun c ws n e => (hs.2 c fun q => by subst q; exact Ns.notList S.F.ns e).trans e
  refine ⟨S.F.set hn hs, fun y sl hy => ?_, fun y z ds es hy hz e => ?_⟩
  · rw [upd_lookup] at hy
    by_cases hyx : y = x
    · rw [if_pos hyx] at hy; cases hy
      exact ⟨a, vs, n, by simp [mset, hyx], ⟨h0, hok, hap⟩, at' _ _ _ hl, r.store S.F.ns hs w⟩
    · rw [if_neg hyx] at hy
      have q := S.sl y sl hy
      cases sl with
      | fr d => obtain ⟨u, h1, h2⟩ := q; exact ⟨u, by simp only [mset, if_neg hyx]; exact h1, h2.store S.F.ns hs w⟩
      | ow ds =>
        obtain ⟨c, ws, n, h1, h0, h2, h3⟩ := q
        exact ⟨c, ws, n, by simp only [mset, if_neg hyx]; exact h1, ⟨h0.1, h0.2.1, fun q => h0.2.2 (List.mem_cons_of_mem _ q)⟩, at' _ _ _ h2, h3.store S.F.ns hs w⟩
  · have key : ∀ (u : Str) (us : List D), u ≠ x → σ.lookup u = some (.ow us) → m u ≠ some (.ref a) := fun u us _ hu e => by
      obtain ⟨h1, _⟩ := S.owned_at hu e
      exact h1.2.2 (List.mem_cons_self ..)
    rw [upd_lookup] at hy hz
    unfold mset at e
    by_cases hyx : y = x
    · by_cases hzx : z = x
      · rw [hyx, hzx]
      · rw [if_neg hzx] at hz e; rw [if_pos hyx] at e
        exact absurd e.symm (key z _ hzx hz)
    · by_cases hzx : z = x
      · rw [if_neg hyx] at hy e; rw [if_pos hzx] at e
        exact absurd e (key y _ hyx hy)
      · rw [if_neg hyx] at hy; rw [if_neg hzx] at hz
        rw [if_neg hyx, if_neg hzx] at e
        exact S.ap y z _ _ hy hz e
end
end Mine
end
section
set_option maxRecDepth 100000
open PySem PySem.W PyProof.Rows PySem.Calls
namespace Mine

theorem envp {X : Cx} (O : X.Ok) : (X.env.scope.kind == .class || (X.env.scope.kind == .module && X.env.locals != X.env.globals)) = false := by
  rw [O.hk]; rfl

theorem Ext.ofBut {h h' : Heap} (e : Heap.ExtBut h.objs.size h h') : Ext h h' := fun b o x => e b o (Nat.ne_of_lt (Heap.lt_size x)) x

section
variable {X : Cx} {σ : Loc} {A : Around} {E : Value → Shared → Prop} {s : Shared} {m : Str → Option Value}

theorem Step.store {sl : Sl} {x : Str} {v : Value} {h h' : Heap} {L : Addr} (hs : Heap.SameBut L h h') (hv : ∀ ds, sl = .ow ds → ∀ a, v = .ref a → h.get? a = none) : Step L σ h m (upd σ x sl) h' (mset m x v) :=
  ⟨fun b o e n _ => (hs.2 b n).trans e, fun b o e _ q => q.store fun ds e' e'' => by subst e''; rw [hv ds e' b rfl] at e; cases e⟩

theorem storeFr (O : X.Ok) (S : X.St σ s.heap m) {x : Str} {v : Value} {d : D} (r : Rep s.heap (fun a => X.ok a ∧ NotOwn m σ a) v d) (hl : X.scope.names.lookup x = some .local) {Q : Unit → Shared → Prop}
    (hQ : ∀ h' tk, X.St (upd σ x (.fr d)) h' (mset m x v) → Heap.SameBut X.L s.heap h' → Step X.L σ s.heap m (upd σ x (.fr d)) h' (mset m x v) → Q () { s with heap := h', toks := tk }) :
    wpAny (model X.G.prog X.G.w) A (storeName X.env x v) Q E s :=
  wpAny_storeName_local hl S.F.ns (fun h' hn hs => hQ h' _ (S.storeFr r hn hs) hs (.store hs fun _ e => nomatch e)) (envp O)

/-- one name, one datum -/
theorem S1.assign (O : X.Ok) {x : Str} {e : Expr} {p pos : Pos} {P : Fl → Loc → Prop} (h : SE X σ true e (fun d => P .next (upd σ x (.fr d)))) (hl : X.scope.names.lookup x = some .local)
    (hsw : ∀ env, swapsWith e (some (.Name x p)) pos.line env = pure false := by intro _; rfl) : S1 X σ (.Assign [.Name x p] e pos) P := by
  intro A s m K R S hK
  refine wpAny_Assign_Name (h A s m _ R S fun d v h1 t1 hd e1 r => ?_) (hsw _)
  exact storeFr O (S.ext e1) (r.weak fun b hb => ⟨hb.1, hb.2 rfl⟩) hl fun h' tk S' _ hs => hK _ _ _ _ h' tk hd .next S' ((Step.ofExt e1).trans hs)

theorem newList_any {vs : List Value} {Q : Value → Shared → Prop} (hz : vs.length ≤ sizeLine) (h : Q (.ref s.heap.objs.size) { s with heap := s.heap.push { cls := .type "list", data := .seq vs.toArray } }) : wpAny (model X.G.prog X.G.w) A (newList vs) Q E s :=
  wpAny_newObj_type h (by show vs.toArray.size ≤ sizeLine; rw [List.size_toArray]; exact hz)

theorem St.pending {h₀ h : Heap} {ok : Addr → Prop} {L : Addr} (S : St h₀ ok L σ h m) (pend : List Addr) (hp : ∀ a ∈ pend, h.get? a = none) : St h₀ (fun b => ok b ∧ b ∉ pend) L σ h m := by
  have off : ∀ b o, h.get? b = some o → b ∉ pend := fun b o e q => by rw [hp b q] at e; cases e
  have w : ∀ b o, h.get? b = some o → (ok b ∧ NotOwn m σ b) → ((ok b ∧ b ∉ pend) ∧ NotOwn m σ b) := fun b o e q => ⟨⟨q.1, off b o e⟩, q.2⟩
  refine ⟨S.F, fun x sl hx => ?_, S.ap⟩
  have q := S.sl x sl hx
  cases sl with
  | fr d => obtain ⟨v, h1, h2⟩ := q; exact ⟨v, h1, h2.weakA w⟩
  | ow ds => obtain ⟨a, vs, n, h1, h0, h2, h3⟩ := q; exact ⟨a, vs, n, h1, ⟨h0.1, h0.2, off _ _ h2⟩, h2, h3.weakA w⟩
theorem St.okWeak {h₀ h : Heap} {ok ok' : Addr → Prop} {L : Addr} (S : St h₀ ok L σ h m) (w : ∀ b, ok b → ok' b) : St h₀ ok' L σ h m := by
  refine ⟨S.F, fun x sl hx => ?_, S.ap⟩
  have q := S.sl x sl hx
  cases sl with
  | fr d => obtain ⟨v, h1, h2⟩ := q; exact ⟨v, h1, h2.weak fun b hb => ⟨w b hb.1, hb.2⟩⟩
  | ow ds => obtain ⟨a, vs, n, h1, h0, h2, h3⟩ := q; exact ⟨a, vs, n, h1, ⟨h0.1, w _ h0.2⟩, h2, h3.weak fun b hb => ⟨w b hb.1, hb.2⟩⟩

/-- a new list under a name -/
theorem S1.assignL (O : X.Ok) {x : Str} {es : List Expr} {lp p pos : Pos} {P : Fl → Loc → Prop} (h : SEs X σ true es (fun ds => ds.length ≤ 1000 ∧ P .next (upd σ x (.ow ds)))) (hl : X.scope.names.lookup x = some .local) :
    S1 X σ (.Assign [.Name x p] (.List es lp) pos) P := by
  intro A s m K R S hK
  refine wpAny_Assign_Name (List_ (h A s m lp _ R S fun ds vs h1 t1 hd e1 rs => ?_)) rfl
  have S1 : X.St σ h1 m := S.ext e1
  refine newList_any (by rw [rs.length]; exact Nat.le_trans hd.1 (by decide)) ?_
  have fr1 : h1.get? h1.objs.size = none := by
    cases e : h1.get? h1.objs.size with
    | none => rfl
    | some o => exact absurd (Heap.lt_size e) (Nat.lt_irrefl _)
  have S2 : St X.h₀ (fun b => X.ok b ∧ b ∉ [h1.objs.size]) X.L σ h1 m := S1.pending [h1.objs.size] fun a ha => by rw [List.mem_singleton.mp ha]; exact fr1
  have S3 := S2.ext (Ext.push h1 { cls := .type "list", data := .seq vs.toArray })
  have r3 : Reps (h1.push { cls := .type "list", data := .seq vs.toArray }) (fun b => (X.ok b ∧ b ∉ [h1.objs.size]) ∧ NotOwn m σ b) vs ds :=
    (rs.weakA fun b o e q => ⟨⟨q.1, fun hm => by rw [List.mem_singleton.mp hm] at e; rw [fr1] at e; cases e⟩, q.2 rfl⟩).ext (Ext.push _ _)
  refine wpAny_storeName_local hl S3.F.ns (fun h' hn hs => ?_) (envp O)
  have S4 := St.storeOw (x := x) (n := 0) S3 (O.okb _ S1.base_lt) (fun q => nomatch q) S1.base_lt (Heap.get?_push_size _ rfl) r3 hn hs
  refine hK _ _ _ _ h' _ hd.2 .next (S4.okWeak fun b hb => hb.1) ?_
  exact (Step.ofExt e1).trans ((⟨fun b o e n q => (hs.2 b n).trans (Ext.push _ _ b o e), fun b o e _ q => q.store fun _ _ e'' => by cases e''; rw [fr1] at e; cases e⟩ : Step X.L σ h1 m _ _ _))

/-- a word of an operator in its place -/
def iopW (op : Operator) (a : Int) (b : D) (P : Int → Prop) : Prop := match op, b with
  | .Add, .int b => P (a + b)
  | .Sub, .int b => P (a - b)
  | .BitAnd, .int b => P (Builtin.bitAnd a b)
  | .BitOr, .int b => P (Builtin.bitOr a b)
  | .BitXor, .int b => P (Builtin.bitXor a b)
  | .RShift, .int b => 0 ≤ b ∧ P (a.fdiv (2 ^ b.toNat))
  | _, _ => False
theorem iop_sound {ok : Addr → Prop} {K : Value → Shared → Prop} {Pi : Int → Prop} {op : Operator} {a : Int} {t : Tok} {b : D} {vb : Value} (H : iopW op a b Pi) (rb : Rep s.heap ok vb b)
    (hK : ∀ c, Pi c → K (.int c s.toks) { s with toks := s.toks + 1 }) : wpAny (model X.G.prog X.G.w) A (inplaceOp op (.int a t) vb) K NoE s := by
  unfold iopW at H
  split at H
  · obtain ⟨u, rfl⟩ := rb.int_inv; exact wpAny_iadd_int (hK _ H)
  · obtain ⟨u, rfl⟩ := rb.int_inv; exact PyProof.Rows.isub_int (hK _ H)
  · obtain ⟨u, rfl⟩ := rb.int_inv; exact PyProof.Rows.iand_int (hK _ H)
  · obtain ⟨u, rfl⟩ := rb.int_inv; exact PyProof.Rows.ior_int (hK _ H)
  · obtain ⟨u, rfl⟩ := rb.int_inv; exact PyProof.Rows.ixor_int (hK _ H)
  · obtain ⟨u, rfl⟩ := rb.int_inv; exact PyProof.Rows.irshift_int H.1 (hK _ H.2)
  · exact H.elim
theorem S1.aug (O : X.Ok) {x : Str} {e : Expr} {op : Operator} {p pos : Pos} {P : Fl → Loc → Prop} {a : Int} (hx : σ.lookup x = some (.fr (.int a))) (h : SE X σ true e (fun b => iopW op a b fun c => P .next (upd σ x (.fr (.int c)))))
    (hl : X.scope.names.lookup x = some .local) : S1 X σ (.AugAssign (.Name x p) op e pos) P := by
  intro A s m K R S hK
  obtain ⟨v, h1, h2⟩ := S.sl x _ hx
  obtain ⟨t, rfl⟩ := h2.int_inv
  refine wpAny_AugAssign_Name (wpAny_loadName_local O.hk hl S.F.ns h1 ?_)
  refine h A s m _ R S fun d v h1 t1 hd e1 r => ?_
  refine iop_sound hd r fun c hc => ?_
  exact storeFr O (S.ext e1) (.int c _) hl fun h' tk S' _ hs => hK _ _ _ _ h' tk hc .next S' ((Step.ofExt e1).trans hs)

/-- plain statements -/
theorem S1.ret {e : Expr} {pos : Pos} {P : Fl → Loc → Prop} (h : SE X σ false e (fun d => P (.ret d) σ)) : S1 X σ (.Return (some e) pos) P := by
  intro A s m K R S hK
  exact wpAny_Return_some (h A s m _ R S fun d v h1 t1 hd e1 r => hK _ _ _ m h1 t1 hd (.ret (r.weak fun _ q => q.1)) (S.ext e1) (.ofExt e1))
theorem S1.ife {t : Expr} {body orelse : List Stmt} {pos : Pos} {P : Fl → Loc → Prop} (h : ST X σ t (fun c => if c then SS X σ body P else SS X σ orelse P)) : S1 X σ (.If t body orelse pos) P := by
  intro A s m K R S hK
  refine wpAny_If (h A s m _ R S fun c h1 t1 hc e1 => ?_)
  cases c with
  | true => exact hc A _ m K R (S.ext e1) fun fl fl' σ' m' h' tk hp hf S' hs => hK fl fl' σ' m' h' tk hp hf S' ((Step.ofExt e1).trans hs)
  | false => exact hc A _ m K R (S.ext e1) fun fl fl' σ' m' h' tk hp hf S' hs => hK fl fl' σ' m' h' tk hp hf S' ((Step.ofExt e1).trans hs)

/-- a while, by a word and a measure -/
theorem S1.while {t : Expr} {body : List Stmt} {pos : Pos} {P : Fl → Loc → Prop} (I : Nat → Loc → Prop) (h0 : ∃ n σ', Sub σ' σ ∧ I n σ')
    (turn : ∀ n σ', I n σ' → ST X σ' t (fun c => if c then SS X σ' body (fun fl σ'' => match fl with
      | .next | .cont => ∃ n', n' < n ∧ ∃ σ₃, Sub σ₃ σ'' ∧ I n' σ₃
      | .brk => P .next σ''
      | .ret d => P (.ret d) σ'') else P .next σ')) : S1 X σ (.While t body [] pos) P := by
  intro A s m K R S hK
  obtain ⟨n, σ₁, hsub, hI⟩ := h0
  refine wpAny_While (codeAny_whileLoop (fun n s' => ∃ σ' m' h' tk, s' = { s with heap := h', toks := tk } ∧ I n σ' ∧ X.St σ' h' m' ∧ Step X.L σ s.heap m σ' h' m') ?_ n
    ⟨σ₁, m, s.heap, s.toks, rfl, hI, S.sub hsub, Step.refl.sub hsub⟩)
  rintro n s' ⟨σ', m', h', tk, rfl, hI, S', hs⟩
  refine wpAny_mono (turn n σ' hI A { s with heap := h', toks := tk } m' _ R S' fun c h1 t1 hc e1 => ?_) (fun _ _ x => x) (fun _ _ x => x.elim)
  cases c with
  | false => exact wpAny_execs_nil (hK _ _ _ _ h1 t1 hc .next (S'.ext e1) (hs.trans (.ofExt e1)))
  | true =>
    refine wpAny_mono (hc A { s with heap := h1, toks := t1 } m' _ R (S'.ext e1) fun fl fl' σ'' m'' h'' tk'' hp hf S'' hs' => ?_) (fun _ _ x => x) (fun _ _ x => x.elim)
    have hs'' := (hs.trans (.ofExt e1)).trans hs'
    cases hf with
    | next =>
      obtain ⟨n', hlt, σ₃, hsub', hI'⟩ := hp
      exact ⟨n', hlt, σ₃, m'', h'', tk'', rfl, hI', S''.sub hsub', hs''.sub hsub'⟩
    | cont =>
      obtain ⟨n', hlt, σ₃, hsub', hI'⟩ := hp
      exact ⟨n', hlt, σ₃, m'', h'', tk'', rfl, hI', S''.sub hsub', hs''.sub hsub'⟩
    | brk => exact hK _ _ _ _ _ _ hp .next S'' hs''
    | ret r => exact hK _ _ _ _ _ _ hp (.ret r) S'' hs''
end
end Mine
end
section
set_option maxRecDepth 100000
open PySem PySem.W PyProof.Rows PySem.Calls
namespace Mine

section
variable {X : Cx} {σ : Loc} {A : Around} {E : Value → Shared → Prop} {s : Shared} {m : Str → Option Value}

/-- an own list is turned -/
theorem St.turn {h₀ h h' : Heap} {ok : Addr → Prop} {L : Addr} (S : St h₀ ok L σ h m) {x : Str} {ds ds' : List D} {a : Addr} {vs' : List Value} {n : Nat} (hx : σ.lookup x = some (.ow ds)) (hm : m x = some (.ref a))
    (hl : h'.get? a = some (listOf vs'.toArray n)) (hs : Heap.SameBut a h h') (r : Reps h (fun b => ok b ∧ NotOwn m σ b) vs' ds') :
    St h₀ ok L (upd σ x (.ow ds')) h' m ∧ Step L σ h m (upd σ x (.ow ds')) h' m := by
  obtain ⟨⟨h0, hok⟩, vs, n0, hg, _⟩ := S.owned_at hx hm
  have no : ∀ b, NotOwn m σ b → NotOwn m (upd σ x (.ow ds')) b := fun b q y es hy e => by
    rw [upd_lookup] at hy
    by_cases hyx : y = x
    · subst hyx; exact q y ds hx e
    · rw [if_neg hyx] at hy; exact q y es hy e
  have away : ∀ b, NotOwn m σ b → b ≠ a := fun b q e => by subst e; exact q x ds hx hm
  have w : ∀ b, (ok b ∧ NotOwn m σ b) → (ok b ∧ NotOwn m (upd σ x (.ow ds')) b) := fun b q => ⟨q.1, no b q.2⟩
  have mv : ∀ {v : Value} {d : D}, Rep h (fun b => ok b ∧ NotOwn m σ b) v d → Rep h' (fun b => ok b ∧ NotOwn m (upd σ x (.ow ds')) b) v d := fun r =>
    r.move (fun b o e hd => by
      refine (hs.2 b fun q => ?_).trans e
      subst q
      rw [hg] at e; cases e
      rcases hd with ⟨_, _, hk⟩ | ⟨hc, _⟩ | ⟨hc, _⟩
      · exact away _ hk.2 rfl
      · exact absurd hc (by intro q; injection q with q; exact absurd q (by decide))
      · exact absurd hc (by intro q; injection q with q; exact absurd q (by decide))) w
  have mvs : ∀ {v : List Value} {d : List D}, Reps h (fun b => ok b ∧ NotOwn m σ b) v d → Reps h' (fun b => ok b ∧ NotOwn m (upd σ x (.ow ds')) b) v d := fun r =>
    r.move (fun b o e hd => by
      refine (hs.2 b fun q => ?_).trans e
      subst q
      rw [hg] at e; cases e
      rcases hd with ⟨_, _, hk⟩ | ⟨hc, _⟩ | ⟨hc, _⟩
      · exact away _ hk.2 rfl
      · exact absurd hc (by intro q; injection q with q; exact absurd q (by decide))
      · exact absurd hc (by intro q; injection q with q; exact absurd q (by decide))) w
  have hLa : L ≠ a := fun q => by subst q; exact Ns.notList S.F.ns hg
  have base : ∀ b o, h₀.get? b = some o → b ≠ a := fun b o e q => by subst q; exact absurd (Heap.lt_size e) (Nat.not_lt.mpr h0)
  refine ⟨⟨⟨S.F.ns.at' fun o e => (hs.2 L hLa).trans e, fun b o e => (hs.2 b (base b o e)).trans (S.F.keep b o e), S.F.above⟩, fun y sl hy => ?_, fun y z es fs hy hz e => ?_⟩, ⟨fun b o e _ q => (hs.2 b (away b q)).trans e, fun b _ _ _ q => no b q⟩⟩
  · rw [upd_lookup] at hy
    by_cases hyx : y = x
    · rw [if_pos hyx] at hy; cases hy
      exact ⟨a, vs', n, by rw [hyx]; exact hm, ⟨h0, hok⟩, hl, mvs r⟩
    · rw [if_neg hyx] at hy
      have q := S.sl y sl hy
      cases sl with
      | fr d => obtain ⟨u, h1, h2⟩ := q; exact ⟨u, h1, mv h2⟩
      | ow es =>
        obtain ⟨c, ws, n1, h1, h2, h3, h4⟩ := q
        have hca : c ≠ a := fun q => hyx (S.ap y x es ds hy hx (by rw [h1, hm, q]))
        exact ⟨c, ws, n1, h1, h2, (hs.2 c hca).trans h3, mvs h4⟩
  · have key : ∀ u us, (upd σ x (.ow ds')).lookup u = some (.ow us) → ∃ us', σ.lookup u = some (.ow us') := fun u us hu => by
      rw [upd_lookup] at hu
      by_cases hux : u = x
      · exact ⟨ds, by rw [hux]; exact hx⟩
      · rw [if_neg hux] at hu; exact ⟨us, hu⟩
    obtain ⟨es', hy'⟩ := key y es hy
    obtain ⟨fs', hz'⟩ := key z fs hz
    exact S.ap y z es' fs' hy' hz' e

theorem slot_append_F : Slot "list" "append" "list.append" := PySem.F.slot_list_append

/-- append -/
theorem S1.append (O : X.Ok) {x : Str} {e : Expr} {np ap cp pos : Pos} {P : Fl → Loc → Prop} {ds : List D} (hx : σ.lookup x = some (.ow ds)) (hz : ds.length ≤ 1000000)
    (h : SE X σ true e (fun d => P .next (upd σ x (.ow (ds ++ [d]))))) (hl : X.scope.names.lookup x = some .local)
    (hline : (ap.endLine == cp.line) = true) (htr : ∀ env, backTo cp (starEach [e] env) = [(false, eval e env)] := by intro _; rfl) (hd : (x == ("__debug__" : Str)) = false := by decide) :
    S1 X σ (.Expr (.Call (.Attribute (.Name x np) (Str.ofString "append") ap) [e] [] cp) pos) P := by
  intro A s m K R S hK
  obtain ⟨a, vs, n, h1, h0, h2, h3⟩ := S.sl x _ hx
  have hi : interactive X.env = false := by
    unfold interactive
    rw [O.hk]; rfl
  refine wpAny_Expr_any ?_ hi rfl
  refine wpAny_Call_append rfl (by rw [htr]; rfl) hline (htr _) ?_
  refine wpAny_Name (wpAny_loadName_local O.hk hl S.F.ns h1 ?_) hd
  refine ⟨a, vs.toArray, rfl, ⟨_, n, h2, rfl, rfl, rfl⟩, ?_⟩
  refine h A s m _ R S fun d v h4 t4 hp e4 r => ?_
  have hl4 : h4.get? a = some (listOf vs.toArray n) := e4 _ _ h2
  have hlen : vs.toArray.size ≤ sizeLine := by rw [List.size_toArray, h3.length]; exact Nat.le_trans hz (by decide)
  refine call_meets PySem.F.slot_list_append ⟨_, hl4, rfl⟩ PySem.F.entry_list_append (PySem.F.args_list_append_2 _ _) (PySem.list_append a vs.toArray n v hlen) ⟨hl4, ?_⟩
  have S4 := S.ext e4
  obtain ⟨n', hl'⟩ : ∃ n', (h4.update a (Obj.mapSeq fun x => x.push v)).get? a = some (listOf (vs ++ [v]).toArray n') := by
    have := PySem.IsL.update (n := n) hl4 (fun x => x.push v)
    exact ⟨_, by rw [List.push_toArray] at this; exact this⟩
  have hs : Heap.SameBut a h4 (h4.update a (Obj.mapSeq fun x => x.push v)) := Heap.SameBut.update ..
  obtain ⟨S5, st5⟩ := S4.turn hx h1 hl' hs (((h3.ext e4).append (.cons (r.weak fun b q => ⟨q.1, q.2 rfl⟩) .nil)))
  exact hK _ _ _ m _ _ hp .next S5 ((Step.ofExt e4).trans st5)
end
end Mine
end
section
set_option maxRecDepth 100000
open PySem PySem.W PyProof.Rows PySem.Calls
namespace Mine

/-- names alone -/
def tnames : List Expr → Option (List Str)
  | [] => some []
  | .Name x _ :: r => (tnames r).map (x :: ·)
  | _ :: _ => none

def Stores (X : Cx) (f : Value → Sem Unit) (x : Str) : Prop := ∀ (A : Around) (E : Value → Shared → Prop) (s : Shared) (v : Value) (Q : Unit → Shared → Prop),
  wpAny (model X.G.prog X.G.w) A (storeName X.env x v) Q E s → wpAny (model X.G.prog X.G.w) A (f v) Q E s
inductive All2 {α β : Type} (R : α → β → Prop) : List α → List β → Prop
  | nil : All2 R [] []
  | cons {a : α} {b : β} {as : List α} {bs : List β} : R a b → All2 R as bs → All2 R (a :: as) (b :: bs)
theorem All2.length {α β : Type} {R : α → β → Prop} {as : List α} {bs : List β} (h : All2 R as bs) : as.length = bs.length := by
  induction h with
  | nil => rfl
  | cons _ _ ih => simp [ih]

theorem targets_of {X : Cx} : ∀ {elts : List Expr} {xs : List Str}, tnames elts = some xs → All2 (Stores X) ((assignEach elts X.env).map (·.2)) xs ∧ (assignEach elts X.env).findIdx? (·.1) = none ∧ (assignEach elts X.env).length = xs.length
  | [], xs, h => by cases h; exact ⟨.nil, rfl, rfl⟩
  | e :: r, xs, h => by
    cases e with
    | Name x p =>
      simp only [tnames, Option.map_eq_some_iff] at h
      obtain ⟨ys, hy, rfl⟩ := h
      obtain ⟨h1, h2, h3⟩ := targets_of (X := X) hy
      have e : assignEach (.Name x p :: r) X.env = (false, assign (.Name x p) X.env) :: assignEach r X.env := rfl
      rw [e]
      refine ⟨.cons (fun A E s v Q hq => wpAny_assign_Name hq) h1, ?_, by simp [h3]⟩
      rw [List.findIdx?_cons]
      simp [h2]
    | _ => cases h
theorem binds_of {X : Cx} (xs : List Str) : All2 (Stores X) (xs.map fun n => bindName X.env n) xs := by
  induction xs with
  | nil => exact .nil
  | cons x xs ih => exact .cons (fun A E s v Q hq => wpAny_bindName hq) ih

def updAll : Loc → List Str → List D → Loc
  | σ, x :: xs, d :: ds => updAll (upd σ x (.fr d)) xs ds
  | σ, _, _ => σ
def updSl : Loc → List Str → List Sl → Loc
  | σ, x :: xs, d :: ds => updSl (upd σ x d) xs ds
  | σ, _, _ => σ

section
variable {X : Cx} {σ : Loc} {A : Around} {s : Shared} {m : Str → Option Value}

theorem NotOwn.storeFr {x : Str} {d : D} {v : Value} {b : Addr} (q : NotOwn m σ b) : NotOwn (mset m x v) (upd σ x (.fr d)) b := q.store fun _ e => nomatch e

theorem storeAll (O : X.Ok) : ∀ {fs : List (Value → Sem Unit)} {xs : List Str} {vs : List Value} {ds : List D} {σ : Loc} {m : Str → Option Value} {s : Shared} {Q : Unit → Shared → Prop},
    All2 (Stores X) fs xs → (∀ x ∈ xs, X.scope.names.lookup x = some .local) → ds.length = xs.length → X.St σ s.heap m → Reps s.heap (fun a => X.ok a ∧ NotOwn m σ a) vs ds →
    (∀ h' m' tk, X.St (updAll σ xs ds) h' m' → Step X.L σ s.heap m (updAll σ xs ds) h' m' → Q () { s with heap := h', toks := tk }) →
    wpAny (model X.G.prog X.G.w) A (assignInOrder fs vs) Q NoE s := by
  intro fs xs vs ds σ m s Q hf
  induction hf generalizing vs ds σ m s with
  | nil =>
    intro _ hlen S rs hQ
    cases ds with
    | cons _ _ => cases hlen
    | nil =>
      cases rs
      exact assignInOrder_nil (hQ s.heap m s.toks S .refl)
  | @cons f x fs xs hfx _ ih =>
    intro hl hlen S rs hQ
    cases rs with
    | nil => cases hlen
    | cons r rs =>
      refine assignInOrder_cons (hfx _ _ _ _ _ (storeFr O S r (hl _ (List.mem_cons_self ..)) fun h' tk S' hs st => ?_))
      refine ih (fun y hy => hl y (List.mem_cons_of_mem _ hy)) (by simpa using hlen) S' (rs.store S.F.ns hs fun b q => ⟨q.1, q.2.storeFr⟩) fun h'' m' tk' S'' st' => ?_
      exact hQ h'' m' tk' S'' (st.trans st')

/-- the items of a tuple or a list -/
def itemsW (d : D) (P : List D → Prop) : Prop := match d with
  | .tup ds => P ds
  | .lst ds => P ds
  | _ => False
theorem unpack_sound {ok : Addr → Prop} {n : Nat} {d : D} {v : Value} {Q : List Value → Shared → Prop} {E : Value → Shared → Prop} {Pd : List D → Prop} (hh : A.handled = none) (H : itemsW d fun ds => ds.length = n ∧ Pd ds) (r : Rep s.heap ok v d)
    (hQ : ∀ us ds h', ds.length = n → Pd ds → Ext s.heap h' → Reps h' ok us ds → Q us { s with heap := h' }) : wpAny (model X.G.prog X.G.w) A (unpackItems v n none) Q E s := by
  cases d with
  | tup ds =>
    obtain ⟨t, vs, rfl, ht, rs⟩ := r.tup_inv
    have e : n = vs.toArray.size := by rw [List.size_toArray, rs.length]; exact H.1.symm
    rw [e]
    exact wpAny_unpackItems_tuple hh ht fun h' he => hQ _ ds h' H.1 H.2 (Ext.ofBut he) (rs.ext (Ext.ofBut he))
  | lst ds =>
    obtain ⟨t, vs, rfl, _, ht, rs⟩ := r.lst_inv
    have e : n = vs.toArray.size := by rw [List.size_toArray, rs.length]; exact H.1.symm
    rw [e]
    exact kun_itemsOf hh ht fun h' he => hQ _ ds h' H.1 H.2 (Ext.ofBut he) (rs.ext (Ext.ofBut he))
  | _ => exact H.elim

/-- a target bound to a datum -/
theorem assign_target (O : X.Ok) (hh : A.handled = none) {elts : List Expr} {k : Nat} {tp : Pos} {xs : List Str} (ht : tnames elts = some xs) (hl : ∀ x ∈ xs, X.scope.names.lookup x = some .local) (S : X.St σ s.heap m) {v : Value} {d : D}
    (r : Rep s.heap (fun a => X.ok a ∧ NotOwn m σ a) v d) {Q : Unit → Shared → Prop} {Pd : List D → Prop} (H : itemsW d fun ds => ds.length = xs.length ∧ Pd ds)
    (hQ : ∀ ds h' m' tk, Pd ds → X.St (updAll σ xs ds) h' m' → Step X.L σ s.heap m (updAll σ xs ds) h' m' → Q () { s with heap := h', toks := tk }) :
    wpAny (model X.G.prog X.G.w) A (assign (.Tuple elts k tp) X.env v) Q NoE s := by
  obtain ⟨h1, h2, h3⟩ := targets_of (X := X) ht
  show wpAny _ A (do standAt tp; unpack v (assignEach elts X.env)) Q NoE s
  refine wpAny_bind (wpAny_standAt ?_)
  unfold unpack
  refine wpAny_bind (wpAny_holding ?_)
  rw [h2, h3]
  refine unpack_sound hh H r fun us ds h' hlen hp e rs => ?_
  exact storeAll O h1 hl hlen (S.ext e) rs fun h'' m' tk S' st => hQ ds h'' m' tk hp S' ((Step.ofExt e).trans st)

theorem S1.tup (O : X.Ok) (hn : X.nh) {elts : List Expr} {k : Nat} {tp pos : Pos} {e : Expr} {xs : List Str} {P : Fl → Loc → Prop} (ht : tnames elts = some xs) (hl : ∀ x ∈ xs, X.scope.names.lookup x = some .local)
    (h : SE X σ true e (fun d => itemsW d fun ds => ds.length = xs.length ∧ P .next (updAll σ xs ds)))
    (hs : swapsWithSole [.Tuple elts k tp] e pos.line X.env = pure false) (hw : swappedStores [.Tuple elts k tp] e X.env = pure none) : S1 X σ (.Assign [.Tuple elts k tp] e pos) P := by
  intro A s m K R S hK
  refine Assign_Tuple (h A s m _ R S fun d v h1 t1 hd e1 r => ?_) hs hw
  refine assign_target O (R.h hn) ht hl (S.ext e1) (r.weak fun b q => ⟨q.1, q.2 rfl⟩) hd fun ds h' m' tk hp S' st => ?_
  exact hK _ _ _ m' h' tk hp .next S' ((Step.ofExt e1).trans st)

theorem Reps.rev {h : Heap} {ok : Addr → Prop} {vs : List Value} {ds : List D} (r : Reps h ok vs ds) : Reps h ok vs.reverse ds.reverse := r.reverse

theorem S1.tupSwap (O : X.Ok) (hn : X.nh) {elts : List Expr} {k : Nat} {tp pos : Pos} {e : Expr} {xs : List Str} {P : Fl → Loc → Prop} (hl : ∀ x ∈ xs, X.scope.names.lookup x = some .local)
    (h : SE X σ true e (fun d => itemsW d fun ds => ds.length = xs.length ∧ P .next (updAll σ xs.reverse ds.reverse)))
    (hs : swapsWithSole [.Tuple elts k tp] e pos.line X.env = pure false) (hw : swappedStores [.Tuple elts k tp] e X.env = pure (some xs)) : S1 X σ (.Assign [.Tuple elts k tp] e pos) P := by
  intro A s m K R S hK
  refine Assign_Tuple_swapped (h A s m _ R S fun d v h1 t1 hd e1 r => ?_) hs hw
  refine unpack_sound (ok := fun a => X.ok a ∧ NotOwn m σ a) (R.h hn) hd (r.weak fun b q => ⟨q.1, q.2 rfl⟩) fun us ds h' hlen hp e2 rs => ?_
  refine storeAll O (binds_of xs.reverse) (fun x hx => hl x (List.mem_reverse.mp hx)) (by simp [hlen]) ((S.ext e1).ext e2) rs.rev fun h'' m' tk S' st => ?_
  exact hK _ _ _ m' h'' tk hp .next S' ((Step.ofExt (e1.trans e2)).trans st)

/-- data without lists -/
def flat : D → Prop
  | .none | .bool _ | .int _ | .str _ | .bytes _ => True
  | _ => False
theorem Rep.flat {h h' : Heap} {ok ok' : Addr → Prop} {v : Value} {d : D} (hf : flat d) (r : Rep h ok v d) : Rep h' ok' v d := by
  cases r with
  | none => exact .none
  | bool b => exact .bool b
  | int i t => exact .int i t
  | str x t => exact .str x t
  | bytes b t => exact .bytes b t
  | _ => exact hf.elim

/-- values of a display: flat data and new empty lists -/
inductive SlV (h : Heap) : List Value → List Sl → List Addr → Prop
  | nil : SlV h [] [] []
  | fl {v : Value} {d : D} {vs : List Value} {sls : List Sl} {pend : List Addr} : flat d → Rep h (fun _ => True) v d → SlV h vs sls pend → SlV h (v :: vs) (.fr d :: sls) pend
  | ow {a : Addr} {vs : List Value} {sls : List Sl} {pend : List Addr} : h.get? a = some (listOf (List.toArray []) 0) → SlV h vs sls pend → SlV h (.ref a :: vs) (.ow [] :: sls) (a :: pend)
theorem SlV.move {h h' : Heap} {vs : List Value} {sls : List Sl} {pend : List Addr} (r : SlV h vs sls pend) (H : ∀ a, h.get? a = some (listOf (List.toArray []) 0) → h'.get? a = some (listOf (List.toArray []) 0)) : SlV h' vs sls pend := by
  induction r with
  | nil => exact .nil
  | fl hf r _ ih => exact .fl hf (r.flat hf) ih
  | ow e _ ih => exact .ow (H _ e) ih
theorem SlV.append {h : Heap} {vs vs' : List Value} {sls sls' : List Sl} {pend pend' : List Addr} (r : SlV h vs sls pend) (q : SlV h vs' sls' pend') : SlV h (vs ++ vs') (sls ++ sls') (pend ++ pend') := by
  induction r with
  | nil => exact q
  | fl hf r _ ih => exact .fl hf r ih
  | ow e _ ih => exact .ow e ih
theorem SlV.reverse {h : Heap} {vs : List Value} {sls : List Sl} {pend : List Addr} (r : SlV h vs sls pend) : SlV h vs.reverse sls.reverse pend.reverse := by
  induction r with
  | nil => exact .nil
  | fl hf r _ ih => rw [List.reverse_cons, List.reverse_cons]; have := ih.append (.fl hf r .nil); simpa using this
  | ow e _ ih => rw [List.reverse_cons, List.reverse_cons, List.reverse_cons]; exact ih.append (.ow e .nil)
theorem SlV.length {h : Heap} {vs : List Value} {sls : List Sl} {pend : List Addr} (r : SlV h vs sls pend) : vs.length = sls.length := by
  induction r with
  | nil => rfl
  | fl _ _ _ ih => simp [ih]
  | ow _ _ ih => simp [ih]

theorem storeSl (O : X.Ok) : ∀ {fs : List (Value → Sem Unit)} {xs : List Str} {vs : List Value} {sls : List Sl} {pend : List Addr} {σ : Loc} {m : Str → Option Value} {s : Shared} {Q : Unit → Shared → Prop},
    All2 (Stores X) fs xs → (∀ x ∈ xs, X.scope.names.lookup x = some .local) → sls.length = xs.length → St X.h₀ (fun b => X.ok b ∧ b ∉ pend) X.L σ s.heap m → SlV s.heap vs sls pend → pend.Nodup → (∀ a ∈ pend, X.h₀.objs.size ≤ a) →
    (∀ h' m' tk, X.St (updSl σ xs sls) h' m' → (∀ b o, s.heap.get? b = some o → b ≠ X.L → b ∉ pend → NotOwn m σ b → h'.get? b = some o ∧ NotOwn m' (updSl σ xs sls) b) → Q () { s with heap := h', toks := tk }) →
    wpAny (model X.G.prog X.G.w) A (assignInOrder fs vs) Q NoE s := by
  intro fs xs vs sls pend σ m s Q hf
  induction hf generalizing vs sls pend σ m s with
  | nil =>
    intro _ hlen S rs _ _ hQ
    cases sls with
    | cons _ _ => cases hlen
    | nil =>
      cases rs
      exact assignInOrder_nil (hQ s.heap m s.toks (S.okWeak fun b q => q.1) fun b o e _ _ q => ⟨e, q⟩)
  | @cons f x fs xs hfx _ ih =>
    intro hl hlen S rs hnd hp0 hQ
    cases rs with
    | nil => cases hlen
    | fl hfl r rs =>
      refine assignInOrder_cons (hfx _ _ _ _ _ (wpAny_storeName_local (hl _ (List.mem_cons_self ..)) S.F.ns (fun h' hn hs => ?_) (envp O)))
      have S' := S.storeFr (x := x) (r.flat hfl) hn hs
      refine ih (fun y hy => hl y (List.mem_cons_of_mem _ hy)) (by simpa using hlen) S' (rs.move fun a e => (hs.2 a fun q => by subst q; exact Ns.notList S.F.ns e).trans e) hnd hp0 fun h'' m' tk' S'' st' => ?_
      exact hQ h'' m' tk' S'' fun b o e n1 n2 q => st' b o ((hs.2 b n1).trans e) n1 n2 q.storeFr
    | @ow a _ _ pend he rs =>
      refine assignInOrder_cons (hfx _ _ _ _ _ (wpAny_storeName_local (hl _ (List.mem_cons_self ..)) S.F.ns (fun h' hn hs => ?_) (envp O)))
      have hnd' := List.nodup_cons.mp hnd
      have S' := St.storeOw (x := x) (ds := []) (n := 0) S (O.okb _ (hp0 a (List.mem_cons_self ..))) hnd'.1 (hp0 a (List.mem_cons_self ..)) he .nil hn hs
      refine ih (fun y hy => hl y (List.mem_cons_of_mem _ hy)) (by simpa using hlen) S' (rs.move fun a e => (hs.2 a fun q => by subst q; exact Ns.notList S.F.ns e).trans e) hnd'.2 (fun b hb => hp0 b (List.mem_cons_of_mem _ hb)) fun h'' m' tk' S'' st' => ?_
      refine hQ h'' m' tk' S'' fun b o e n1 n2 q => ?_
      exact st' b o ((hs.2 b n1).trans e) n1 (fun w => n2 (List.mem_cons_of_mem _ w)) (q.store fun _ _ e' => by cases e'; exact n2 (List.mem_cons_self ..))

/-- a display of flat data and new empty lists -/
def SD (X : Cx) (σ : Loc) (es : List Expr) (P : List Sl → Prop) : Prop :=
  ∀ (A : Around) (s : Shared) (m : Str → Option Value) (pos : Pos) (K : List Value → Shared → Prop), Room X A → X.St σ s.heap m →
    (∀ sls vs pend h' tk, P sls → Ext s.heap h' → SlV h' vs sls pend → pend.Nodup → (∀ a ∈ pend, s.heap.get? a = none ∧ X.h₀.objs.size ≤ a) → K vs { s with heap := h', toks := tk }) →
    wpAny (model X.G.prog X.G.w) A (spliced (backTo pos (starEach es X.env))) K NoE s
theorem SD.nil {P : List Sl → Prop} (h : P []) : SD X σ [] P := fun _ s _ _ _ _ _ hK => spliced_none (hK _ _ [] s.heap s.toks h (.refl _) .nil List.nodup_nil fun _ q => nomatch q)
theorem SD.fl {e : Expr} {rest : List Expr} {P : List Sl → Prop} (h : SE X σ false e (fun d => flat d ∧ SD X σ rest (fun sls => P (.fr d :: sls)))) (he : ∀ env, starEach (e :: rest) env = (false, eval e env) :: starEach rest env := by intro _; rfl) : SD X σ (e :: rest) P := by
  intro A s m pos K R S hK
  refine spliced_more (h A s m _ R S fun d v h1 t1 hd e1 r => ?_) (he _)
  refine hd.2 A _ m pos _ R (S.ext e1) fun sls vs pend h2 t2 hp e2 rs hn ha => ?_
  refine hK _ _ pend h2 t2 hp (e1.trans e2) (.fl hd.1 (r.flat hd.1) rs) hn fun a q => ⟨?_, (ha a q).2⟩
  cases c : s.heap.get? a with
  | none => rfl
  | some o =>
    have w : h1.get? a = none := (ha a q).1
    rw [e1 _ _ c] at w
    cases w
theorem SD.ow {rest : List Expr} {lp : Pos} {P : List Sl → Prop} (h : SD X σ rest (fun sls => P (.ow [] :: sls))) : SD X σ (.List [] lp :: rest) P := by
  intro A s m pos K R S hK
  refine spliced_more (List_ (spliced_none (newList_any (by decide) ?_))) rfl
  have fr : s.heap.get? s.heap.objs.size = none := by
    cases e : s.heap.get? s.heap.objs.size with
    | none => rfl
    | some o => exact absurd (Heap.lt_size e) (Nat.lt_irrefl _)
  refine h A _ m pos _ R (S.ext (Ext.push _ _)) fun sls vs pend h2 t2 hp e2 rs hn ha => ?_
  have alive : h2.get? s.heap.objs.size = some (listOf (List.toArray []) 0) := e2 _ _ (Heap.get?_push_size _ rfl)
  refine hK _ _ (s.heap.objs.size :: pend) h2 t2 hp ((Ext.push _ _).trans e2) (.ow alive rs) (List.nodup_cons.mpr ⟨fun q => ?_, hn⟩) fun a q => ?_
  · have h1 : (s.heap.push { cls := Value.type "list", data := Data.seq (List.toArray []) }).get? s.heap.objs.size = none := (ha _ q).1
    have h2 : (s.heap.push { cls := Value.type "list", data := Data.seq (List.toArray []) }).get? s.heap.objs.size = some _ := Heap.get?_push_size _ rfl
    rw [h2] at h1; cases h1
  · rcases List.mem_cons.mp q with rfl | q
    · exact ⟨fr, S.base_lt⟩
    · refine ⟨?_, (ha a q).2⟩
      cases c : s.heap.get? a with
      | none => rfl
      | some o =>
        have w : (s.heap.push { cls := Value.type "list", data := Data.seq (List.toArray []) }).get? a = none := (ha a q).1
        rw [Ext.push _ _ _ _ c] at w
        cases w

theorem S1.slots (O : X.Ok) (hn : X.nh) {elts es : List Expr} {k k' : Nat} {tp ep pos : Pos} {xs : List Str} {P : Fl → Loc → Prop} (hl : ∀ x ∈ xs, X.scope.names.lookup x = some .local)
    (h : SD X σ es (fun sls => sls.length = xs.length ∧ P .next (updSl σ xs.reverse sls.reverse))) (hlen : xs.length ≤ 1000)
    (hs : swapsWithSole [.Tuple elts k tp] (.Tuple es k' ep) pos.line X.env = pure false) (hw : swappedStores [.Tuple elts k tp] (.Tuple es k' ep) X.env = pure (some xs)) : S1 X σ (.Assign [.Tuple elts k tp] (.Tuple es k' ep) pos) P := by
  intro A s m K R S hK
  refine Assign_Tuple_swapped (Tuple_ (h A s m ep _ R S fun sls vs pend h1 t1 hd e1 rs hnd ha => ?_)) hs hw
  have hvl : vs.length = xs.length := by rw [rs.length]; exact hd.1
  refine wpAny_newObj_type ?_ (by show vs.toArray.size ≤ sizeLine; rw [List.size_toArray, hvl]; exact Nat.le_trans hlen (by decide))
  have e : xs.length = vs.toArray.size := by rw [List.size_toArray, hvl]
  rw [e]
  refine wpAny_unpackItems_tuple (R.h hn) isTuple_new fun h' he => ?_
  have e2 : Ext h1 h' := (Ext.push _ _).trans (Ext.ofBut he)
  have S0 := (S.pending pend fun a q => (ha a q).1).ext (e1.trans e2)
  refine storeSl O (binds_of xs.reverse) (fun x hx => hl x (List.mem_reverse.mp hx)) (sls := sls.reverse) (by rw [List.length_reverse, List.length_reverse]; exact hd.1) (pend := pend.reverse) (S0.okWeak fun b q => ⟨q.1, fun w => q.2 (List.mem_reverse.mp w)⟩) ?_ (List.pairwise_reverse.mpr (hnd.imp Ne.symm)) (fun a q => (ha a (List.mem_reverse.mp q)).2) fun h'' m' tk S' st => ?_
  · exact (rs.move (h' := h') fun a q => e2 _ _ q).reverse
  · refine hK _ _ _ m' h'' tk hd.2 .next S' ⟨fun b o q n1 n2 => ?_, fun b o q n1 n2 => ?_⟩
    · exact (st b o ((e1.trans e2) b o q) n1 (fun w => by have := (ha b (List.mem_reverse.mp w)).1; rw [q] at this; cases this) n2).1
    · exact (st b o ((e1.trans e2) b o q) n1 (fun w => by have := (ha b (List.mem_reverse.mp w)).1; rw [q] at this; cases this) n2).2
end
end Mine
end
section
set_option maxRecDepth 100000
open PySem PySem.W PyProof.Rows PySem.Calls
namespace Mine

/-- a loop's target takes a datum -/
def tgtW (target : Expr) (d : D) (σ : Loc) (P : Loc → Prop) : Prop := match target with
  | .Name x _ => P (upd σ x (.fr d))
  | .Tuple elts _ _ => ∃ xs, tnames elts = some xs ∧ itemsW d fun ds => ds.length = xs.length ∧ P (updAll σ xs ds)
  | _ => False
def tgtLocal (X : Cx) (target : Expr) : Prop := match target with
  | .Name x _ => X.scope.names.lookup x = some .local
  | .Tuple elts _ _ => ∀ xs, tnames elts = some xs → ∀ x ∈ xs, X.scope.names.lookup x = some .local
  | _ => False

section
variable {X : Cx} {σ : Loc} {A : Around} {s : Shared} {m : Str → Option Value}

theorem tgt_sound (O : X.Ok) (hh : A.handled = none) {target : Expr} (hl : tgtLocal X target) (S : X.St σ s.heap m) {v : Value} {d : D} (r : Rep s.heap (fun a => X.ok a ∧ NotOwn m σ a) v d) {Q : Unit → Shared → Prop} {Pd : Loc → Prop} (H : tgtW target d σ Pd)
    (hQ : ∀ σ' h' m' tk, Pd σ' → X.St σ' h' m' → Step X.L σ s.heap m σ' h' m' → Q () { s with heap := h', toks := tk }) :
    wpAny (model X.G.prog X.G.w) A (assign target X.env v) Q NoE s := by
  cases target with
  | Name x p => exact wpAny_assign_Name (storeFr O S r hl fun h' tk S' _ st => hQ _ h' _ tk H S' st)
  | Tuple elts k tp =>
    obtain ⟨xs, hx, H⟩ := H
    exact assign_target O hh hx (hl xs hx) S r H fun ds h' m' tk hp S' st => hQ _ h' m' tk hp S' st
  | _ => exact hl.elim

theorem Rep.step {L : Addr} {h₀ h h' : Heap} {ok : Addr → Prop} {σ' : Loc} {m' : Str → Option Value} (S : St h₀ ok L σ h m) (st : Step L σ h m σ' h' m') {v : Value} {d : D} (r : Rep h (fun a => ok a ∧ NotOwn m σ a) v d) : Rep h' (fun a => ok a ∧ NotOwn m' σ' a) v d := by
  have no : ∀ b o, h.get? b = some o → DataObj (fun a => ok a ∧ NotOwn m σ a) b o → b ≠ L ∧ NotOwn m σ b := fun b o e hd => by
    refine ⟨fun q => by subst q; exact Ns.notData S.F.ns e hd, ?_⟩
    rcases hd with ⟨_, _, hk⟩ | ⟨hc, _⟩ | ⟨hc, _⟩
    · exact hk.2
    · refine S.notOwn_of fun o' e' hl => ?_
      rw [e] at e'; cases e'
      rw [hc] at hl; injection hl with hl; exact absurd hl (by decide)
    · refine S.notOwn_of fun o' e' hl => ?_
      rw [e] at e'; cases e'
      rw [hc] at hl; injection hl with hl; exact absurd hl (by decide)
  refine r.moveD (fun b o e hd => st.pres b o e (no b o e hd).1 (no b o e hd).2) fun b o e hd q => ⟨q.1, st.own b o e (no b o e hd).1 q.2⟩

/-- a loop over an iterator -/
theorem for_walk (O : X.Ok) (hh : A.handled = none) (R : Room X A) {target : Expr} {body : List Stmt} {I0 : Addr} {fp wr : List Addr} {n : Nat} {Pv : Nat → Value → Prop} {Stt : Nat → Heap → Prop} (W : Walks X.G.prog X.G.w A I0 fp wr n Pv Stt)
    (hgo : ∀ i v (s : Shared) (Q : Unit → Shared → Prop) (E : Value → Shared → Prop), Stt i s.heap → Q () s → wpAny (model X.G.prog X.G.w) A (letOwnedTupleGo target (.ref I0) v) Q E s)
    (hwr : wr = [I0]) {h1 : Heap} {items : List D} (hn : n = items.length) (S : X.St σ h1 m) (hI0 : h1.objs.size ≤ I0)
    (hP : ∀ i v, i < n → Pv i v → ∃ d, items[i]? = some d ∧ Rep h1 (fun a => X.ok a ∧ NotOwn m σ a) v d)
    (hfp : ∀ b ∈ fp, b = I0 ∨ ∃ o, h1.get? b = some o ∧ b ≠ X.L ∧ NotOwn m σ b)
    (hit : ∀ i h, Stt i h → ∃ o T, h.get? I0 = some o ∧ o.cls = .type T ∧ T ≠ "list" ∧ T ≠ "tuple" ∧ T ≠ "range")
    (hl : tgtLocal X target) {P : Fl → Loc → Prop} (I : Nat → Loc → Prop) (h0 : ∃ σ', Sub σ' σ ∧ I 0 σ')
    (turn : ∀ i d σ', items[i]? = some d → I i σ' → tgtW target d σ' (fun σ'' => SS X σ'' body (fun fl σ₃ => match fl with
      | .next | .cont => ∃ σ₄, Sub σ₄ σ₃ ∧ I (i + 1) σ₄
      | .brk => P .next σ₃
      | .ret d => P (.ret d) σ₃)))
    (done : ∀ σ', I items.length σ' → P .next σ') {K : Flow → Shared → Prop}
    (hK : ∀ fl fl' σ' m' h' tk, P fl' σ' → FlRep h' X.ok fl fl' → X.St σ' h' m' → Step X.L σ h1 m σ' h' m' → K fl { s with heap := h', toks := tk })
    (hst : Stt 0 s.heap) (he : Ext h1 s.heap) :
    codeAny (model X.G.prog X.G.w) A (.forLoop target (.ref I0) body [] X.env) (fun r s' => match r with | .ok f => K f s' | .error e => cameBackBy (model X.G.prog X.G.w) A X.env NoE e s') s := by
  obtain ⟨σ₀, hsub, hI⟩ := h0
  have hLI : X.L ≠ I0 := Nat.ne_of_lt (Nat.lt_of_lt_of_le S.F.ns.lt hI0)
  have hbase : ∀ b o, X.h₀.get? b = some o → b ≠ I0 := fun b o e q => by subst q; exact absurd (Heap.lt_size e) (Nat.not_lt.mpr (Nat.le_trans S.base_lt hI0))
  -- the iterator's own change
  have chg : ∀ (σ' : Loc) (m' : Str → Option Value) (h h' : Heap) (i : Nat), X.St σ' h m' → Stt i h → (∀ b o, b ∉ wr → h.get? b = some o → h'.get? b = some o) → X.St σ' h' m' := by
    intro σ' m' h h' i S' hs' hk
    obtain ⟨o, T, ho, hc, n1, n2, n3⟩ := hit i h hs'
    have nd : ∀ ok : Addr → Prop, ¬ DataObj ok I0 o := by
      intro ok hd
      rcases hd with ⟨h1, _⟩ | ⟨h1, _⟩ | ⟨h1, _⟩ <;> rw [hc] at h1 <;> injection h1 with h1 <;> first | exact n1 h1 | exact n2 h1 | exact n3 h1
    have off : ∀ b, b ≠ I0 → b ∉ wr := fun b hb hm => hb (by rw [hwr] at hm; exact List.mem_singleton.mp hm)
    have mv : ∀ {ok : Addr → Prop} {v : Value} {d : D}, Rep h ok v d → Rep h' ok v d := fun r =>
      r.move (fun b o' e hd => hk b o' (off b fun q => by subst q; rw [ho] at e; cases e; exact nd _ hd) e) (fun _ x => x)
    have mvs : ∀ {ok : Addr → Prop} {v : List Value} {d : List D}, Reps h ok v d → Reps h' ok v d := fun r =>
      r.move (fun b o' e hd => hk b o' (off b fun q => by subst q; rw [ho] at e; cases e; exact nd _ hd) e) (fun _ x => x)
    refine ⟨⟨S'.F.ns.at' fun o e => hk _ o (off _ hLI) e, fun b o e => hk b o (off b (hbase b o e)) (S'.F.keep b o e), S'.F.above⟩, fun x sl hx => ?_, S'.ap⟩
    have q := S'.sl x sl hx
    cases sl with
    | fr d => obtain ⟨v, h1, h2⟩ := q; exact ⟨v, h1, mv h2⟩
    | ow ds =>
      obtain ⟨a, vs, k, h1, h0, h2, h3⟩ := q
      refine ⟨a, vs, k, h1, h0, hk a _ (off a fun q => ?_) h2, mvs h3⟩
      subst q
      rw [ho] at h2; cases h2
      injection hc with hc; exact n1 hc.symm
  refine codeAny_forLoop_any (fun k s' => ∃ i σ' m' h' tk, s' = { s with heap := h', toks := tk } ∧ I i σ' ∧ X.St σ' h' m' ∧ Step X.L σ h1 m σ' h' m' ∧ Stt i h' ∧ i ≤ n ∧ k = n - i) ?_ n
    ⟨0, σ₀, m, s.heap, s.toks, rfl, hI, (S.ext he).sub hsub, (Step.ofExt he).sub hsub, hst, Nat.zero_le _, by omega⟩
  rintro k s' ⟨i, σ', m', h', tk, rfl, hI, S', st', hst', hi, rfl⟩
  by_cases hlt : i < n
  · refine W.item i { s with heap := h', toks := tk } _ _ hlt hst' fun v h2 tk2 hPv hst2 hk2 => ?_
    have S2 := chg σ' m' h' h2 i S' hst' hk2
    have st2 : Step X.L σ h1 m σ' h2 m' := by
      refine ⟨fun b o e n q => hk2 b o ?_ (st'.pres b o e n q), st'.own⟩
      rw [hwr]
      exact fun hm => absurd (Heap.lt_size e) (by rw [List.mem_singleton.mp hm]; exact Nat.not_lt.mpr hI0)
    obtain ⟨d, hd, r⟩ := hP i v hlt hPv
    refine hgo _ v { s with heap := h2, toks := tk2 } _ _ hst2 ?_
    refine wpAny_noRaise (tgt_sound (s := { s with heap := h2, toks := tk2 }) (m := m') O hh hl S2 (Rep.step S st2 r) (turn i d σ' hd hI) fun σ'' h3 m'' tk3 hss S3 st3 => ?_)
    refine wpAny_mono (hss A { s with heap := h3, toks := tk3 } m'' _ R S3 fun fl fl' σ₃ m₃ h4 tk4 hp hf S4 st4 => ?_) (fun _ _ x => x) (fun _ _ x => x.elim)
    have stA := (st2.trans st3).trans st4
    have hst4 : Stt (i + 1) h4 := by
      refine W.frame _ h2 _ hst2 fun b hb o e => ?_
      have away : b ≠ X.L ∧ NotOwn m' σ' b := by
        rcases hfp b hb with rfl | ⟨o', e', hbL, hno⟩
        · refine ⟨Ne.symm hLI, S2.notOwn_of fun o' e' hc' => ?_⟩
          obtain ⟨o2, T, ho, hc, n1, _⟩ := hit _ _ hst2
          rw [ho] at e'; cases e'
          rw [hc] at hc'; injection hc' with hc'; exact n1 hc'
        · exact ⟨hbL, st2.own b o' e' hbL hno⟩
      have e3 := st3.pres b o e away.1 away.2
      exact st4.pres b o e3 away.1 (st3.own b o e away.1 away.2)
    have next : (∃ σ₄, Sub σ₄ σ₃ ∧ I (i + 1) σ₄) → ∃ m_1, m_1 < n - i ∧ ∃ i_1 σ' m' h' tk, ({ s with heap := h4, toks := tk4 } : Shared) = { s with heap := h', toks := tk } ∧ I i_1 σ' ∧ X.St σ' h' m' ∧ Step X.L σ h1 m σ' h' m' ∧ Stt i_1 h' ∧ i_1 ≤ n ∧ m_1 = n - i_1 := by
      rintro ⟨σ₄, hsub4, hI4⟩
      exact ⟨n - (i + 1), by omega, i + 1, σ₄, m₃, h4, tk4, rfl, hI4, S4.sub hsub4, stA.sub hsub4, hst4, hlt, rfl⟩
    cases hf with
    | next => exact next hp
    | cont => exact next hp
    | brk => exact hK _ _ _ _ _ _ hp .next S4 stA
    | ret r => exact hK _ _ _ _ _ _ hp (.ret r) S4 stA
  · have hin : i = n := by omega
    subst hin
    refine W.done { s with heap := h', toks := tk } _ _ hst' fun h2 tk2 hk2 => wpAny_execs_nil ?_
    have S2 := chg σ' m' h' h2 i S' hst' hk2
    have st2 : Step X.L σ h1 m σ' h2 m' := by
      refine ⟨fun b o e n q => hk2 b o ?_ (st'.pres b o e n q), st'.own⟩
      rw [hwr]
      exact fun hm => absurd (Heap.lt_size e) (by rw [List.mem_singleton.mp hm]; exact Nat.not_lt.mpr hI0)
    exact hK _ _ _ _ h2 tk2 (done σ' (hn ▸ hI)) .next S2 st2
/-- the items that a loop goes over -/
def itemsOf : D → Option (List D)
  | .lst ds => some ds
  | .tup ds => some ds
  | .rng n => if n ≤ 1000000 then some ((List.range n).map fun i => .int (i : Nat)) else none
  | _ => none

theorem isList_lt {h : Heap} {a : Addr} {vs : Array Value} (hl : h.IsList a vs) : a < h.objs.size := by obtain ⟨_, e, _⟩ := hl; exact Heap.lt_size e
theorem isTuple_lt {h : Heap} {a : Addr} {vs : Array Value} (hl : h.IsTuple a vs) : a < h.objs.size := by obtain ⟨_, e, _⟩ := hl; exact Heap.lt_size e

theorem noGo_name {x : Str} {p : Pos} {it v : Value} : letOwnedTupleGo (.Name x p) it v = pure () := rfl
theorem go_fields {prog : Program} {w : World} {E : Value → Shared → Prop} {target : Expr} {I0 : Addr} {v : Value} {Q : Unit → Shared → Prop} {o : Obj} {T : String} (ho : s.heap.get? I0 = some o) (hc : o.cls = .type T)
    (hT : (["enumerate", "zip", "dict_itemiterator", "dict_reverseitemiterator", "odict_iterator", "itertools.zip_longest", "itertools.pairwise"].contains T) = false) (hQ : Q () s) :
    wpAny (model prog w) A (letOwnedTupleGo target (.ref I0) v) Q E s := by
  have key : wpAny (model prog w) A (do
    let (.ref r, .ref a) := (Value.ref I0, v) | return
    let o ← load r
    match o.cls, o.data with
    | .type n, .fields vs =>
      if ["enumerate", "zip", "dict_itemiterator", "dict_reverseitemiterator", "odict_iterator", "itertools.zip_longest", "itertools.pairwise"].contains n && vs[0]? == some (rawInt a) then
        rule "for.unpacks-the-owned-tuple"
        updateField r 0 .none
    | _, _ => pure ()) Q E s := by
    cases v with
    | ref a =>
      refine wpAny_bind (wpAny_load ho ?_)
      rw [hc]
      cases o.data with
      | fields vs =>
        dsimp only
        rw [hT, Bool.false_and, if_neg Bool.false_ne_true]
        exact wpAny_pure hQ
      | _ => exact wpAny_pure hQ
    | _ => exact wpAny_pure hQ
  unfold letOwnedTupleGo
  cases target <;> first | exact key | exact wpAny_pure hQ

theorem S1.for (O : X.Ok) (hn : X.nh) {target iter : Expr} {body : List Stmt} {pos : Pos} {P : Fl → Loc → Prop}
    (h : SE X σ true iter (fun dd => ∃ items, itemsOf dd = some items ∧ ∃ I : Nat → Loc → Prop, (∃ σ', Sub σ' σ ∧ I 0 σ') ∧
      (∀ i d σ', items[i]? = some d → I i σ' → tgtW target d σ' (fun σ'' => SS X σ'' body (fun fl σ₃ => match fl with
        | .next | .cont => ∃ σ₄, Sub σ₄ σ₃ ∧ I (i + 1) σ₄
        | .brk => P .next σ₃
        | .ret d => P (.ret d) σ₃))) ∧ ∀ σ', I items.length σ' → P .next σ'))
    (hl : tgtLocal X target) (hs : ∀ env x, foldedSetIterable iter env x = pure x := by intro _ _; rfl) : S1 X σ (.For target iter body [] pos) P := by
  intro A s m K R S hK
  refine wpAny_For (h A s m _ R S fun dd v h1 t1 hd e1 r => ?_) (hs _)
  obtain ⟨items, hi, I, h0, turn, done⟩ := hd
  have S1 : X.St σ h1 m := S.ext e1
  have r' : Rep h1 (fun a => X.ok a ∧ NotOwn m σ a) v dd := r.weak fun b q => ⟨q.1, q.2 rfl⟩
  have hK' : ∀ fl fl' σ' m' h' tk, P fl' σ' → FlRep h' X.ok fl fl' → X.St σ' h' m' → Step X.L σ h1 m σ' h' m' → K fl { s with heap := h', toks := tk } := fun fl fl' σ' m' h' tk hp hf S' st =>
    hK fl fl' σ' m' h' tk hp hf S' ((Step.ofExt e1).trans st)
  cases dd with
  | lst ds =>
    have hi : ds = items := Option.some.inj hi
    subst hi
    obtain ⟨l, vs, rfl, hok, hll, rs⟩ := r'.lst_inv
    have hlt := isList_lt hll
    refine wpAny_pyIter_list hll ?_
    have hne : l ≠ h1.objs.size := Nat.ne_of_lt hlt
    refine for_walk (s := { s with heap := _, toks := t1 }) O (R.h hn) R (Walks.list (R.h hn) h1.objs.size l hne vs.toArray) (fun i v s Q E st hq => ?_) rfl (items := ds) (by rw [List.size_toArray, rs.length]) S1 (Nat.le_refl _) (fun i v hin hv => ?_) (fun b hb => ?_) (fun i h st => ?_) hl I h0 turn done hK' ?_ (Ext.push _ _)
    · obtain ⟨⟨o, ho, hc, _⟩, _⟩ := st
      exact go_fields ho hc (by decide) hq
    · have hv' : vs[i]? = some v := by simpa using hv
      have hlt' : i < ds.length := by
        rw [← rs.length]
        rcases Nat.lt_or_ge i vs.length with h | h
        · exact h
        · rw [List.getElem?_eq_none h] at hv'; cases hv'
      obtain ⟨v', hv2, rv⟩ := rs.get (List.getElem?_eq_getElem hlt')
      rw [hv'] at hv2; cases hv2
      exact ⟨_, List.getElem?_eq_getElem hlt', rv⟩
    · rcases List.mem_cons.mp hb with rfl | hb
      · exact .inl rfl
      · rw [List.mem_singleton.mp hb]
        obtain ⟨o, ho, hc, n, hd⟩ := hll
        exact .inr ⟨o, ho, fun q => by subst q; exact Ns.notData (ok := fun _ => True) S1.F.ns ho (.inl ⟨hc, ⟨_, n, hd⟩, trivial⟩), hok.2⟩
    · obtain ⟨⟨o, ho, hc, _⟩, _⟩ := st
      exact ⟨o, _, ho, hc, by decide, by decide, by decide⟩
    · exact ⟨⟨_, Heap.get?_push_size _ rfl, rfl, rfl⟩, hll.push _⟩
  | tup ds =>
    have hi : ds = items := Option.some.inj hi
    subst hi
    obtain ⟨l, vs, rfl, hll, rs⟩ := r'.tup_inv
    have hlt := isTuple_lt hll
    refine wpAny_pyIter_tuple hll ?_
    have hne : l ≠ h1.objs.size := Nat.ne_of_lt hlt
    refine for_walk (s := { s with heap := _, toks := t1 }) O (R.h hn) R (Walks.tuple (R.h hn) h1.objs.size l hne vs.toArray) (fun i v s Q E st hq => ?_) rfl (items := ds) (by rw [List.size_toArray, rs.length]) S1 (Nat.le_refl _) (fun i v hin hv => ?_) (fun b hb => ?_) (fun i h st => ?_) hl I h0 turn done hK' ?_ (Ext.push _ _)
    · obtain ⟨⟨o, ho, hc, _⟩, _⟩ := st
      exact go_fields ho hc (by decide) hq
    · have hv' : vs[i]? = some v := by simpa using hv
      have hlt' : i < ds.length := by
        rw [← rs.length]
        rcases Nat.lt_or_ge i vs.length with h | h
        · exact h
        · rw [List.getElem?_eq_none h] at hv'; cases hv'
      obtain ⟨v', hv2, rv⟩ := rs.get (List.getElem?_eq_getElem hlt')
      rw [hv'] at hv2; cases hv2
      exact ⟨_, List.getElem?_eq_getElem hlt', rv⟩
    · rcases List.mem_cons.mp hb with rfl | hb
      · exact .inl rfl
      · rw [List.mem_singleton.mp hb]
        obtain ⟨o, ho, hc, n, hd⟩ := hll
        refine .inr ⟨o, ho, fun q => by subst q; exact Ns.notData (ok := fun _ => True) S1.F.ns ho (.inr (.inl ⟨hc, _, n, hd⟩)), S1.notOwn_of fun o' e' q => ?_⟩
        rw [ho] at e'; cases e'
        rw [hc] at q; injection q with q; exact absurd q (by decide)
    · obtain ⟨⟨o, ho, hc, _⟩, _⟩ := st
      exact ⟨o, _, ho, hc, by decide, by decide, by decide⟩
    · exact ⟨⟨_, Heap.get?_push_size _ rfl, rfl, rfl⟩, hll.push _⟩
  | rng n =>
    have hnz : n ≤ 1000000 := by
      rcases Nat.lt_or_ge 1000000 n with h | h
      · simp only [itemsOf, if_neg (Nat.not_le.mpr h)] at hi; cases hi
      · exact h
    simp only [itemsOf, if_pos hnz, Option.some.injEq] at hi
    subst hi
    cases r' with
    | rng hr =>
      refine wpAny_pyIter_range hr (small_one (by decide) (by decide) (by omega) (by omega)) ?_
      have hsz : Builtin.Range.rangeSize 0 (n : Int) 1 = (n : Int) := by rw [rangeSize_one]; split <;> omega
      refine for_walk (s := { s with heap := _, toks := t1 }) O (R.h hn) R (Walks.range (R.h hn) h1.objs.size 0 1 n) (fun i v s Q E st hq => ?_) rfl (items := (List.range n).map fun i => D.int (i : Nat)) (by simp) S1 (Nat.le_refl _) (fun i v hin hv => ?_) (fun b hb => ?_) (fun i h st => ?_) hl I h0 turn done hK' ?_ (Ext.push _ _)
      · exact go_fields st rfl (by decide) hq
      · obtain ⟨t, rfl⟩ := hv
        refine ⟨.int (i : Nat), by simp [hin], ?_⟩
        have e : (0 + (i : Int) * 1) = (i : Int) := by omega
        rw [e]
        exact .int _ _
      · rcases List.mem_cons.mp hb with rfl | hb
        · exact .inl rfl
        · cases hb
      · exact ⟨_, _, st, rfl, by decide, by decide, by decide⟩
      · have e1 : (0 + ((0 : Nat) : Int) * 1) = 0 := by simp
        have e2 : ((n : Int) - ((0 : Nat) : Int)) = Builtin.Range.rangeSize 0 n 1 := by rw [hsz]; simp
        rw [e1, e2]
        exact Heap.get?_push_size _ rfl
  | _ => cases hi
end
end Mine
end
section
set_option maxRecDepth 100000
open PySem PySem.W PyProof.Rows PySem.Calls
namespace Mine

section
variable {X : Cx} {σ : Loc} {A : Around} {s : Shared} {m : Str → Option Value}

structure IterOk (G : GG) (A : Around) (h1 : Heap) (ok : Addr → Prop) (items : List D) (I0 : Addr) (fp : List Addr) (n : Nat) (Pv : Nat → Value → Prop) (Stt : Nat → Heap → Prop) : Prop where
  W : Walks G.prog G.w A I0 fp [I0] n Pv Stt
  len : n = items.length
  go : ∀ (target : Expr) i v (s : Shared) (Q : Unit → Shared → Prop) (E : Value → Shared → Prop), Stt i s.heap → Q () s → wpAny (model G.prog G.w) A (letOwnedTupleGo target (.ref I0) v) Q E s
  val : ∀ i v, i < n → Pv i v → ∃ d, items[i]? = some d ∧ Rep h1 ok v d
  fp : ∀ b ∈ fp, b = I0 ∨ ∃ o, h1.get? b = some o
  it : ∀ i h, Stt i h → ∃ o T, h.get? I0 = some o ∧ o.cls = .type T ∧ T ≠ "list" ∧ T ≠ "tuple" ∧ T ≠ "range"

theorem iter_sound {G : GG} {ok : Addr → Prop} {v : Value} {dd : D} {items : List D} {K : Value → Shared → Prop} {E : Value → Shared → Prop} (hh : A.handled = none) (r : Rep s.heap ok v dd) (hi : itemsOf dd = some items)
    (hK : ∀ o fp n Pv Stt, IterOk G A s.heap ok items s.heap.objs.size fp n Pv Stt → Stt 0 (s.heap.push o) → K (.ref s.heap.objs.size) { s with heap := s.heap.push o }) : wpAny (model G.prog G.w) A (pyIter v) K E s := by
  cases dd with
  | lst ds =>
    have hi : ds = items := Option.some.inj hi
    subst hi
    obtain ⟨l, vs, rfl, hok, hll, rs⟩ := r.lst_inv
    have hne : l ≠ s.heap.objs.size := Nat.ne_of_lt (isList_lt hll)
    refine wpAny_pyIter_list hll (hK _ _ _ _ _ ⟨Walks.list hh s.heap.objs.size l hne vs.toArray, by rw [List.size_toArray, rs.length], fun target i v s Q E st hq => ?_, fun i v hin hv => ?_, fun b hb => ?_, fun i h st => ?_⟩ ?_)
    · obtain ⟨⟨o, ho, hc, _⟩, _⟩ := st
      exact go_fields ho hc (by decide) hq
    · have hv' : vs[i]? = some v := by simpa using hv
      have hlt' : i < ds.length := by rw [← rs.length]; simpa using hin
      obtain ⟨v', hv2, rv⟩ := rs.get (List.getElem?_eq_getElem hlt')
      rw [hv'] at hv2; cases hv2
      exact ⟨_, List.getElem?_eq_getElem hlt', rv⟩
    · rcases List.mem_cons.mp hb with rfl | hb
      · exact .inl rfl
      · rw [List.mem_singleton.mp hb]
        obtain ⟨o, ho, _⟩ := hll
        exact .inr ⟨o, ho⟩
    · obtain ⟨⟨o, ho, hc, _⟩, _⟩ := st
      exact ⟨o, _, ho, hc, by decide, by decide, by decide⟩
    · exact ⟨⟨_, Heap.get?_push_size _ rfl, rfl, rfl⟩, hll.push _⟩
  | tup ds =>
    have hi : ds = items := Option.some.inj hi
    subst hi
    obtain ⟨l, vs, rfl, hll, rs⟩ := r.tup_inv
    have hne : l ≠ s.heap.objs.size := Nat.ne_of_lt (isTuple_lt hll)
    refine wpAny_pyIter_tuple hll (hK _ _ _ _ _ ⟨Walks.tuple hh s.heap.objs.size l hne vs.toArray, by rw [List.size_toArray, rs.length], fun target i v s Q E st hq => ?_, fun i v hin hv => ?_, fun b hb => ?_, fun i h st => ?_⟩ ?_)
    · obtain ⟨⟨o, ho, hc, _⟩, _⟩ := st
      exact go_fields ho hc (by decide) hq
    · have hv' : vs[i]? = some v := by simpa using hv
      have hlt' : i < ds.length := by rw [← rs.length]; simpa using hin
      obtain ⟨v', hv2, rv⟩ := rs.get (List.getElem?_eq_getElem hlt')
      rw [hv'] at hv2; cases hv2
      exact ⟨_, List.getElem?_eq_getElem hlt', rv⟩
    · rcases List.mem_cons.mp hb with rfl | hb
      · exact .inl rfl
      · rw [List.mem_singleton.mp hb]
        obtain ⟨o, ho, _⟩ := hll
        exact .inr ⟨o, ho⟩
    · obtain ⟨⟨o, ho, hc, _⟩, _⟩ := st
      exact ⟨o, _, ho, hc, by decide, by decide, by decide⟩
    · exact ⟨⟨_, Heap.get?_push_size _ rfl, rfl, rfl⟩, hll.push _⟩
  | rng n => cases hi' : decide (n ≤ 1000000) with
    | false => simp only [itemsOf, if_neg (of_decide_eq_false hi')] at hi; cases hi
    | true =>
      have hnz := of_decide_eq_true hi'
      simp only [itemsOf, if_pos hnz, Option.some.injEq] at hi
      subst hi
      cases r with
      | rng hr =>
        have hsz : Builtin.Range.rangeSize 0 (n : Int) 1 = (n : Int) := by rw [rangeSize_one]; split <;> omega
        refine wpAny_pyIter_range hr (small_one (by decide) (by decide) (by omega) (by omega)) (hK _ _ _ _ _ ⟨Walks.range hh s.heap.objs.size 0 1 n, by simp, fun target i v s Q E st hq => go_fields st rfl (by decide) hq, fun i v hin hv => ?_, fun b hb => ?_, fun i h st => ⟨_, _, st, rfl, by decide, by decide, by decide⟩⟩ ?_)
        · obtain ⟨t, rfl⟩ := hv
          refine ⟨.int (i : Nat), by simp [hin], ?_⟩
          have e : (0 + (i : Int) * 1) = (i : Int) := by omega
          rw [e]
          exact .int _ _
        · rcases List.mem_cons.mp hb with rfl | hb
          · exact .inl rfl
          · cases hb
        · have e1 : (0 + ((0 : Nat) : Int) * 1) = 0 := by simp
          have e2 : ((n : Int) - ((0 : Nat) : Int)) = Builtin.Range.rangeSize 0 n 1 := by rw [hsz]; simp
          rw [e1, e2]
          exact Heap.get?_push_size _ rfl
  | _ => cases hi

theorem noSt {h₀ h : Heap} {ok : Addr → Prop} {L : Addr} (F : Fr h₀ L h m) : St h₀ ok L [] h m := ⟨F, (fun _ _ e => nomatch e), (fun _ _ _ _ e => nomatch e)⟩
theorem noOwn {b : Addr} : NotOwn m [] b := (fun _ _ e => nomatch e)
theorem Reps.flat {h h' : Heap} {ok ok' : Addr → Prop} {vs : List Value} {ds : List D} (hf : ∀ d ∈ ds, flat d) (r : Reps h ok vs ds) : Reps h' ok' vs ds := by
  induction vs generalizing ds with
  | nil => cases r; exact .nil
  | cons v vs ih => cases r with | cons a r => exact .cons (a.flat (hf _ (List.mem_cons_self ..))) (ih (fun d hd => hf d (List.mem_cons_of_mem _ hd)) r)

theorem addr3 {b n : Nat} (h : b < n) : (b : Addr) ≠ n ∧ (b : Addr) ≠ n + 1 ∧ (b : Addr) ≠ n + 2 := ⟨by show ¬ (b = n); omega, by show ¬ (b = n + 1); omega, by show ¬ (b = n + 2); omega⟩
theorem addrN {b n : Nat} (h : ¬ b = n) : (b : Addr) ≠ n := h

/-- a comprehension -/
theorem SE.comp {sf : Bool} {P : D → Prop} (O : X.Ok) (hn : X.nh) {elt target iter : Expr} {scope : Scope} {pos : Pos}
    (h : SE X σ true iter (fun dd => ∃ items outs, itemsOf dd = some items ∧ outs.length = items.length ∧ items.length ≤ 1000000 ∧ (∀ r ∈ outs, flat r) ∧ P (.lst outs) ∧
      ∀ (i : Nat) (d r : D), items[i]? = some d → outs[i]? = some r → ∀ (h₀ : Heap) (e : Env) (ok : Addr → Prop), Cx.Ok ⟨X.G, h₀, { e with scope := scope }, ok, X.k, X.nh⟩ →
        tgtW target d [] (fun σ' => SE ⟨X.G, h₀, { e with scope := scope }, ok, X.k, X.nh⟩ σ' false elt (fun y => y = r))))
    (hl : ∀ (h₀ : Heap) (e : Env) (ok : Addr → Prop), tgtLocal ⟨X.G, h₀, { e with scope := scope }, ok, X.k, X.nh⟩ target)
    (hfree : ∀ x ∈ scope.names, x.2 ≠ .free) (hcell : ∀ x ∈ scope.names, x.2 ≠ .cell) (hkind : scope.kind = .function) (hnames : ∀ x ∈ scope.names, x.2 = .local → scope.names.lookup x.1 = some .local)
    (hs : ∀ env x, foldedSetIterable iter env x = pure x := by intro _ _; rfl) : SE X σ sf (.ListComp elt [⟨target, iter, [], 0⟩] scope pos) P := by
  intro A s m K R S hK
  refine wpAny_ListComp hfree hkind hnames (h A s m _ R S fun dd v h1 t1 hd e1 r => ?_) (hs _)
  obtain ⟨items, outs, hi, hlen, hz, hfl, hP, helt⟩ := hd
  have S1 : X.St σ h1 m := S.ext e1
  have r' : Rep h1 (okE X m σ sf) v dd := r.weak fun b q => ⟨q.1, fun _ => q.2 rfl⟩
  refine iter_sound (s := { s with heap := h1, toks := t1 }) (R.h hn) r' hi fun o fp n Pv Stt J hst => ?_
  dsimp only
  refine newList_any (by decide) ?_
  dsimp only
  refine wpAny_newFunctionEnv hcell (fun _ q => nomatch q) (fun h2 hns2 hsb2 => ?_) hkind
  dsimp only at hns2 hsb2 ⊢
  dsimp only at J hst
  have hD : (h1.push o).objs.size = h1.objs.size + 1 := Heap.size_push ..
  have hC : ((h1.push o).push { cls := Value.type "list", data := Data.seq (List.toArray []) }).objs.size = h1.objs.size + 2 := by rw [Heap.size_push, hD]
  rw [hC] at hns2 hsb2 ⊢
  rw [hD] at ⊢
  have g0 : ∀ b q, h1.get? b = some q → b ≠ h1.objs.size ∧ b ≠ h1.objs.size + 1 ∧ b ≠ h1.objs.size + 2 := fun b q e => addr3 (Heap.lt_size e)
  have x2 : Ext ((h1.push o).push { cls := Value.type "list", data := Data.seq (List.toArray []) }) h2 := fun b q e => by
    have hlt := Heap.lt_size e
    rw [hC] at hlt
    exact (hsb2.2 b (Nat.ne_of_lt hlt)).trans (Heap.get?_push_of_some _ e)
  have x1 : Ext (h1.push o) h2 := (Ext.push _ _).trans x2
  have x0 : Ext h1 h2 := (Ext.push _ _).trans x1
  have hDat : h2.get? (h1.objs.size + 1) = some (listOf (List.toArray []) 0) := by
    have : ((h1.push o).push { cls := Value.type "list", data := Data.seq (List.toArray []) }).get? (h1.push o).objs.size = some _ := Heap.get?_push_size _ rfl
    rw [hD] at this
    exact x2 _ _ this
  have hst2 : Stt 0 h2 := J.W.frame _ _ _ hst fun b _ q e => x1 b q e
  have hX : ∀ e : Env, e.globals = X.env.globals → e.builtins = X.env.builtins → Cx.Ok ⟨X.G, h1, { e with scope := scope }, okE X m σ sf, X.k, X.nh⟩ := fun e hg hb => ⟨O.GO, hkind, hg.trans O.hg, hb.trans O.hb, S1.topExt O, fun a ha => okE_fresh O S1 ha⟩
  have R' : ∀ e : Env, Room ⟨X.G, h1, { e with scope := scope }, okE X m σ sf, X.k, X.nh⟩ A := fun e => ⟨R.d, R.u, R.h⟩
  have loop : ∀ s₃ : Shared, s₃ = { s with heap := h2, toks := t1 + ([] : List (Str × Value)).length } →
      codeAny (model X.G.prog X.G.w) A (.compLoop (.ListComp elt [⟨target, iter, [], 0⟩] scope pos) 0 (.ref h1.objs.size) (.ref (h1.objs.size + 1)) { (newEnv scope (h1.objs.size + 2) X.env.globals [] X.env.qual none .none (some X.env) builtinsNs) with scope := scope })
        (fun r s' => ∃ m, s'.heap.Ns (h1.objs.size + 2) m ∧ ∀ h', Heap.SameBut (h1.objs.size + 2) s'.heap h' →
          match r with | .ok _ => K (.ref (h1.objs.size + 1)) { s' with heap := h' } | .error x => wpAny (model X.G.prog X.G.w) A (passOn "comprehension.variables-let-go" x { (newEnv scope (h1.objs.size + 2) X.env.globals [] X.env.qual none .none (some X.env) builtinsNs) with scope := scope }) K NoE { s' with heap := h' }) s₃ := by
    rintro s₃ rfl
    refine kcp_loop (fun k s' => ∃ i h' tk m' vs nn, s' = { s with heap := h', toks := tk } ∧ i ≤ n ∧ k = n - i ∧ Stt i h' ∧ Ext h1 h' ∧ h'.get? (h1.objs.size + 1) = some (listOf (List.toArray vs) nn) ∧ Reps h' (okE X m σ sf) vs (outs.take i) ∧ h'.Ns (h1.objs.size + 2) m') ?_ n
      ⟨0, h2, _, _, [], 0, rfl, Nat.zero_le _, by omega, hst2, x0, hDat, by simpa using Reps.nil, hns2⟩
    rintro k s' ⟨i, h', tk, m', vs, nn, rfl, hin, rfl, hsti, hx, hDi, hrs, hns⟩
    have hfl' : ∀ d ∈ outs.take i, flat d := fun d hd => hfl d (List.mem_of_mem_take hd)
    by_cases hlt : i < n
    · refine J.W.item i { s with heap := h', toks := tk } _ _ hlt hsti fun v h3 tk3 hPv hst3 hk3 => ?_
      have off : ∀ b, b ≠ h1.objs.size → b ∉ [h1.objs.size] := fun b hb hm => hb (List.mem_singleton.mp hm)
      have x3 : Ext h1 h3 := fun b q e => hk3 b q (off b (g0 b q e).1) (hx b q e)
      have hD3 : h3.get? (h1.objs.size + 1) = some (listOf (List.toArray vs) nn) := hk3 _ _ (off _ (addrN (by omega))) hDi
      have hns3 : h3.Ns (h1.objs.size + 2) m' := hns.at' fun q e => hk3 _ q (off _ (addrN (by omega))) e
      obtain ⟨d, hd, rd⟩ := J.val i v hlt hPv
      have hlo : i < outs.length := by rw [hlen, ← J.len]; exact hlt
      refine J.go target _ v { s with heap := h3, toks := tk3 } _ _ hst3 ?_
      generalize hE : newEnv scope (h1.objs.size + 2) X.env.globals [] X.env.qual none .none (some X.env) builtinsNs = ce
      have hceL : ce.locals = h1.objs.size + 2 := by rw [← hE]; rfl
      have O' := hX ce (by rw [← hE]; rfl) (by rw [← hE]; rfl)
      have F3 : Fr h1 ce.locals h3 m' := ⟨by rw [hceL]; exact hns3, x3, by rw [hceL]; exact Nat.le_add_right _ 2⟩
      have T := helt i d outs[i] hd (List.getElem?_eq_getElem hlo) h1 ce (okE X m σ sf) O'
      refine wpAny_noRaise (tgt_sound (X := ⟨X.G, h1, { ce with scope := scope }, okE X m σ sf, X.k, X.nh⟩) (σ := []) (m := m') (s := { s with heap := h3, toks := tk3 }) O' (R.h hn) (hl _ _ _) (noSt F3) ((rd.ext x3).weak fun b q => ⟨q, noOwn⟩) T fun σ' h4 m4 tk4 hse S4 st4 => ?_)
      refine wpAny_noRaise (hse A { s with heap := h4, toks := tk4 } m4 _ (R' ce) S4 fun y u h5 tk5 hy e5 ru => ?_)
      subst hy
      have p4 : ∀ b q, b ≠ h1.objs.size + 2 → h3.get? b = some q → h4.get? b = some q := fun b q hb e => st4.pres b q e (by show b ≠ ce.locals; rw [hceL]; exact hb) noOwn
      have hD5 : h5.get? (h1.objs.size + 1) = some (listOf (List.toArray vs) nn) := e5 _ _ (p4 _ _ (addrN (by omega)) hD3)
      have hvl : vs.length = (outs.take i).length := hrs.length
      have hsz : vs.toArray.size ≤ sizeLine := by
        rw [List.size_toArray, hvl, List.length_take]
        exact Nat.le_trans (Nat.min_le_right _ _) (by rw [hlen]; exact Nat.le_trans hz (by decide))
      refine call_meets PySem.F.slot_list_append ⟨_, hD5, rfl⟩ PySem.F.entry_list_append (PySem.F.args_list_append_2 _ _) (PySem.list_append (h1.objs.size + 1) vs.toArray nn u hsz) ⟨hD5, ?_⟩
      have hs6 : Heap.SameBut (h1.objs.size + 1) h5 (h5.update (h1.objs.size + 1) (Obj.mapSeq fun x => x.push u)) := Heap.SameBut.update ..
      obtain ⟨n', hl'⟩ : ∃ n', (h5.update (h1.objs.size + 1) (Obj.mapSeq fun x => x.push u)).get? (h1.objs.size + 1) = some (listOf (vs ++ [u]).toArray n') := by
        have := PySem.IsL.update (n := nn) hD5 (fun x => x.push u)
        exact ⟨_, by rw [List.push_toArray] at this; exact this⟩
      generalize h5.update (h1.objs.size + 1) (Obj.mapSeq fun x => x.push u) = h6 at hs6 hl' ⊢
      have p6 : ∀ b q, b ≠ h1.objs.size + 2 → b ≠ h1.objs.size + 1 → h3.get? b = some q → h6.get? b = some q := fun b q hb hb' e => (hs6.2 b hb').trans (e5 _ _ (p4 b q hb e))
      refine ⟨n - (i + 1), by omega, i + 1, h6, _, m4, vs ++ [u], n', rfl, hlt, rfl, ?_, fun b q e => p6 b q (g0 b q e).2.2 (g0 b q e).2.1 (x3 b q e), hl', ?_, ?_⟩
      · refine J.W.frame _ h3 _ hst3 fun b hb q e => ?_
        rcases J.fp b hb with rfl | ⟨q', e'⟩
        · exact p6 _ q (addrN (by omega)) (addrN (by omega)) e
        · exact p6 b q (g0 b q' e').2.2 (g0 b q' e').2.1 e
      · rw [List.take_add_one, List.getElem?_eq_getElem hlo]
        exact (hrs.flat hfl').append (.cons (ru.flat (hfl _ (List.getElem_mem hlo))) .nil)
      · have n4 : h4.Ns ce.locals m4 := S4.F.ns
        rw [hceL] at n4
        exact n4.at' fun q e => (hs6.2 _ (addrN (by omega))).trans (e5 _ _ e)
    · have hin' : i = n := by omega
      subst hin'
      refine J.W.done { s with heap := h', toks := tk } _ _ hsti fun h3 tk3 hk3 => ?_
      have off : ∀ b, b ≠ h1.objs.size → b ∉ [h1.objs.size] := fun b hb hm => hb (List.mem_singleton.mp hm)
      refine ⟨m', hns.at' fun q e => hk3 _ q (off _ (addrN (by omega))) e, fun h4 hs4 => ?_⟩
      have x4 : Ext h1 h4 := fun b q e => (hs4.2 b (g0 b q e).2.2).trans (hk3 b q (off b (g0 b q e).1) (hx b q e))
      have hD4 : h4.get? (h1.objs.size + 1) = some (listOf (List.toArray vs) nn) := (hs4.2 _ (addrN (by omega))).trans (hk3 _ _ (off _ (addrN (by omega))) hDi)
      have hout : outs.take i = outs := List.take_of_length_le (by rw [hlen, ← J.len]; exact Nat.le_refl _)
      rw [hout] at hrs
      exact hK _ _ h4 tk3 hP (e1.trans x4) (.lst (okE_fresh O S1 (Nat.le_succ _)) ⟨_, hD4, rfl, nn, rfl⟩ (hrs.flat hfl))
  exact codeAny_compStart_list (loop _ rfl) (J.W.self 0 _ _ _ hst2 (loop _ rfl))
end
end Mine
end
section
set_option maxRecDepth 100000
open PySem PySem.W PyProof.Rows PySem.Calls
namespace Mine

section
variable {X : Cx} {σ : Loc} {A : Around} {s : Shared} {m : Str → Option Value}

/-- data as the library's -/
def dat : D → Dat
  | .none => .none | .bool b => .bool b | .int i => .int i | .str x => .str x | .bytes b => .bytes b
  | .tup ds => .tuple (ds.map dat) | .lst ds => .list (ds.map dat) | .rng _ => .none
/-- ints, None, and tuples and lists of these -/
def okD : Nat → D → Bool
  | _, .none => true
  | _, .int _ => true
  | n + 1, .tup ds => ds.all (okD n)
  | n + 1, .lst ds => ds.all (okD n)
  | _, _ => false
theorem okD_kqd : ∀ (n : Nat) (d : D), okD n d = true → kqdOk n (dat d) = true
  | _, .none, _ => by simp [dat, kqdOk]
  | _, .int _, _ => by simp [dat, kqdOk]
  | n + 1, .tup ds, h => by
    rw [dat, kqdOk]
    simp only [okD, List.all_eq_true] at h
    simp only [List.all_map, List.all_eq_true]
    intro d hd
    exact okD_kqd n d (h d hd)
  | n + 1, .lst ds, h => by
    rw [dat, kqdOk]
    simp only [okD, List.all_eq_true] at h
    simp only [List.all_map, List.all_eq_true]
    intro d hd
    exact okD_kqd n d (h d hd)
  | 0, .tup _, h => by simp [okD] at h
  | 0, .lst _, h => by simp [okD] at h
  | n, .bool _, h => by cases n <;> simp [okD] at h
  | n, .str _, h => by cases n <;> simp [okD] at h
  | n, .bytes _, h => by cases n <;> simp [okD] at h
  | n, .rng _, h => by cases n <;> simp [okD] at h

theorem kqdPs_map (ds : List Dat) : kqdPs ds = ds.map kqdP := by
  induction ds with
  | nil => rfl
  | cons d ds ih => simp [kqdPs, ih]

mutual
theorem reads_of {h : Heap} {ok : Addr → Prop} : ∀ {v : Value} {d : D} (n : Nat), Rep h ok v d → okD n d = true → ∃ as, Reads h v (kqdP (dat d)) as
  | _, _, _, .none, _ => ⟨_, by rw [dat, kqdP]; exact Reads.none⟩
  | _, _, _, .int i t, _ => ⟨_, by rw [dat, kqdP]; exact Reads.int i t⟩
  | _, _, 0, .tup _ _, hk => by simp [okD] at hk
  | _, _, 0, .lst _ _ _, hk => by simp [okD] at hk
  | _, _, n + 1, .tup ⟨o, ho, hc, k, hd⟩ r, hk => by
    obtain ⟨as, q⟩ := reads_all n r (by simpa [okD] using hk)
    rw [dat, kqdP, kqdPs_map]
    exact ⟨as, reads_tuple_at ho hc hd (by simpa using q)⟩
  | _, _, n + 1, .lst _ ⟨o, ho, hc, k, hd⟩ r, hk => by
    obtain ⟨as, q⟩ := reads_all n r (by simpa [okD] using hk)
    rw [dat, kqdP, kqdPs_map]
    exact ⟨_, reads_list_at ho hc hd (by simpa using q)⟩
  | _, _, n, .bool _, hk => by cases n <;> simp [okD] at hk
  | _, _, n, .str _ _, hk => by cases n <;> simp [okD] at hk
  | _, _, n, .bytes _ _, hk => by cases n <;> simp [okD] at hk
  | _, _, n, .rng _, hk => by cases n <;> simp [okD] at hk
theorem reads_all {h : Heap} {ok : Addr → Prop} : ∀ {vs : List Value} {ds : List D} (n : Nat), Reps h ok vs ds → (∀ d ∈ ds, okD n d = true) → ∃ as, ReadsAll h vs ((ds.map dat).map kqdP) as
  | _, _, _, .nil, _ => ⟨_, ReadsAll.nil⟩
  | _, _, n, .cons a r, hk => by
    obtain ⟨as, q⟩ := reads_of n a (hk _ (.head _))
    obtain ⟨bs, p⟩ := reads_all n r fun d hm => hk d (.tail _ hm)
    exact ⟨_, ReadsAll.cons q p⟩
end

theorem shaped_of {d : D} (h : okD 9 d = true) : SeqAt.shaped (kqdP (dat d)) = true := by
  have l := kqd_lay 9 (dat d) (okD_kqd 9 d h)
  unfold SeqAt.shaped; rw [l.1, Bool.true_and]; exact decide_eq_true (Nat.le_trans l.2 (by decide))
theorem eqv_self {d : D} (h : okD 9 d = true) : PyData.eqv (kqdP (dat d)) (kqdP (dat d)) = true :=
  (kqd_eqv 9 (dat d) (dat d) 9 (okD_kqd 9 d h) (okD_kqd 9 d h)).mpr rfl

/-- the same datum twice, compared -/
def sameW (op : CmpOp) (a b : D) (P : Bool → Prop) : Prop := a = b ∧ okD 9 a = true ∧ match op with
  | .Eq => P true
  | .NotEq => P false
  | _ => False
theorem same_sound (R : Room X A) {ok : Addr → Prop} {K : Value → Shared → Prop} {Q : Bool → Prop} {op : CmpOp} {a b : D} {va vb : Value} (H : sameW op a b Q) (ra : Rep s.heap ok va a) (rb : Rep s.heap ok vb b)
    (hK : ∀ b, Q b → K (.bool b) s) : wpAny (model X.G.prog X.G.w) A (compareOp op va vb) K NoE s := by
  obtain ⟨rfl, hok, H⟩ := H
  obtain ⟨as, r1⟩ := reads_of 9 ra hok
  obtain ⟨bs, r2⟩ := reads_of 9 rb hok
  have hu : A.units + 64 < cLine := by have := R.u; omega
  cases op with
  | Eq => exact eq_dataH r1 r2 (shaped_of hok) (shaped_of hok) hu (by rw [eqv_self hok]; exact hK _ H)
  | NotEq => exact ne_dataH r1 r2 (shaped_of hok) (shaped_of hok) hu (by rw [eqv_self hok]; exact hK _ H)
  | _ => exact H.elim
theorem ST.same {l r : Expr} {op : CmpOp} {pos : Pos} {Q : Bool → Prop} (h : SE X σ false l (fun a => SE X σ false r (fun b => sameW op a b Q))) (hm : behindInMarks op r = false := by with_unfolding_all rfl) : ST X σ (.Compare l [op] [r] pos) Q := by
  intro A s m K R S hK
  refine wpAny_isTrue_Compare1 (h A s m _ R S fun a va h1 t1 ha e1 ra => ?_) hm
  refine ha A _ m _ R (S.ext e1) fun b vb h2 t2 hb e2 rb => ?_
  exact same_sound R hb (ra.ext e2) rb fun c hc => wpAny_truthy_bool (hK _ h2 t2 hc (e1.trans e2))
theorem SE.same {sf : Bool} {P : D → Prop} {op : CmpOp} {l r : Expr} {pos : Pos} (h : SE X σ sf l (fun a => SE X σ sf r (fun b => sameW op a b fun c => P (.bool c)))) (hm : behindInMarks op r = false := by with_unfolding_all rfl) : SE X σ sf (.Compare l [op] [r] pos) P := by
  intro A s m K R S hK
  refine wpAny_Compare1 (h A s m _ R S fun a va h1 t1 ha e1 ra => ?_) hm
  refine ha A _ m _ R (S.ext e1) fun b vb h2 t2 hb e2 rb => ?_
  exact same_sound R hb (ra.ext e2) rb fun c hc => hK _ _ h2 t2 hc (e1.trans e2) (.bool c)

/-- a try whose suite raises nothing -/
theorem S1.try {body : List Stmt} {h₁ : ExceptHandler} {hs : List ExceptHandler} {pos : Pos} {P : Fl → Loc → Prop} (h : SS X σ body P) : S1 X σ (.Try body (h₁ :: hs) [] [] pos) P := by
  intro A s m K R S hK
  refine wpAny_Try_except (wpAny_mono (h A s m (fun f s₁ => match f with | .next => wpAny (model X.G.prog X.G.w) A (execs [] X.env) K NoE s₁ | f => K f s₁) R S ?_) (fun _ _ x => x) (fun _ _ x => x.elim))
  intro fl fl' σ' m' h' tk hp hf S' st
  cases hf with
  | next => exact wpAny_execs_nil (hK _ _ _ _ _ _ hp .next S' st)
  | brk => exact hK _ _ _ _ _ _ hp .brk S' st
  | cont => exact hK _ _ _ _ _ _ hp .cont S' st
  | ret r => exact hK _ _ _ _ _ _ hp (.ret r) S' st

/-- an item of an own list turned by an operator -/
theorem S1.augSub (O : X.Ok) {x : Str} {ie e : Expr} {op : Operator} {np sp pos : Pos} {P : Fl → Loc → Prop} {ds : List D} (hx : σ.lookup x = some (.ow ds))
    (h : SE X σ true ie (fun b => match b with
      | .int k => 0 ≤ k ∧ k < 2 ^ 62 ∧ ∃ old, ds[k.toNat]? = some (.int old) ∧ SE X σ true e (fun c => iopW op old c fun r => P .next (upd σ x (.ow (ds.set k.toNat (.int r)))))
      | _ => False))
    (hl : X.scope.names.lookup x = some .local) (hi : ∀ ov iv new, augStore ie ov iv new = (do holding [new, ov, iv] (setItem ov iv new); release [new, ov, iv] []; pure .next) := by intro _ _ _; rfl) (hd : (x == ("__debug__" : Str)) = false := by decide) :
    S1 X σ (.AugAssign (.Subscript (.Name x np) ie sp) op e pos) P := by
  intro A s m K R S hK
  obtain ⟨a, vs, n, h1, h0, h2, h3⟩ := S.sl x _ hx
  refine wpAny_AugAssign_SubscriptAny ?_ hi
  refine wpAny_Name (wpAny_loadName_local O.hk hl S.F.ns h1 ?_) hd
  refine h A s m _ R S fun b vb h4 t4 hb e4 rb => ?_
  cases b with
  | int k =>
    obtain ⟨t, rfl⟩ := rb.int_inv
    obtain ⟨hk0, hk1, old, hold, hse⟩ := hb
    have hl4 : h4.get? a = some (listOf vs.toArray n) := e4 _ _ h2
    obtain ⟨v, hv, rv⟩ := h3.get hold
    obtain ⟨u, rfl⟩ := rv.int_inv
    have hlt : k.toNat < vs.length := by
      rcases Nat.lt_or_ge k.toNat vs.length with h | h
      · exact h
      · rw [List.getElem?_eq_none h] at hv; cases hv
    refine wpAny_getItem_list (x := .int old u) (s := { s with heap := h4, toks := t4 }) ⟨_, hl4, rfl, n, rfl⟩ hk0 (by omega) (by simpa using hv) ?_
    refine hse A _ m _ R (S.ext e4) fun c vc h5 t5 hc e5 rc => ?_
    refine iop_sound hc rc fun r hr => ?_
    have S5 := (S.ext e4).ext e5
    have hl5 : h5.get? a = some (listOf vs.toArray n) := e5 _ _ hl4
    refine ki_setAt (s := { s with heap := h5, toks := t5 + 1 }) hl5 hk0 (by omega) (by simp only [List.size_toArray]; omega) ?_
    have hs6 : Heap.SameBut a h5 (h5.update a (Obj.mapSeq (·.setIfInBounds k.toNat (Value.int r t5)))) := Heap.SameBut.update ..
    obtain ⟨n', hl'⟩ : ∃ n', (h5.update a (Obj.mapSeq (·.setIfInBounds k.toNat (Value.int r t5)))).get? a = some (listOf (vs.set k.toNat (.int r t5)).toArray n') := by
      have := PySem.IsL.update (n := n) hl5 (·.setIfInBounds k.toNat (Value.int r t5))
      exact ⟨_, by rw [List.setIfInBounds_toArray] at this; exact this⟩
    obtain ⟨S7, st7⟩ := S5.turn hx h1 hl' hs6 ((((h3.ext e4).ext e5).set (.int r t5) k.toNat))
    exact hK _ _ _ m _ _ hr .next S7 (((Step.ofExt (e4.trans e5))).trans st7)
  | _ => exact hb.elim
end
end Mine
end
section
set_option maxRecDepth 100000
open PySem PySem.W PyProof.Rows PySem.Calls
namespace Mine

theorem iadd_meets (l : Addr) (items : Array Value) (n : Nat) (b : Addr) (items2 : Array Value) (n2 : Nat) (d2 : Option Addr) (l2 : Array (Option Value)) (hs1 : items.size ≤ sizeLine) (hs2 : items.size + items2.size ≤ sizeLine) :
    Meets (Builtin.«list.__iadd__» ⟨[.ref l, .ref b], []⟩) (fun _ R s => s.heap.get? l = some { cls := .type "list", dict := none, data := .seq items n, slots := #[] } ∧ s.heap.get? b = some { cls := .type "list", dict := d2, data := .seq items2 n2, slots := l2 } ∧ R (.ok (.ret (Value.ref l))) { s with heap := s.heap.update l (Obj.mapSeq fun x => x ++ items2), toks := s.toks }) :=
  .of_wp fun prog w A R s h => by
    have hs0 : ¬(!items.isEmpty && Builtin.List.listTooLong (items.size + items2.size)) = true := by
      simp only [Builtin.List.listTooLong, Bool.and_eq_true, decide_eq_true_eq, not_and]
      intro _; omega
    obtain ⟨hp, g, d, tk, os⟩ := s; obtain ⟨hl, hb, h⟩ := h; have f1 := PySem.AutoSeq1.idx_int; have f2 := PySem.AutoSeq1.sub_tuple_tuple; have f3 := PySem.AutoSeq1.sub_list_list; have f4 := PySem.AutoSeq1.sub_tuple_list; have f5 := PySem.AutoSeq1.sub_list_tuple;
    have hz' : (items ++ items2).size ≤ sizeLine + 1 := by rw [Array.size_append]; omega
    wp_walk using (wpAny_updateSeq hl rfl (hz := hs1) (_hz' := hz')), PySem.AutoSeq1.wpAny_loadPart' hl, PySem.AutoSeq1.wpAny_loadPart' hb; exact ⟨_, rfl, h⟩

theorem seq_list_iadd : seqSlot? (.type "list") (dunderI "add") = pure (some (.builtin "list.__iadd__")) := PySem.seqSlot_of PySem.F.slot_list_iadd.lookup (by decide +kernel)
theorem fills_list_iadd : fillsInplaceSlot (.type "list") "add" (Operator.Add == .Add) = pure false := by
  unfold fillsInplaceSlot
  show (typeLookup (.type "list") (dunderI "add") >>= fun fi => pure (fi.isSome && !isSeqSlot fi)) = pure false
  rw [PySem.F.slot_list_iadd.lookup]
  show pure (f := Sem) (Option.isSome (some (Value.builtin "list.__iadd__")) && !isSeqSlot (some (.builtin "list.__iadd__"))) = pure false
  rw [show isSeqSlot (some (.builtin "list.__iadd__")) = true from by decide +kernel]
  rfl

theorem iadd_list {prog : Program} {w : World} {A : Around} {E : Value → Shared → Prop} {s : Shared} {l b : Addr} {items items2 : Array Value} {n : Nat} {Q : Value → Shared → Prop} (hl : s.heap.get? l = some (listOf items n)) (hb : s.heap.IsList b items2)
    (hz : items.size + items2.size ≤ sizeLine) (h : Q (.ref l) { s with heap := s.heap.update l (Obj.mapSeq fun x => x ++ items2) }) : wpAny (model prog w) A (inplaceOp .Add (.ref l) (.ref b)) Q E s := by
  obtain ⟨⟨c2, d2, q2, l2⟩, ho2, hc2, n2, hd2⟩ := id hb
  dsimp only at hc2 hd2
  subst hc2 hd2
  have hT : s.TypeIs (.ref l) "list" := ⟨_, hl, rfl⟩
  have hT2 : s.TypeIs (.ref b) "list" := ⟨_, ho2, rfl⟩
  unfold inplaceOp
  refine wpAny_holding ?_
  refine wpAny_bind (wpAny_typeOf hT (wpAny_bind (wpAny_of_eq fills_list_iadd ?_)))
  show wpAny _ A (if false = true then _ else _) Q E s
  rw [if_neg Bool.false_ne_true]
  refine wpAny_bind (wpAny_binaryOp1_none (nm := "add") hT hT2 noFill_list_add ?_)
  refine wpAny_bind (wpAny_of_eq seq_list_iadd ?_)
  refine wpAny_bind (wpAny_rule ?_)
  exact call_meets PySem.F.slot_list_iadd hT PySem.F.entry_list_iadd (PySem.F.args_list_iadd_2 _ _) (iadd_meets l items n b items2 n2 d2 l2 (by omega) hz) ⟨hl, ho2, h⟩

section
variable {X : Cx} {σ : Loc} {m : Str → Option Value}
theorem mset_self {x : Str} {v : Value} (h : m x = some v) : mset m x v = m := by
  funext y
  unfold mset
  by_cases hy : y = x
  · rw [if_pos hy, hy, h]
  · rw [if_neg hy]

/-- an own list extended by a list -/
theorem S1.augL (O : X.Ok) {x : Str} {e : Expr} {np pos : Pos} {P : Fl → Loc → Prop} {ds : List D} (hx : σ.lookup x = some (.ow ds))
    (h : SE X σ true e (fun d => match d with | .lst es => ds.length + es.length ≤ 1000000 ∧ P .next (upd σ x (.ow (ds ++ es))) | _ => False)) (hl : X.scope.names.lookup x = some .local) :
    S1 X σ (.AugAssign (.Name x np) .Add e pos) P := by
  intro A s m K R S hK
  obtain ⟨a, vs, n, h1, h0, h2, h3⟩ := S.sl x _ hx
  refine wpAny_AugAssign_Name (wpAny_loadName_local O.hk hl S.F.ns h1 ?_)
  refine h A s m _ R S fun d v h4 t4 hd e4 r => ?_
  cases d with
  | lst es =>
    obtain ⟨b, us, rfl, hok, hll, rs⟩ := r.lst_inv
    have hl4 : h4.get? a = some (listOf vs.toArray n) := e4 _ _ h2
    have hz : vs.toArray.size + us.toArray.size ≤ sizeLine := by
      rw [List.size_toArray, List.size_toArray, h3.length, rs.length]
      exact Nat.le_trans hd.1 (by decide)
    refine iadd_list (s := { s with heap := h4, toks := t4 }) hl4 hll hz ?_
    have hs6 : Heap.SameBut a h4 (h4.update a (Obj.mapSeq fun x => x ++ us.toArray)) := Heap.SameBut.update ..
    obtain ⟨n', hl'⟩ : ∃ n', (h4.update a (Obj.mapSeq fun x => x ++ us.toArray)).get? a = some (listOf (vs ++ us).toArray n') := by
      have := PySem.IsL.update (n := n) hl4 (fun x => x ++ us.toArray)
      exact ⟨_, by rw [List.append_toArray] at this; exact this⟩
    obtain ⟨S7, st7⟩ := (S.ext e4).turn hx h1 hl' hs6 ((h3.ext e4).append (rs.weak fun b q => ⟨q.1, q.2 rfl⟩))
    dsimp only
    refine wpAny_storeName_local hl S7.F.ns (fun h' hn hs => ?_) (envp O)
    have e : (fun y => if y = x then some (Value.ref a) else m y) = m := mset_self h1
    rw [e] at hn
    have at' : ∀ c ws n, (h4.update a (Obj.mapSeq fun x => x ++ us.toArray)).get? c = some (listOf ws n) → h'.get? c = some (listOf ws n) := fun c ws n e => (hs.2 c fun q => by subst q; exact Ns.notList S7.F.ns e).trans e
    have S8 : X.St (upd σ x (.ow (ds ++ es))) h' m := by
      refine ⟨S7.F.set hn hs, fun y sl hy => ?_, S7.ap⟩
      have q := S7.sl y sl hy
      cases sl with
      | fr d => obtain ⟨u, h1, h2⟩ := q; exact ⟨u, h1, h2.store S7.F.ns hs fun _ x => x⟩
      | ow ds => obtain ⟨c, ws, k, h1, h0, h2, h3⟩ := q; exact ⟨c, ws, k, h1, h0, at' _ _ _ h2, h3.store S7.F.ns hs fun _ x => x⟩
    refine hK _ _ _ m h' _ hd.2 .next S8 (((Step.ofExt e4).trans st7).trans ⟨fun b o e n _ => (hs.2 b n).trans e, fun b o e _ q => q⟩)
  | _ => exact hd.elim
end
end Mine
end
section
set_option maxRecDepth 100000
open PySem PySem.W PyProof.Rows PySem.Calls
namespace Mine

theorem intBits_nat (n : Nat) : Builtin.Int.intBits (n : Int) = bl n := by
  unfold Builtin.Int.intBits bl
  by_cases h : n = 0
  · subst h; rfl
  · rw [if_neg (by simp; omega), if_neg h]; rfl
theorem add_xor_and (a b : Nat) : a + b = (a ^^^ b) + 2 * (a &&& b) := by
  induction a using Nat.strongRecOn generalizing b with
  | _ a ih =>
    by_cases h : a = 0
    · subst h; simp
    · have e := ih (a / 2) (by omega) (b / 2)
      have h1 : (a ^^^ b) / 2 = a / 2 ^^^ b / 2 := Nat.xor_div_two
      have h2 : (a &&& b) / 2 = a / 2 &&& b / 2 := Nat.and_div_two
      have h0 := Nat.xor_mod_two_eq_one (a := a) (b := b)
      have h3 := Nat.and_mod_two_eq_one (a := a) (b := b)
      rw [← h1, ← h2] at e
      omega
theorem bitAnd_nat (a b : Nat) : Builtin.bitAnd (a : Int) (b : Int) = ((a &&& b : Nat) : Int) := by
  rw [bitAnd_pp (Int.natCast_nonneg _) (Int.natCast_nonneg _)]; rfl
theorem bitXor_nat (a b : Nat) : Builtin.bitXor (a : Int) (b : Int) = ((a ^^^ b : Nat) : Int) := by
  unfold Builtin.bitXor
  rw [bitOr_and, bitAnd_nat]
  have := add_xor_and a b
  omega
def isbI (n : Int) : Bool := if n = 0 then false else decide (Builtin.bitAnd n (n - 1) = 0)
theorem isbI_nat (n : Nat) : isbI (n : Int) = sb n := by
  unfold isbI sb
  by_cases h : n = 0
  · subst h; rfl
  · rw [if_neg (by omega), show (n : Int) - 1 = ((n - 1 : Nat) : Int) by omega, bitAnd_nat]
    have : (n != 0) = true := by simpa using h
    rw [this, Bool.true_and]
    by_cases h2 : n &&& (n - 1) = 0
    · rw [h2]; rfl
    · rw [decide_eq_false (by omega)]; symm; simpa using h2
theorem isbI_neg (n : Nat) : isbI (-(n : Int)) = false := by
  unfold isbI
  by_cases h : n = 0
  · subst h; rfl
  · rw [if_neg (by omega)]
    apply decide_eq_false
    rw [bitAnd_nn (by omega) (by omega)]
    unfold Builtin.bitNot
    omega
theorem and_pred {n : Nat} (h : n ≠ 0) (h2 : n &&& (n - 1) = 0) : n = 2 ^ (bl n - 1) := by
  induction n using Nat.strongRecOn with
  | _ n ih =>
    by_cases h1 : n = 1
    · subst h1; rfl
    · have e := bl_half h
      have h3 : (n &&& (n - 1)) / 2 = n / 2 &&& (n - 1) / 2 := Nat.and_div_two
      have h4 := Nat.and_mod_two_eq_one (a := n) (b := n - 1)
      rcases Nat.mod_two_eq_zero_or_one n with m | m
      · have h5 : (n - 1) / 2 = n / 2 - 1 := by omega
        rw [h5, h2] at h3
        have h6 := ih (n / 2) (by omega) (by omega) h3.symm
        have hp := bl_pos (show n / 2 ≠ 0 by omega)
        rw [e, show bl (n / 2) + 1 - 1 = (bl (n / 2) - 1) + 1 by omega, Nat.pow_succ, ← h6]; omega
      · have h5 : (n - 1) / 2 = n / 2 := by omega
        rw [h5, h2, Nat.and_self] at h3
        omega
theorem sb_pow {n : Nat} (h : sb n = true) : n ≠ 0 ∧ n = 2 ^ (bl n - 1) := by
  unfold sb at h
  rw [Bool.and_eq_true, bne_iff_ne, beq_iff_eq] at h
  exact ⟨h.1, and_pred h.1 h.2⟩
theorem sb_not {n : Nat} (h : sb n = false) (h0 : n ≠ 0) : n ^^^ 2 ^ (bl n - 1) ≠ 0 := by
  intro e
  have e1 := xor_zero_eq e
  unfold sb at h
  have : (n != 0) = true := by simpa using h0
  rw [this, Bool.true_and, beq_eq_false_iff_ne] at h
  apply h
  rw [e1]
  exact Nat.and_two_pow_sub_one_eq_mod (2 ^ (bl n - 1)) (bl n - 1) ▸ Nat.mod_self _
theorem fdiv_nat (a k : Nat) : (a : Int).fdiv ((2 ^ k : Nat) : Int) = ((a / 2 ^ k : Nat) : Int) := by
  rw [Int.fdiv_eq_ediv_of_nonneg _ (Int.natCast_nonneg _)]; rfl
end Mine
end
section
set_option maxRecDepth 100000
open PySem PySem.W PyProof.Rows PySem.Calls
namespace Mine

def tau (bias : Int) (j : Nat) : Int := if 36 * ((j : Int) + 1) - bias < 1 then 1 else if 26 < 36 * ((j : Int) + 1) - bias then 26 else 36 * ((j : Int) + 1) - bias
theorem tau_ge (bias : Int) (j : Nat) : 1 ≤ tau bias j := by unfold tau; repeat' split <;> omega
theorem tau_le (bias : Int) (j : Nat) : tau bias j ≤ 26 := by unfold tau; repeat' split <;> omega
theorem tau_mm (bias : Int) (j : Nat) (r : Int) (hr : r = 36 * ((j : Int) + 1) - bias) : (if (if r < 26 then r else 26) > 1 then (if r < 26 then r else 26) else 1) = tau bias j := by
  subst hr
  unfold tau
  repeat' split <;> omega
def oct (d : Int) : Int := if d < 26 then 65 + d else 22 + d

/-- an octet's figure -/
def fig (c : Int) : Option Int := if 65 ≤ c ∧ c ≤ 90 then some (c - 65) else if 48 ≤ c ∧ c ≤ 57 then some (c - 22) else none
theorem fig_oct {d : Int} (h0 : 0 ≤ d) (h1 : d < 36) : fig (oct d) = some d := by
  unfold fig oct
  split
  · rw [if_pos (by omega)]; congr 1; omega
  · rw [if_neg (by omega), if_pos (by omega)]; congr 1; omega
theorem oct_range {d : Int} (h0 : 0 ≤ d) (h1 : d < 36) : 0 ≤ oct d ∧ oct d < 256 := by unfold oct; split <;> omega

/-- the octets of a numeral, from a place on -/
inductive Num (bias : Int) : Nat → Int → List Int → Prop
  | last {j : Nat} {d : Int} : 0 ≤ d → d < tau bias j → Num bias j d [oct d]
  | more {j : Nat} {d n : Int} {ds : List Int} : tau bias j ≤ d → d < 36 → Num bias (j + 1) n ds → Num bias j (d + (36 - tau bias j) * n) (oct d :: ds)
theorem Num.range {bias : Int} {j : Nat} {n : Int} {ds : List Int} (h : Num bias j n ds) : ∀ c ∈ ds, 0 ≤ c ∧ c < 256 := by
  induction h with
  | last h0 h1 =>
    intro c hc
    rw [List.mem_singleton.mp hc]
    exact oct_range h0 (Int.lt_of_lt_of_le h1 (Int.le_trans (tau_le _ _) (by decide)))
  | more h0 h1 _ ih =>
    intro c hc
    rcases List.mem_cons.mp hc with rfl | h
    · exact oct_range (Int.le_trans (Int.le_trans (by decide) (tau_ge _ _)) h0) h1
    · exact ih c h
theorem Num.open {bias : Int} {j : Nat} {n : Int} {ds : List Int} (h : Num bias j n ds) : ∃ d tl, ds = oct d :: tl ∧ 0 ≤ d ∧ d < 36 ∧ (d < tau bias j → tl = [] ∧ n = d) ∧ (¬ d < tau bias j → ∃ n', Num bias (j + 1) n' tl ∧ n = d + (36 - tau bias j) * n') := by
  cases h with
  | last h0 h1 => exact ⟨_, _, rfl, h0, Int.lt_of_lt_of_le h1 (Int.le_trans (tau_le _ _) (by decide)), fun _ => ⟨rfl, rfl⟩, fun e => absurd h1 e⟩
  | more h0 h1 h2 => exact ⟨_, _, rfl, Int.le_trans (Int.le_trans (by decide) (tau_ge _ _)) h0, h1, fun e => absurd e (Int.not_lt.mpr h0), fun _ => ⟨_, h2, rfl⟩⟩
theorem Num.ne {bias : Int} {j : Nat} {n : Int} {ds : List Int} (h : Num bias j n ds) : ds ≠ [] := by
  cases h <;> intro e <;> cases e

/-- rows of numerals, with where they end -/
def ends : Nat → List (Nat × List Int) → List D
  | _, [] => []
  | p, (q, ds) :: segs => .tup [.int (p + ds.length : Nat), .int q] :: ends (p + ds.length) segs
def octs (segs : List (Nat × List Int)) : List Int := (segs.map (·.2)).flatten
def Segs (bias : Int) (segs : List (Nat × List Int)) : Prop := ∀ s ∈ segs, Num bias 0 s.1 s.2

theorem byteArr_get {ns : List Int} (hr : ∀ n ∈ ns, 0 ≤ n ∧ n < 256) {i : Nat} {n : Int} (h : ns[i]? = some n) : (((byteArr ns).toList.getD i 0).toNat : Int) = n := by
  unfold byteArr
  rw [List.getD_eq_getElem?_getD]
  simp only [List.getElem?_map, h, Option.map_some, Option.getD_some]
  have h2 := hr n (List.mem_of_getElem? h)
  have e : n.toNat.toUInt8.toNat = n.toNat % 256 := by simp
  rw [e]
  omega
theorem get_drop {ns ds rest : List Int} {p : Nat} (h : ns.drop p = ds ++ rest) {i : Nat} {c : Int} (hc : ds[i]? = some c) : ns[p + i]? = some c := by
  have hi : i < ds.length := by
    rcases Nat.lt_or_ge i ds.length with h | h
    · exact h
    · rw [List.getElem?_eq_none h] at hc; cases hc
  have : (ns.drop p)[i]? = some c := by rw [h, List.getElem?_append_left hi, hc]
  rwa [List.getElem?_drop] at this
theorem drop_more {ns ds rest : List Int} {p : Nat} {c : Int} (h : ns.drop p = (c :: ds) ++ rest) : ns.drop (p + 1) = ds ++ rest := by
  rw [← List.drop_drop, h]; rfl
theorem drop_lt {ns ds rest : List Int} {p : Nat} {c : Int} (h : ns.drop p = (c :: ds) ++ rest) : p < ns.length := by
  rcases Nat.lt_or_ge p ns.length with h' | h'
  · exact h'
  · rw [List.drop_eq_nil_of_le h'] at h; cases h
end Mine
end
section
set_option maxRecDepth 100000
open PySem PySem.W PyProof.Rows PySem.Calls
namespace Mine

theorem Sub.nil {σ : Loc} : Sub [] σ := fun _ _ h => nomatch h
theorem Sub.cons {σ σ' : Loc} {x : Str} {sl : Sl} (h : σ.lookup x = some sl) (r : Sub σ' σ) : Sub ((x, sl) :: σ') σ := by
  intro y s hy
  rw [List.lookup_cons] at hy
  by_cases e : (y == x) = true
  · rw [e] at hy
    rw [beq_iff_eq] at e
    cases hy; rw [e]; exact h
  · rw [Bool.not_eq_true] at e
    rw [e] at hy
    exact r y s hy

theorem SS.sub {X : Cx} {σ σ' : Loc} {st : List Stmt} {P : Fl → Loc → Prop} (H : Sub σ' σ) (h : SS X σ' st P) : SS X σ st P := by
  intro A s m K R S hK
  refine h A s m K R (S.sub H) fun fl fl' σ1 m' h' tk hp hf S' hs => hK _ _ _ _ _ _ hp hf S' ⟨fun b o e n q => hs.pres b o e n fun y ds hy => q y ds (H y _ hy), fun b o e n q => hs.own b o e n fun y ds hy => q y ds (H y _ hy)⟩
theorem S1.mono {X : Cx} {σ : Loc} {st : Stmt} {P P' : Fl → Loc → Prop} (h : S1 X σ st P) (hp : ∀ fl σ', P fl σ' → P' fl σ') : S1 X σ st P' :=
  fun A s m K R S hK => h A s m K R S fun fl fl' σ' m' h' tk q => hK fl fl' σ' m' h' tk (hp _ _ q)
/-- a statement that goes on, with the names told anew -/
theorem SS.to {X : Cx} {σ : Loc} {st : Stmt} {rest : List Stmt} {P : Fl → Loc → Prop} (σ' : Loc) (h : S1 X σ st (fun fl σ₁ => fl = .next ∧ Sub σ' σ₁)) (hr : SS X σ' rest P) : SS X σ (st :: rest) P :=
  SS.cons (h.mono fun fl σ₁ q => by obtain ⟨rfl, q⟩ := q; exact hr.sub q)
theorem cmpW_lt {a b : Int} {P : Bool → Prop} (h : P (decide (a < b))) : cmpW .Lt (.int a) (.int b) P := h
theorem cmpW_le {a b : Int} {P : Bool → Prop} (h : P (decide (a ≤ b))) : cmpW .LtE (.int a) (.int b) P := h
theorem cmpW_gt {a b : Int} {P : Bool → Prop} (h : P (decide (b < a))) : cmpW .Gt (.int a) (.int b) P := h
theorem cmpW_ge {a b : Int} {P : Bool → Prop} (h : P (decide (b ≤ a))) : cmpW .GtE (.int a) (.int b) P := h
theorem cmpW_eq {a b : Int} {P : Bool → Prop} (h : P (decide (a = b))) : cmpW .Eq (.int a) (.int b) P := h
theorem cmpW_ne {a b : Int} {P : Bool → Prop} (h : P (!decide (a = b))) : cmpW .NotEq (.int a) (.int b) P := h
theorem cmpW_eqs {a b : Str} {P : Bool → Prop} (h : P (a == b)) : cmpW .Eq (.str a) (.str b) P := h
theorem cmpW_is {a b : Bool} {P : Bool → Prop} (h : P (a == b)) : cmpW .Is (.bool a) (.bool b) P := h
theorem cmpW_isnot {a b : Bool} {P : Bool → Prop} (h : P (!(a == b))) : cmpW .IsNot (.bool a) (.bool b) P := h
theorem opW_add {a b : Int} {P : D → Prop} (h : P (.int (a + b))) : opW .Add (.int a) (.int b) P := h
theorem opW_sub {a b : Int} {P : D → Prop} (h : P (.int (a - b))) : opW .Sub (.int a) (.int b) P := h
theorem opW_mul {a b : Int} {P : D → Prop} (h : IntMulOk a b ∧ P (.int (a * b))) : opW .Mult (.int a) (.int b) P := h
theorem opW_fdiv {a b : Int} {P : D → Prop} (h : b ≠ 0 ∧ b.natAbs.log2 < 9000 ∧ P (.int (a.fdiv b))) : opW .FloorDiv (.int a) (.int b) P := h
theorem opW_mod {a b : Int} {P : D → Prop} (h : b ≠ 0 ∧ P (.int (a.fmod b))) : opW .Mod (.int a) (.int b) P := h
theorem opW_pow {a b : Int} {P : D → Prop} (h : 0 ≤ b ∧ b ≤ 1000000 ∧ a.natAbs < 2 ^ 64 ∧ P (.int (a ^ b.toNat))) : opW .Pow (.int a) (.int b) P := h
theorem opW_shl {a b : Int} {P : D → Prop} (h : 0 ≤ b ∧ (Builtin.Int.intBits a : Int) + b ≤ 2 ^ 27 ∧ P (.int (a * 2 ^ b.toNat))) : opW .LShift (.int a) (.int b) P := h
theorem opW_shr {a b : Int} {P : D → Prop} (h : 0 ≤ b ∧ P (.int (a.fdiv (2 ^ b.toNat)))) : opW .RShift (.int a) (.int b) P := h
theorem opW_and {a b : Int} {P : D → Prop} (h : P (.int (Builtin.bitAnd a b))) : opW .BitAnd (.int a) (.int b) P := h
theorem opW_or {a b : Int} {P : D → Prop} (h : P (.int (Builtin.bitOr a b))) : opW .BitOr (.int a) (.int b) P := h
theorem opW_xor {a b : Int} {P : D → Prop} (h : P (.int (Builtin.bitXor a b))) : opW .BitXor (.int a) (.int b) P := h
theorem opW_cat {a b : List D} {P : D → Prop} (h : a.length + b.length ≤ sizeLine ∧ P (.lst (a ++ b))) : opW .Add (.lst a) (.lst b) P := h
theorem iopW_add {a b : Int} {P : Int → Prop} (h : P (a + b)) : iopW .Add a (.int b) P := h
theorem iopW_sub {a b : Int} {P : Int → Prop} (h : P (a - b)) : iopW .Sub a (.int b) P := h
theorem iopW_and {a b : Int} {P : Int → Prop} (h : P (Builtin.bitAnd a b)) : iopW .BitAnd a (.int b) P := h
theorem iopW_or {a b : Int} {P : Int → Prop} (h : P (Builtin.bitOr a b)) : iopW .BitOr a (.int b) P := h
theorem iopW_xor {a b : Int} {P : Int → Prop} (h : P (Builtin.bitXor a b)) : iopW .BitXor a (.int b) P := h
theorem iopW_shr {a b : Int} {P : Int → Prop} (h : 0 ≤ b ∧ P (a.fdiv (2 ^ b.toNat))) : iopW .RShift a (.int b) P := h
theorem subW_bytes {b : Array UInt8} {i : Int} {P : D → Prop} (h : 0 ≤ i ∧ i < b.size ∧ b.size ≤ 1099511627776 ∧ P (.int (b.toList.getD i.toNat 0).toNat)) : subW (.bytes b) (.int i) P := h
theorem subW_tup {ds : List D} {i : Int} {P : D → Prop} (h : 0 ≤ i ∧ i < 2 ^ 63 ∧ ∃ d, ds[i.toNat]? = some d ∧ P d) : subW (.tup ds) (.int i) P := h
theorem subW_lst {ds : List D} {i : Int} {P : D → Prop} (h : (0 ≤ i ∧ i < 2 ^ 63 ∧ ∃ d, ds[i.toNat]? = some d ∧ P d) ∨ (i = -1 ∧ ∃ d, ds.getLast? = some d ∧ P d)) : subW (.lst ds) (.int i) P := h
theorem truW_b {b : Bool} {P : Bool → Prop} (h : P b) : truW (.bool b) P := h
theorem truW_i {i : Int} {P : Bool → Prop} (h : P (i != 0)) : truW (.int i) P := h
theorem SE.flat {X : Cx} {σ : Loc} {sf : Bool} {e : Expr} {P : D → Prop} (h : SE X σ false e (fun d => Mine.flat d ∧ P d)) : SE X σ sf e P :=
  fun A s m K R S hK => h A s m K R S fun d v h' tk hp he hr => hK d v h' tk hp.2 he (Rep.flat hp.1 hr)
theorem fmod_pos {a b : Int} (h : 0 < b) : a.fmod b = a % b := Int.fmod_eq_emod_of_nonneg a (Int.le_of_lt h)
theorem fdiv_pos {a b : Int} (h : 0 < b) : a.fdiv b = a / b := Int.fdiv_eq_ediv_of_nonneg a (Int.le_of_lt h)
theorem log2_small {n : Nat} (h : n < 9000) : n.log2 < 9000 := Nat.lt_of_le_of_lt (Nat.log2_le_self n) h
theorem bl_lt_of_two {a b : Nat} (h : 2 * a ≤ b) (hb : b ≠ 0) : bl a < bl b := by
  by_cases ha : a = 0
  · rw [ha, bl_zero]; exact bl_pos hb
  · have h1 := bl_double ha
    have h2 : bl (2 * a) ≤ bl b := bl_le.mpr (Nat.lt_of_le_of_lt h (bl_le.mp (Nat.le_refl _)))
    omega
theorem num_step {t : Int} {m : Nat} (h1 : 1 ≤ t) (h2 : t ≤ 26) (h : t ≤ m) : ∃ m' : Nat, ((m : Int) - t).fdiv (36 - t) = m' ∧ t ≤ t + ((m : Int) - t).fmod (36 - t) ∧ t + ((m : Int) - t).fmod (36 - t) < 36 ∧
    (m : Int) = t + ((m : Int) - t).fmod (36 - t) + (36 - t) * m' ∧ bl m' < bl m ∧ m' < m := by
  have hp : 0 < 36 - t := by omega
  rw [fdiv_pos hp, fmod_pos hp]
  have e := Int.mul_ediv_add_emod ((m : Int) - t) (36 - t)
  have e1 := Int.emod_nonneg ((m : Int) - t) (Int.ne_of_gt hp)
  have e2 := Int.emod_lt_of_pos ((m : Int) - t) hp
  have e3 : 0 ≤ ((m : Int) - t) / (36 - t) := Int.ediv_nonneg (by omega) (by omega)
  have e4 : 2 * (((m : Int) - t) / (36 - t)) ≤ (36 - t) * (((m : Int) - t) / (36 - t)) := Int.mul_le_mul_of_nonneg_right (by omega) e3
  refine ⟨(((m : Int) - t) / (36 - t)).toNat, by omega, by omega, by omega, ?_, ?_, by omega⟩
  · rw [Int.toNat_of_nonneg e3]; omega
  · exact bl_lt_of_two (by omega) (by omega)
theorem shl_nat (a k : Nat) : (a : Int) * 2 ^ ((k : Int) - 1).toNat = ((a * 2 ^ (k - 1) : Nat) : Int) := by
  rw [show ((k : Int) - 1).toNat = k - 1 by omega, Int.natCast_mul]; rfl
theorem shl_nat' (a : Nat) {k : Int} {j : Nat} (h : k = j) : (a : Int) * 2 ^ k.toNat = ((a * 2 ^ j : Nat) : Int) := by
  rw [h, Int.toNat_natCast, Int.natCast_mul]; rfl
theorem bit_odd (n : Nat) : (Builtin.bitAnd (n : Int) 1 != 0) = decide (n % 2 = 1) := by
  have := bitAnd_nat n 1
  rw [Nat.and_one_is_mod] at this
  rw [show (1 : Int) = ((1 : Nat) : Int) from rfl, this]
  rcases Nat.mod_two_eq_zero_or_one n with e | e <;> rw [e] <;> decide
theorem half_int (n : Nat) : (n : Int).fdiv (2 ^ (1 : Int).toNat) = ((n / 2 : Nat) : Int) := by
  have := fdiv_nat n 1
  simpa using this
theorem stps_succ (i r : Nat) : stps (i + 1) r = stp (stps i r) := (stps_add i 1 r).symm

def drOf (p : Program) (i : Nat) : DefRec := match p.main.body[i]? with
  | some (.FunctionDef name args body _ _ _ scope _ _ pos) => ⟨name, args, body, scope, pos⟩
  | _ => ⟨Str.ofString "", ⟨[], [], none, [], [], none, []⟩, [], { kind := .function, names := [], isGenerator := false, isCoroutine := false, more := [] }, ⟨0, 0, 0, 0⟩⟩
abbrev dr2 (i : Nat) : DefRec := drOf PySem.Challenge.pw_wo0005_02 i

structure Fns2 (G : GG) : Prop where
  GO : G.Ok
  h1 : HasDef G (dr2 1)
  h2 : HasDef G (dr2 2)
  hT : HasDef G (dr2 4)
  hD : HasDef G (dr2 5)
  hG : HasDef G (dr2 7)
  hc : HasDef G (dr2 9)
  hq : HasDef G (dr2 10)
  hn : HasDef G (dr2 11)
  hr : HasDef G (dr2 12)
  ht : HasDef G (dr2 13)
  hs : HasDef G (dr2 14)
  hl : HasDef G (dr2 15)
  len : G.mg (Str.ofString "len") = none ∧ G.mb (Str.ofString "len") = some (.builtin "len")
  mx : G.mg (Str.ofString "max") = none ∧ G.mb (Str.ofString "max") = some (.builtin "max")
  mn : G.mg (Str.ofString "min") = none ∧ G.mb (Str.ofString "min") = some (.builtin "min")
  sm : G.mg (Str.ofString "sum") = none ∧ G.mb (Str.ofString "sum") = some (.builtin "sum")
  rg : G.mg (Str.ofString "range") = none ∧ G.mb (Str.ofString "range") = some (.type "range")
  byt : G.mg (Str.ofString "bytes") = none ∧ G.mb (Str.ofString "bytes") = some (.type "bytes")
end Mine
end
section
set_option maxRecDepth 100000
open PySem PySem.W PyProof.Rows PySem.Calls
namespace Mine
local macro_rules | `(tactic| walk_at "pw") => `(tactic| first
  | with_reducible refine SS.nil ?_
  | with_reducible refine SS.cons ?_
  | with_reducible refine S1.ret ?_
  | with_reducible refine S1.ife ?_
  | ((with_reducible show S1 _ _ (.Assign [.Name _ _] (.List _ _) _) _); refine S1.assignL ‹_› ?_ (by rfl))
  | ((with_reducible show S1 _ _ (.Assign [.Name _ _] _ _) _); refine S1.assign ‹_› ?_ (by rfl))
  | ((with_reducible show S1 _ _ (.AugAssign (.Name _ _) _ _ _) _); refine S1.aug ‹_› (by rfl) ?_ (by rfl))
  | ((with_reducible show S1 _ _ (.AugAssign (.Name _ _) .Add _ _) _); refine S1.augL ‹_› (by rfl) ?_ (by rfl))
  | ((with_reducible show S1 _ _ (.Expr (.Call (.Attribute (.Name _ _) _ _) [_] [] _) _) _); refine S1.append ‹_› (by rfl) ?_ ?_ (by rfl) (by rfl); rotate_left)
  | with_reducible refine SE.cint ?_
  | with_reducible refine SE.cnone ?_
  | with_reducible refine SE.cstr ?_
  | ((with_reducible show SE _ _ _ (.Name _ _) _); refine SE.name ‹_› (by rfl) ?_ (by rfl))
  | ((with_reducible show SE _ _ _ (.Name _ _) _); refine SE.nameO ‹_› (by rfl) ?_ (by rfl))
  | with_reducible refine SE.bin ‹_› ?_
  | with_reducible refine SE.cbool ?_
  | ((with_reducible refine SE.cmp ?_ ?_); rotate_left; with_unfolding_all rfl)
  | with_reducible refine SE.neg ?_
  | with_reducible refine SE.ifexp ?_
  | ((with_reducible refine SE.sub ?_ ?_); rotate_left; (intro _ _; rfl))
  | ((with_reducible refine SE.bitlen ?_ ?_ ?_); rotate_left; (intro _; rfl); rfl)
  | ((with_reducible refine ST.cmp ?_ ?_); rotate_left; with_unfolding_all rfl)
  | ((with_reducible refine ST.chain ?_ ?_); rotate_left; with_unfolding_all rfl)
  | with_reducible refine ST.not ?_
  | ((with_reducible show ST _ _ (.BinOp _ _ _ _) _); refine ST.plain ?_)
  | ((with_reducible show ST _ _ (.Call _ _ _ _) _); refine ST.plain ?_)
  | ((with_reducible show ST _ _ (.Constant _ _ _) _); refine ST.plain ?_)
  | with_reducible refine SE.tuple ?_
  | with_reducible refine SE.list ‹_› ?_
  | ((with_reducible refine SEs.cons ?_ ?_); rotate_left; (intro _; rfl))
  | with_reducible refine SEs.nil ?_
  | with_reducible refine S1.try ?_
  | ((with_reducible show SE _ _ _ (.Call (.Name (Str.ofString "len") _) _ [] _) _); refine SE.bcall (b := .builtin "len") ‹_› ?_ (.inl ⟨_, rfl⟩) ‹Fns2 _›.len.1 ‹Fns2 _›.len.2 (by rfl))
  | ((with_reducible show SE _ _ _ (.Call (.Name (Str.ofString "max") _) _ [] _) _); refine SE.bcall (b := .builtin "max") ‹_› ?_ (.inl ⟨_, rfl⟩) ‹Fns2 _›.mx.1 ‹Fns2 _›.mx.2 (by rfl))
  | ((with_reducible show SE _ _ _ (.Call (.Name (Str.ofString "min") _) _ [] _) _); refine SE.bcall (b := .builtin "min") ‹_› ?_ (.inl ⟨_, rfl⟩) ‹Fns2 _›.mn.1 ‹Fns2 _›.mn.2 (by rfl))
  | ((with_reducible show SE _ _ _ (.Call (.Name (Str.ofString "sum") _) _ [] _) _); refine SE.bcall (b := .builtin "sum") ‹_› ?_ (.inl ⟨_, rfl⟩) ‹Fns2 _›.sm.1 ‹Fns2 _›.sm.2 (by rfl))
  | ((with_reducible show SE _ _ _ (.Call (.Name (Str.ofString "range") _) _ [] _) _); refine SE.bcall (b := .type "range") ‹_› ?_ (.inr ⟨_, rfl⟩) ‹Fns2 _›.rg.1 ‹Fns2 _›.rg.2 (by rfl))
  | ((with_reducible show SE _ _ _ (.Call (.Name (Str.ofString "bytes") _) _ [] _) _); refine SE.bcall (b := .type "bytes") ‹_› ?_ (.inr ⟨_, rfl⟩) ‹Fns2 _›.byt.1 ‹Fns2 _›.byt.2 (by rfl))
  | ((with_reducible show SE _ _ _ (.Call (.Name (Str.ofString "_is_single_bit") _) _ [] _) _); refine SE.call (k := 1) (nh := True) ‹_› ?_ ‹Fns2 _›.h1.fn (Nat.le_of_ble_eq_true rfl) (fun _ => trivial) (by rfl))
  | ((with_reducible show SE _ _ _ (.Call (.Name (Str.ofString "_high_bit") _) _ [] _) _); refine SE.call (k := 1) (nh := True) ‹_› ?_ ‹Fns2 _›.h2.fn (Nat.le_of_ble_eq_true rfl) (fun _ => trivial) (by rfl))
  | ((with_reducible show SE _ _ _ (.Call (.Name (Str.ofString "T") _) _ [] _) _); refine SE.call (k := 1) (nh := True) ‹_› ?_ ‹Fns2 _›.hT.fn (Nat.le_of_ble_eq_true rfl) (fun _ => trivial) (by rfl))
  | ((with_reducible show SE _ _ _ (.Call (.Name (Str.ofString "_gen_crc") _) _ [] _) _); refine SE.call (k := 1) (nh := True) ‹_› ?_ ‹Fns2 _›.hG.fn (Nat.le_of_ble_eq_true rfl) (fun _ => trivial) (by rfl))
  | with_reducible refine cmpW_lt ?_
  | with_reducible refine cmpW_le ?_
  | with_reducible refine cmpW_gt ?_
  | with_reducible refine cmpW_ge ?_
  | with_reducible refine cmpW_eq ?_
  | with_reducible refine cmpW_ne ?_
  | with_reducible refine cmpW_eqs ?_
  | with_reducible refine cmpW_is ?_
  | with_reducible refine cmpW_isnot ?_
  | with_reducible refine opW_add ?_
  | with_reducible refine opW_sub ?_
  | with_reducible refine opW_mul ?_
  | with_reducible refine opW_fdiv ?_
  | with_reducible refine opW_mod ?_
  | with_reducible refine opW_pow ?_
  | with_reducible refine opW_shl ?_
  | with_reducible refine opW_shr ?_
  | with_reducible refine opW_and ?_
  | with_reducible refine opW_or ?_
  | with_reducible refine opW_xor ?_
  | with_reducible refine opW_cat ?_
  | with_reducible refine iopW_add ?_
  | with_reducible refine iopW_sub ?_
  | with_reducible refine iopW_and ?_
  | with_reducible refine iopW_or ?_
  | with_reducible refine iopW_xor ?_
  | with_reducible refine iopW_shr ?_
  | with_reducible refine subW_bytes ?_
  | with_reducible refine subW_tup ?_
  | with_reducible refine subW_lst ?_
  | with_reducible refine truW_b ?_
  | with_reducible refine truW_i ?_
  | ((with_reducible show BSpec _ _ _ (.type "range") _ _); refine BSpec.range ?_ ?_)
  | ((with_reducible show BSpec _ _ _ (.builtin "max") _ _); refine BSpec.max trivial ?_)
  | ((with_reducible show BSpec _ _ _ (.builtin "min") _ _); refine BSpec.min trivial ?_)
  | ((with_reducible show BSpec _ _ _ (.builtin "len") _ _); refine BSpec.len ?_))

theorem isb_spec {G : GG} (F : Fns2 G) (n : Int) : Spec G 1 True (Str.ofString "_is_single_bit") [.int n] (fun d => d = .bool (isbI n)) := by
  refine Spec.intro (d := dr2 1) (k := 0) (σ := [(Str.ofString "num", .fr (.int n))]) F.GO F.h1 ?_ ?_ (by rfl) (by decide +kernel) (by rfl) (by rfl) (by rfl) (by decide +kernel)
  · intro h₀ L a cd ok O
    unfold isbI
    refine SS.cons ?_
    repeat walk_at "pw"

    split
    · rename_i h
      repeat walk_at "pw"
      show (_ : D) = _
      rw [if_pos (of_decide_eq_true h)]
    · rename_i h
      repeat walk_at "pw"
      show (_ : D) = _
      rw [if_neg (fun e => h (decide_eq_true e))]
  · intro pm code doc vs hl
    match vs, hl with
    | [_], _ => rfl
theorem hb_spec {G : GG} (F : Fns2 G) (n : Int) : Spec G 1 True (Str.ofString "_high_bit") [.int n] (fun d => d = .int ((Builtin.Int.intBits n : Nat) - 1)) := by
  refine Spec.intro (d := dr2 2) (k := 0) (σ := [(Str.ofString "value", .fr (.int n))]) F.GO F.h2 ?_ ?_ (by rfl) (by decide +kernel) (by rfl) (by rfl) (by rfl) (by decide +kernel)
  · intro h₀ L a cd ok O
    refine SS.cons ?_
    repeat walk_at "pw"
    exact (rfl : (_ : D) = _)
  · intro pm code doc vs hl
    match vs, hl with
    | [_], _ => rfl

theorem T_spec {G : GG} (F : Fns2 G) (j : Nat) (bias : Int) : Spec G 1 True (Str.ofString "T") [.int j, .int bias] (fun d => d = .int (tau bias j)) := by
  refine Spec.intro (d := dr2 4) (k := 0) (σ := [(Str.ofString "bias", .fr (.int bias)), (Str.ofString "j", .fr (.int j))]) F.GO F.hT ?_ ?_ (by rfl) (by decide +kernel) (by rfl) (by rfl) (by rfl) (by decide +kernel)
  · intro h₀ L a cd ok O
    refine SS.cons ?_
    repeat walk_at "pw"
    refine ⟨.of_left (intBits_le_64 (by decide) (by decide)), ?_⟩
    repeat walk_at "pw"
    split
    · rename_i h
      repeat walk_at "pw"
      refine congrArg D.int ?_
      rw [tau, if_pos (of_decide_eq_true h)]
    · rename_i h
      repeat walk_at "pw"
      have h := fun e => h (decide_eq_true e)
      split
      · rename_i h2
        repeat walk_at "pw"
        refine congrArg D.int ?_
        rw [tau, if_neg h, if_pos (of_decide_eq_true h2)]
      · rename_i h2
        repeat walk_at "pw"
        refine congrArg D.int ?_
        rw [tau, if_neg h, if_neg (fun e => h2 (decide_eq_true e))]
  · intro pm code doc vs hl
    match vs, hl with
    | [_, _], _ => rfl

theorem gen_spec {G : GG} (F : Fns2 G) (r : Nat) : Spec G 1 True (Str.ofString "_gen_crc") [.int r] (fun d => d = .int (stps 8 r : Nat)) := by
  refine Spec.intro (d := dr2 7) (k := 0) (σ := [(Str.ofString "crc", .fr (.int r))]) F.GO F.hG ?_ ?_ (by rfl) (by decide +kernel) (by rfl) (by rfl) (by rfl) (by decide +kernel)
  · intro h₀ L a cd ok O
    refine SS.cons ?_
    refine S1.for O trivial ?_ (by rfl)
    repeat walk_at "pw"
    · refine ⟨_, rfl, fun i σ' => σ' = [(Str.ofString "crc", .fr (.int (stps i r : Nat)))], ⟨_, Sub.cons (by rfl) Sub.nil, rfl⟩, ?_, ?_⟩
      · rintro i d σ' hd rfl
        show SS _ _ _ _
        refine SS.cons ?_
        repeat walk_at "pw"
        rw [bit_odd]
        split
        · rename_i h
          have h := of_decide_eq_true h
          repeat walk_at "pw"
          refine ⟨by decide, ?_⟩
          repeat walk_at "pw"
          refine ⟨_, ?_, rfl⟩
          rw [half_int, show (3988292384 : Int) = ((3988292384 : Nat) : Int) from rfl, bitXor_nat, stps_succ, stp, if_pos h]
          exact Sub.cons (by rfl) Sub.nil
        · rename_i h
          have h := fun e => h (decide_eq_true e)
          repeat walk_at "pw"
          refine ⟨by decide, ?_⟩
          repeat walk_at "pw"
          refine ⟨_, ?_, rfl⟩
          rw [half_int, stps_succ, stp, if_neg h]
          exact Sub.cons (by rfl) Sub.nil
      · rintro σ' rfl
        repeat walk_at "pw"
        rfl
    · decide
  · intro pm code doc vs hl
    match vs, hl with
    | [_], _ => rfl
end Mine
end
section
set_option maxRecDepth 100000
open PySem PySem.W PyProof.Rows PySem.Calls
namespace Mine
local macro_rules | `(tactic| walk_at "pw") => `(tactic| first
  | with_reducible refine SS.nil ?_
  | with_reducible refine SS.cons ?_
  | with_reducible refine S1.ret ?_
  | with_reducible refine S1.ife ?_
  | ((with_reducible show S1 _ _ (.Assign [.Name _ _] (.List _ _) _) _); refine S1.assignL ‹_› ?_ (by rfl))
  | ((with_reducible show S1 _ _ (.Assign [.Name _ _] _ _) _); refine S1.assign ‹_› ?_ (by rfl))
  | ((with_reducible show S1 _ _ (.AugAssign (.Name _ _) _ _ _) _); refine S1.aug ‹_› (by rfl) ?_ (by rfl))
  | ((with_reducible show S1 _ _ (.AugAssign (.Name _ _) .Add _ _) _); refine S1.augL ‹_› (by rfl) ?_ (by rfl))
  | ((with_reducible show S1 _ _ (.Expr (.Call (.Attribute (.Name _ _) _ _) [_] [] _) _) _); refine S1.append ‹_› (by rfl) ?_ ?_ (by rfl) (by rfl); rotate_left)
  | with_reducible refine SE.cint ?_
  | with_reducible refine SE.cnone ?_
  | with_reducible refine SE.cstr ?_
  | ((with_reducible show SE _ _ _ (.Name _ _) _); refine SE.name ‹_› (by rfl) ?_ (by rfl))
  | ((with_reducible show SE _ _ _ (.Name _ _) _); refine SE.nameO ‹_› (by rfl) ?_ (by rfl))
  | with_reducible refine SE.bin ‹_› ?_
  | with_reducible refine SE.cbool ?_
  | ((with_reducible refine SE.cmp ?_ ?_); rotate_left; with_unfolding_all rfl)
  | with_reducible refine SE.neg ?_
  | with_reducible refine SE.ifexp ?_
  | ((with_reducible refine SE.sub ?_ ?_); rotate_left; (intro _ _; rfl))
  | ((with_reducible refine SE.bitlen ?_ ?_ ?_); rotate_left; (intro _; rfl); rfl)
  | ((with_reducible refine ST.cmp ?_ ?_); rotate_left; with_unfolding_all rfl)
  | ((with_reducible refine ST.chain ?_ ?_); rotate_left; with_unfolding_all rfl)
  | with_reducible refine ST.not ?_
  | ((with_reducible show ST _ _ (.BinOp _ _ _ _) _); refine ST.plain ?_)
  | ((with_reducible show ST _ _ (.Call _ _ _ _) _); refine ST.plain ?_)
  | ((with_reducible show ST _ _ (.Constant _ _ _) _); refine ST.plain ?_)
  | with_reducible refine SE.tuple ?_
  | with_reducible refine SE.list ‹_› ?_
  | ((with_reducible refine SEs.cons ?_ ?_); rotate_left; (intro _; rfl))
  | with_reducible refine SEs.nil ?_
  | with_reducible refine S1.try ?_
  | ((with_reducible show SE _ _ _ (.Call (.Name (Str.ofString "len") _) _ [] _) _); refine SE.bcall (b := .builtin "len") ‹_› ?_ (.inl ⟨_, rfl⟩) ‹Fns2 _›.len.1 ‹Fns2 _›.len.2 (by rfl))
  | ((with_reducible show SE _ _ _ (.Call (.Name (Str.ofString "max") _) _ [] _) _); refine SE.bcall (b := .builtin "max") ‹_› ?_ (.inl ⟨_, rfl⟩) ‹Fns2 _›.mx.1 ‹Fns2 _›.mx.2 (by rfl))
  | ((with_reducible show SE _ _ _ (.Call (.Name (Str.ofString "min") _) _ [] _) _); refine SE.bcall (b := .builtin "min") ‹_› ?_ (.inl ⟨_, rfl⟩) ‹Fns2 _›.mn.1 ‹Fns2 _›.mn.2 (by rfl))
  | ((with_reducible show SE _ _ _ (.Call (.Name (Str.ofString "sum") _) _ [] _) _); refine SE.bcall (b := .builtin "sum") ‹_› ?_ (.inl ⟨_, rfl⟩) ‹Fns2 _›.sm.1 ‹Fns2 _›.sm.2 (by rfl))
  | ((with_reducible show SE _ _ _ (.Call (.Name (Str.ofString "range") _) _ [] _) _); refine SE.bcall (b := .type "range") ‹_› ?_ (.inr ⟨_, rfl⟩) ‹Fns2 _›.rg.1 ‹Fns2 _›.rg.2 (by rfl))
  | ((with_reducible show SE _ _ _ (.Call (.Name (Str.ofString "bytes") _) _ [] _) _); refine SE.bcall (b := .type "bytes") ‹_› ?_ (.inr ⟨_, rfl⟩) ‹Fns2 _›.byt.1 ‹Fns2 _›.byt.2 (by rfl))
  | ((with_reducible show SE _ _ _ (.Call (.Name (Str.ofString "_is_single_bit") _) _ [] _) _); refine SE.call (k := 1) (nh := True) ‹_› ?_ ‹Fns2 _›.h1.fn (Nat.le_of_ble_eq_true rfl) (fun _ => trivial) (by rfl))
  | ((with_reducible show SE _ _ _ (.Call (.Name (Str.ofString "_high_bit") _) _ [] _) _); refine SE.call (k := 1) (nh := True) ‹_› ?_ ‹Fns2 _›.h2.fn (Nat.le_of_ble_eq_true rfl) (fun _ => trivial) (by rfl))
  | ((with_reducible show SE _ _ _ (.Call (.Name (Str.ofString "T") _) _ [] _) _); refine SE.call (k := 1) (nh := True) ‹_› ?_ ‹Fns2 _›.hT.fn (Nat.le_of_ble_eq_true rfl) (fun _ => trivial) (by rfl))
  | ((with_reducible show SE _ _ _ (.Call (.Name (Str.ofString "_gen_crc") _) _ [] _) _); refine SE.call (k := 1) (nh := True) ‹_› ?_ ‹Fns2 _›.hG.fn (Nat.le_of_ble_eq_true rfl) (fun _ => trivial) (by rfl))
  | with_reducible refine cmpW_lt ?_
  | with_reducible refine cmpW_le ?_
  | with_reducible refine cmpW_gt ?_
  | with_reducible refine cmpW_ge ?_
  | with_reducible refine cmpW_eq ?_
  | with_reducible refine cmpW_ne ?_
  | with_reducible refine cmpW_eqs ?_
  | with_reducible refine cmpW_is ?_
  | with_reducible refine cmpW_isnot ?_
  | with_reducible refine opW_add ?_
  | with_reducible refine opW_sub ?_
  | with_reducible refine opW_mul ?_
  | with_reducible refine opW_fdiv ?_
  | with_reducible refine opW_mod ?_
  | with_reducible refine opW_pow ?_
  | with_reducible refine opW_shl ?_
  | with_reducible refine opW_shr ?_
  | with_reducible refine opW_and ?_
  | with_reducible refine opW_or ?_
  | with_reducible refine opW_xor ?_
  | with_reducible refine opW_cat ?_
  | with_reducible refine iopW_add ?_
  | with_reducible refine iopW_sub ?_
  | with_reducible refine iopW_and ?_
  | with_reducible refine iopW_or ?_
  | with_reducible refine iopW_xor ?_
  | with_reducible refine iopW_shr ?_
  | with_reducible refine subW_bytes ?_
  | with_reducible refine subW_tup ?_
  | with_reducible refine subW_lst ?_
  | with_reducible refine truW_b ?_
  | with_reducible refine truW_i ?_
  | ((with_reducible show BSpec _ _ _ (.type "range") _ _); refine BSpec.range ?_ ?_)
  | ((with_reducible show BSpec _ _ _ (.builtin "max") _ _); refine BSpec.max trivial ?_)
  | ((with_reducible show BSpec _ _ _ (.builtin "min") _ _); refine BSpec.min trivial ?_)
  | ((with_reducible show BSpec _ _ _ (.builtin "len") _ _); refine BSpec.len ?_)
  | ((with_reducible show Spec _ _ _ (Str.ofString "_is_single_bit") _ _); refine Spec.mono (isb_spec ‹_› _) ?_; intro d hd; subst hd)
  | ((with_reducible show Spec _ _ _ (Str.ofString "_high_bit") _ _); refine Spec.mono (hb_spec ‹_› _) ?_; intro d hd; subst hd)
  | ((with_reducible show Spec _ _ _ (Str.ofString "T") _ _); refine Spec.mono (T_spec ‹_› _ _) ?_; intro d hd; subst hd)
  | ((with_reducible show Spec _ _ _ (Str.ofString "_gen_crc") _ _); refine Spec.mono (gen_spec ‹_› _) ?_; intro d hd; subst hd))

theorem decode_spec {G : GG} (F : Fns2 G) {bias q : Int} {ns ds rest : List Int} {p : Nat} (hr : ∀ n ∈ ns, 0 ≤ n ∧ n < 256) (hz : ns.length ≤ 1000000) (h : Num bias 0 q ds) (hd : ns.drop p = ds ++ rest) :
    Spec G 2 True (Str.ofString "decode_generalized_number") [.bytes (byteArr ns), .int p, .int bias, .str (Str.ofString "strict")] (fun d => d = .tup [.int (p + ds.length : Nat), .int q]) := by
  refine Spec.intro (d := dr2 5) (k := 1) (σ := [(Str.ofString "errors", .fr (.str (Str.ofString "strict"))), (Str.ofString "bias", .fr (.int bias)), (Str.ofString "extpos", .fr (.int p)), (Str.ofString "extended", .fr (.bytes (byteArr ns)))]) F.GO F.hD ?_ ?_ (by rfl) (by decide +kernel) (by rfl) (by rfl) (by rfl) (by decide +kernel)
  · intro h₀ L a cd ok O
    refine SS.cons ?_
    repeat walk_at "pw"
    refine S1.while (fun n σ' => ∃ (j e : Nat) (ds' : List Int) (q' w res : Int), n = ds'.length ∧ Num bias j q' ds' ∧ ns.drop e = ds' ++ rest ∧ res + w * q' = q ∧ e + ds'.length = p + ds.length ∧
      σ' = [(Str.ofString "bias", .fr (.int bias)), (Str.ofString "extpos", .fr (.int e)), (Str.ofString "extended", .fr (.bytes (byteArr ns))), (Str.ofString "result", .fr (.int res)), (Str.ofString "w", .fr (.int w)), (Str.ofString "j", .fr (.int j))]) ?_ ?_
    · exact ⟨_, _, Sub.cons (by rfl) (Sub.cons (by rfl) (Sub.cons (by rfl) (Sub.cons (by rfl) (Sub.cons (by rfl) (Sub.cons (by rfl) Sub.nil))))), 0, p, ds, q, 1, 0, rfl, h, hd, by omega, rfl, rfl⟩
    · rintro n σ' ⟨j, e, ds', q', w, res, rfl, hN, hdr, hq, he, rfl⟩
      repeat walk_at "pw"
      rw [if_pos (by decide)]
      obtain ⟨d, tl, rfl, hd0, hd1, hl1, hl2⟩ := hN.open
      have hlt := drop_lt hdr
      have hdr' := drop_more hdr
      refine SS.to [(Str.ofString "bias", .fr (.int bias)), (Str.ofString "extpos", .fr (.int e)), (Str.ofString "extended", .fr (.bytes (byteArr ns))), (Str.ofString "result", .fr (.int res)), (Str.ofString "w", .fr (.int w)), (Str.ofString "j", .fr (.int j)), (Str.ofString "char", .fr (.int (oct d)))] ?_ ?_
      · repeat walk_at "pw"
        refine ⟨Int.natCast_nonneg _, ?_, ?_, ?_⟩
        · rw [byteArr_size]; omega
        · rw [byteArr_size]; omega
        · have hb := byteArr_get hr (get_drop (i := 0) hdr rfl)
          rw [Nat.add_zero] at hb
          rw [Int.toNat_natCast, hb]
          repeat walk_at "pw"
          exact ⟨rfl, Sub.cons (by rfl) (Sub.cons (by rfl) (Sub.cons (by rfl) (Sub.cons (by rfl) (Sub.cons (by rfl) (Sub.cons (by rfl) (Sub.cons (by rfl) Sub.nil))))))⟩
      refine SS.to [(Str.ofString "bias", .fr (.int bias)), (Str.ofString "extpos", .fr (.int ((e + 1 : Nat) : Int))), (Str.ofString "extended", .fr (.bytes (byteArr ns))), (Str.ofString "result", .fr (.int res)), (Str.ofString "w", .fr (.int w)), (Str.ofString "j", .fr (.int j)), (Str.ofString "char", .fr (.int (oct d)))] ?_ ?_
      · repeat walk_at "pw"
        exact ⟨rfl, (Sub.cons (by rfl) (Sub.cons (by rfl) (Sub.cons (by rfl) (Sub.cons (by rfl) (Sub.cons (by rfl) (Sub.cons (by rfl) (Sub.cons (by rfl) Sub.nil)))))))⟩
      refine SS.to [(Str.ofString "bias", .fr (.int bias)), (Str.ofString "extpos", .fr (.int ((e + 1 : Nat) : Int))), (Str.ofString "extended", .fr (.bytes (byteArr ns))), (Str.ofString "result", .fr (.int res)), (Str.ofString "w", .fr (.int w)), (Str.ofString "j", .fr (.int j)), (Str.ofString "digit", .fr (.int d))] ?_ ?_
      · repeat walk_at "pw"
        by_cases hd26 : d < 26
        · have e1 : oct d = 65 + d := by rw [oct, if_pos hd26]
          rw [e1, if_pos (decide_eq_true (by omega))]
          repeat walk_at "pw"
          rw [if_pos (decide_eq_true (by omega))]
          repeat walk_at "pw"
          rw [show 65 + d - 65 = d by omega]
          exact ⟨rfl, (Sub.cons (by rfl) (Sub.cons (by rfl) (Sub.cons (by rfl) (Sub.cons (by rfl) (Sub.cons (by rfl) (Sub.cons (by rfl) (Sub.cons (by rfl) Sub.nil)))))))⟩
        · have e1 : oct d = 22 + d := by rw [oct, if_neg hd26]
          have go : ∀ (P : Prop), P → P := fun _ h => h
          rw [e1]
          by_cases hd43 : 43 ≤ d
          · omega
          · rw [if_neg (fun h => by have := of_decide_eq_true h; omega), if_neg Bool.false_ne_true]
            repeat walk_at "pw"
            rw [if_pos (decide_eq_true (by omega))]
            repeat walk_at "pw"
            rw [if_pos (decide_eq_true (by omega))]
            repeat walk_at "pw"
            rw [show 22 + d - 22 = d by omega]
            exact ⟨rfl, (Sub.cons (by rfl) (Sub.cons (by rfl) (Sub.cons (by rfl) (Sub.cons (by rfl) (Sub.cons (by rfl) (Sub.cons (by rfl) (Sub.cons (by rfl) Sub.nil)))))))⟩
      refine SS.cons ?_
      repeat walk_at "pw"
      refine ⟨.of_left (intBits_le_64 (by omega) (by omega)), ?_⟩
      repeat walk_at "pw"
      have ht1 := tau_ge bias j
      have ht2 := tau_le bias j
      split
      · rename_i hlt
        obtain ⟨rfl, rfl⟩ := hl1 (of_decide_eq_true hlt)
        repeat walk_at "pw"
        refine ⟨Nat.le_of_ble_eq_true rfl, ?_⟩
        show (_ : D) = _
        have e2 : e + 1 = p + ds.length := he
        rw [e2, ← hq, Int.mul_comm]
      · rename_i hlt
        obtain ⟨n', hN', hq'⟩ := hl2 fun e => hlt (decide_eq_true e)
        repeat walk_at "pw"
        refine ⟨.of_right (intBits_le_64 (by omega) (by omega)), ?_⟩
        repeat walk_at "pw"
        refine ⟨tl.length, by rw [List.length_cons]; omega, _, ?_, j + 1, e + 1, tl, n', w * (36 - tau bias j), res + d * w, rfl, hN', hdr', ?_, ?_, rfl⟩
        · exact (Sub.cons (by rfl) (Sub.cons (by rfl) (Sub.cons (by rfl) (Sub.cons (by rfl) (Sub.cons (by rfl) (Sub.cons (by rfl) Sub.nil))))))
        · rw [← hq, hq', Int.mul_add, Int.mul_assoc, Int.mul_comm d w, Int.add_assoc]
        · rw [List.length_cons] at he; omega
  · intro pm code doc vs hl
    match vs, hl with
    | [_, _, _, _], _ => rfl
end Mine
end
section
set_option maxRecDepth 100000
open PySem PySem.W PyProof.Rows PySem.Calls
namespace Mine
local macro_rules | `(tactic| walk_at "pw") => `(tactic| first
  | with_reducible refine SS.nil ?_
  | with_reducible refine SS.cons ?_
  | with_reducible refine S1.ret ?_
  | with_reducible refine S1.ife ?_
  | ((with_reducible show S1 _ _ (.Assign [.Name _ _] (.List _ _) _) _); refine S1.assignL ‹_› ?_ (by rfl))
  | ((with_reducible show S1 _ _ (.Assign [.Name _ _] _ _) _); refine S1.assign ‹_› ?_ (by rfl))
  | ((with_reducible show S1 _ _ (.AugAssign (.Name _ _) _ _ _) _); refine S1.aug ‹_› (by rfl) ?_ (by rfl))
  | ((with_reducible show S1 _ _ (.AugAssign (.Name _ _) .Add _ _) _); refine S1.augL ‹_› (by rfl) ?_ (by rfl))
  | ((with_reducible show S1 _ _ (.Expr (.Call (.Attribute (.Name _ _) _ _) [_] [] _) _) _); refine S1.append ‹_› (by rfl) ?_ ?_ (by rfl) (by rfl); rotate_left)
  | with_reducible refine SE.cint ?_
  | with_reducible refine SE.cnone ?_
  | with_reducible refine SE.cstr ?_
  | ((with_reducible show SE _ _ _ (.Name _ _) _); refine SE.name ‹_› (by rfl) ?_ (by rfl))
  | ((with_reducible show SE _ _ _ (.Name _ _) _); refine SE.nameO ‹_› (by rfl) ?_ (by rfl))
  | with_reducible refine SE.bin ‹_› ?_
  | with_reducible refine SE.cbool ?_
  | ((with_reducible refine SE.cmp ?_ ?_); rotate_left; with_unfolding_all rfl)
  | with_reducible refine SE.neg ?_
  | with_reducible refine SE.ifexp ?_
  | ((with_reducible refine SE.sub ?_ ?_); rotate_left; (intro _ _; rfl))
  | ((with_reducible refine SE.bitlen ?_ ?_ ?_); rotate_left; (intro _; rfl); rfl)
  | ((with_reducible refine ST.cmp ?_ ?_); rotate_left; with_unfolding_all rfl)
  | ((with_reducible refine ST.chain ?_ ?_); rotate_left; with_unfolding_all rfl)
  | with_reducible refine ST.not ?_
  | ((with_reducible show ST _ _ (.BinOp _ _ _ _) _); refine ST.plain ?_)
  | ((with_reducible show ST _ _ (.Call _ _ _ _) _); refine ST.plain ?_)
  | ((with_reducible show ST _ _ (.Constant _ _ _) _); refine ST.plain ?_)
  | with_reducible refine SE.tuple ?_
  | with_reducible refine SE.list ‹_› ?_
  | ((with_reducible refine SEs.cons ?_ ?_); rotate_left; (intro _; rfl))
  | with_reducible refine SEs.nil ?_
  | with_reducible refine S1.try ?_
  | ((with_reducible show SE _ _ _ (.Call (.Name (Str.ofString "len") _) _ [] _) _); refine SE.bcall (b := .builtin "len") ‹_› ?_ (.inl ⟨_, rfl⟩) ‹Fns2 _›.len.1 ‹Fns2 _›.len.2 (by rfl))
  | ((with_reducible show SE _ _ _ (.Call (.Name (Str.ofString "max") _) _ [] _) _); refine SE.bcall (b := .builtin "max") ‹_› ?_ (.inl ⟨_, rfl⟩) ‹Fns2 _›.mx.1 ‹Fns2 _›.mx.2 (by rfl))
  | ((with_reducible show SE _ _ _ (.Call (.Name (Str.ofString "min") _) _ [] _) _); refine SE.bcall (b := .builtin "min") ‹_› ?_ (.inl ⟨_, rfl⟩) ‹Fns2 _›.mn.1 ‹Fns2 _›.mn.2 (by rfl))
  | ((with_reducible show SE _ _ _ (.Call (.Name (Str.ofString "sum") _) _ [] _) _); refine SE.bcall (b := .builtin "sum") ‹_› ?_ (.inl ⟨_, rfl⟩) ‹Fns2 _›.sm.1 ‹Fns2 _›.sm.2 (by rfl))
  | ((with_reducible show SE _ _ _ (.Call (.Name (Str.ofString "range") _) _ [] _) _); refine SE.bcall (b := .type "range") ‹_› ?_ (.inr ⟨_, rfl⟩) ‹Fns2 _›.rg.1 ‹Fns2 _›.rg.2 (by rfl))
  | ((with_reducible show SE _ _ _ (.Call (.Name (Str.ofString "bytes") _) _ [] _) _); refine SE.bcall (b := .type "bytes") ‹_› ?_ (.inr ⟨_, rfl⟩) ‹Fns2 _›.byt.1 ‹Fns2 _›.byt.2 (by rfl))
  | ((with_reducible show SE _ _ _ (.Call (.Name (Str.ofString "_is_single_bit") _) _ [] _) _); refine SE.call (k := 1) (nh := True) ‹_› ?_ ‹Fns2 _›.h1.fn (Nat.le_of_ble_eq_true rfl) (fun _ => trivial) (by rfl))
  | ((with_reducible show SE _ _ _ (.Call (.Name (Str.ofString "_high_bit") _) _ [] _) _); refine SE.call (k := 1) (nh := True) ‹_› ?_ ‹Fns2 _›.h2.fn (Nat.le_of_ble_eq_true rfl) (fun _ => trivial) (by rfl))
  | ((with_reducible show SE _ _ _ (.Call (.Name (Str.ofString "T") _) _ [] _) _); refine SE.call (k := 1) (nh := True) ‹_› ?_ ‹Fns2 _›.hT.fn (Nat.le_of_ble_eq_true rfl) (fun _ => trivial) (by rfl))
  | ((with_reducible show SE _ _ _ (.Call (.Name (Str.ofString "_gen_crc") _) _ [] _) _); refine SE.call (k := 1) (nh := True) ‹_› ?_ ‹Fns2 _›.hG.fn (Nat.le_of_ble_eq_true rfl) (fun _ => trivial) (by rfl))
  | with_reducible refine cmpW_lt ?_
  | with_reducible refine cmpW_le ?_
  | with_reducible refine cmpW_gt ?_
  | with_reducible refine cmpW_ge ?_
  | with_reducible refine cmpW_eq ?_
  | with_reducible refine cmpW_ne ?_
  | with_reducible refine cmpW_eqs ?_
  | with_reducible refine cmpW_is ?_
  | with_reducible refine cmpW_isnot ?_
  | with_reducible refine opW_add ?_
  | with_reducible refine opW_sub ?_
  | with_reducible refine opW_mul ?_
  | with_reducible refine opW_fdiv ?_
  | with_reducible refine opW_mod ?_
  | with_reducible refine opW_pow ?_
  | with_reducible refine opW_shl ?_
  | with_reducible refine opW_shr ?_
  | with_reducible refine opW_and ?_
  | with_reducible refine opW_or ?_
  | with_reducible refine opW_xor ?_
  | with_reducible refine opW_cat ?_
  | with_reducible refine iopW_add ?_
  | with_reducible refine iopW_sub ?_
  | with_reducible refine iopW_and ?_
  | with_reducible refine iopW_or ?_
  | with_reducible refine iopW_xor ?_
  | with_reducible refine iopW_shr ?_
  | with_reducible refine subW_bytes ?_
  | with_reducible refine subW_tup ?_
  | with_reducible refine subW_lst ?_
  | with_reducible refine truW_b ?_
  | with_reducible refine truW_i ?_
  | ((with_reducible show BSpec _ _ _ (.type "range") _ _); refine BSpec.range ?_ ?_)
  | ((with_reducible show BSpec _ _ _ (.builtin "max") _ _); refine BSpec.max trivial ?_)
  | ((with_reducible show BSpec _ _ _ (.builtin "min") _ _); refine BSpec.min trivial ?_)
  | ((with_reducible show BSpec _ _ _ (.builtin "len") _ _); refine BSpec.len ?_)
  | ((with_reducible show Spec _ _ _ (Str.ofString "_is_single_bit") _ _); refine Spec.mono (isb_spec ‹_› _) ?_; intro d hd; subst hd)
  | ((with_reducible show Spec _ _ _ (Str.ofString "_high_bit") _ _); refine Spec.mono (hb_spec ‹_› _) ?_; intro d hd; subst hd)
  | ((with_reducible show Spec _ _ _ (Str.ofString "T") _ _); refine Spec.mono (T_spec ‹_› _ _) ?_; intro d hd; subst hd)
  | ((with_reducible show Spec _ _ _ (Str.ofString "_gen_crc") _ _); refine Spec.mono (gen_spec ‹_› _) ?_; intro d hd; subst hd))


theorem numeral_spec {G : GG} (F : Fns2 G) (N : Nat) (bias : Int) (hN : bl N ≤ 1000) : Spec G 1 True (Str.ofString "_law_numeral") [.int N, .int bias] (fun d => ∃ ds : List Int, d = .lst (ds.map .int) ∧ Num bias 0 N ds ∧ ds.length ≤ bl N + 1) := by
  refine Spec.intro (d := dr2 11) (k := 0) (σ := [(Str.ofString "bias", .fr (.int bias)), (Str.ofString "number", .fr (.int N))]) F.GO F.hn ?_ ?_ (by rfl) (by decide +kernel) (by rfl) (by rfl) (by rfl) (by decide +kernel)
  · intro h₀ L a cd ok O
    refine SS.to [(Str.ofString "bias", .fr (.int bias)), (Str.ofString "number", .fr (.int N)), (Str.ofString "octets", .ow []), (Str.ofString "low", .fr (.int (tau bias 0)))] ?_ ?_
    · refine S1.slots (xs := [Str.ofString "octets", Str.ofString "low"]) O trivial (by show ∀ x ∈ _, (dr2 11).scope.names.lookup x = some .local; decide +kernel) ?_ (by decide) (by rfl) (by rfl)
      refine SD.ow (SD.fl ?_)
      repeat walk_at "pw"
      refine ⟨trivial, SD.nil ⟨rfl, rfl, ?_⟩⟩
      rw [tau_mm bias 0 (36 - bias) (by omega)]
      exact Sub.cons (by rfl) (Sub.cons (by rfl) (Sub.cons (by rfl) (Sub.cons (by rfl) Sub.nil)))
    refine SS.cons ?_
    refine S1.while (fun n σ' => ∃ (ds : List Int) (m : Nat), n = m ∧ (∀ tl, Num bias ds.length m tl → Num bias 0 N (ds ++ tl)) ∧ ds.length + bl m ≤ bl N ∧
      σ' = [(Str.ofString "bias", .fr (.int bias)), (Str.ofString "number", .fr (.int m)), (Str.ofString "octets", .ow (ds.map .int)), (Str.ofString "low", .fr (.int (tau bias ds.length)))]) ?_ ?_
    · exact ⟨_, _, Sub.cons (by rfl) (Sub.cons (by rfl) (Sub.cons (by rfl) (Sub.cons (by rfl) Sub.nil))), [], N, rfl, fun tl h => h, by simp, rfl⟩
    · rintro n σ' ⟨ds, m, rfl, hN1, hlen, rfl⟩
      repeat walk_at "pw"
      have ht1 := tau_ge bias ds.length
      have ht2 := tau_le bias ds.length
      split
      · rename_i hlt
        have hlt := of_decide_eq_true hlt
        obtain ⟨m', hm1, hm2, hm3, hm4, hm5, hm6⟩ := num_step ht1 ht2 hlt
        refine SS.cons ?_
        repeat walk_at "pw"
        refine ⟨by omega, ?_⟩
        repeat walk_at "pw"
        refine ⟨by omega, log2_small (by omega), ?_⟩
        rw [hm1]
        generalize tau bias ds.length + (↑n - tau bias ds.length).fmod (36 - tau bias ds.length) = d at hm2 hm3 hm4 ⊢
        refine SS.to [(Str.ofString "bias", .fr (.int bias)), (Str.ofString "number", .fr (.int m')), (Str.ofString "octets", .ow ((ds ++ [oct d]).map .int))] ?_ ?_
        · repeat walk_at "pw"
          · split
            · rename_i h26
              repeat walk_at "pw"
              refine ⟨rfl, ?_⟩
              rw [List.map_append, show oct d = 65 + d by rw [oct, if_pos (of_decide_eq_true h26)]]
              exact (Sub.cons (by rfl) (Sub.cons (by rfl) (Sub.cons (by rfl) Sub.nil)))
            · rename_i h26
              repeat walk_at "pw"
              refine ⟨rfl, ?_⟩
              rw [List.map_append, show oct d = 22 + d by rw [oct, if_neg (fun e => h26 (decide_eq_true e))]]
              exact (Sub.cons (by rfl) (Sub.cons (by rfl) (Sub.cons (by rfl) Sub.nil)))
          · rw [List.length_map]; omega
        refine SS.cons (S1.assign O (SE.flat ?_) (by rfl))
        repeat walk_at "pw"
        refine ⟨by rw [List.length_map, List.length_append]; show ds.length + 1 ≤ _; omega, ?_⟩
        repeat walk_at "pw"
        refine ⟨.of_left (intBits_le_64 (by decide) (by decide)), ?_⟩
        repeat walk_at "pw"
        refine ⟨trivial, ?_⟩
        repeat walk_at "pw"
        refine ⟨m', hm6, _, ?_, ds ++ [oct d], m', rfl, ?_, ?_, rfl⟩
        · rw [List.length_map, tau_mm bias (ds ++ [oct d]).length _ (by omega)]
          exact (Sub.cons (by rfl) (Sub.cons (by rfl) (Sub.cons (by rfl) (Sub.cons (by rfl) Sub.nil))))
        · intro tl h
          rw [List.append_assoc]
          refine hN1 _ ?_
          rw [hm4]
          rw [List.length_append] at h
          exact .more hm2 hm3 h
        · rw [List.length_append]; show ds.length + 1 + _ ≤ _; omega
      · rename_i hlt
        have hlt : ¬ (tau bias ds.length ≤ (n : Int)) := fun e => hlt (decide_eq_true e)
        repeat walk_at "pw"
        refine ⟨Nat.le_of_ble_eq_true rfl, ?_⟩
        repeat walk_at "pw"
        refine ⟨?_, ds ++ [65 + (n : Int)], ?_, ?_, ?_⟩
        · rw [List.length_map]; show ds.length + 1 ≤ _; exact Nat.le_trans (show _ ≤ 1001 by omega) (by decide)
        · rw [List.map_append]; rfl
        · rw [show 65 + (n : Int) = oct n by rw [oct, if_pos (by omega)]]
          exact hN1 _ (.last (Int.natCast_nonneg _) (by omega))
        · rw [List.length_append]; show ds.length + 1 ≤ _; omega
  · intro pm code doc vs hl
    match vs, hl with
    | [_, _], _ => rfl
end Mine
end
section
set_option maxRecDepth 100000
open PySem PySem.W PyProof.Rows PySem.Calls
namespace Mine
local macro_rules | `(tactic| walk_at "pw") => `(tactic| first
  | with_reducible refine SS.nil ?_
  | with_reducible refine SS.cons ?_
  | with_reducible refine S1.ret ?_
  | with_reducible refine S1.ife ?_
  | ((with_reducible show S1 _ _ (.Assign [.Name _ _] (.List _ _) _) _); refine S1.assignL ‹_› ?_ (by rfl))
  | ((with_reducible show S1 _ _ (.Assign [.Name _ _] _ _) _); refine S1.assign ‹_› ?_ (by rfl))
  | ((with_reducible show S1 _ _ (.AugAssign (.Name _ _) _ _ _) _); refine S1.aug ‹_› (by rfl) ?_ (by rfl))
  | ((with_reducible show S1 _ _ (.AugAssign (.Name _ _) .Add _ _) _); refine S1.augL ‹_› (by rfl) ?_ (by rfl))
  | ((with_reducible show S1 _ _ (.Expr (.Call (.Attribute (.Name _ _) _ _) [_] [] _) _) _); refine S1.append ‹_› (by rfl) ?_ ?_ (by rfl) (by rfl); rotate_left)
  | with_reducible refine SE.cint ?_
  | with_reducible refine SE.cnone ?_
  | with_reducible refine SE.cstr ?_
  | ((with_reducible show SE _ _ _ (.Name _ _) _); refine SE.name ‹_› (by rfl) ?_ (by rfl))
  | ((with_reducible show SE _ _ _ (.Name _ _) _); refine SE.nameO ‹_› (by rfl) ?_ (by rfl))
  | with_reducible refine SE.bin ‹_› ?_
  | with_reducible refine SE.cbool ?_
  | ((with_reducible refine SE.cmp ?_ ?_); rotate_left; with_unfolding_all rfl)
  | with_reducible refine SE.neg ?_
  | with_reducible refine SE.ifexp ?_
  | ((with_reducible refine SE.sub ?_ ?_); rotate_left; (intro _ _; rfl))
  | ((with_reducible refine SE.bitlen ?_ ?_ ?_); rotate_left; (intro _; rfl); rfl)
  | ((with_reducible refine ST.cmp ?_ ?_); rotate_left; with_unfolding_all rfl)
  | ((with_reducible refine ST.chain ?_ ?_); rotate_left; with_unfolding_all rfl)
  | with_reducible refine ST.not ?_
  | ((with_reducible show ST _ _ (.BinOp _ _ _ _) _); refine ST.plain ?_)
  | ((with_reducible show ST _ _ (.Call _ _ _ _) _); refine ST.plain ?_)
  | ((with_reducible show ST _ _ (.Constant _ _ _) _); refine ST.plain ?_)
  | with_reducible refine SE.tuple ?_
  | with_reducible refine SE.list ‹_› ?_
  | ((with_reducible refine SEs.cons ?_ ?_); rotate_left; (intro _; rfl))
  | with_reducible refine SEs.nil ?_
  | with_reducible refine S1.try ?_
  | ((with_reducible show SE _ _ _ (.Call (.Name (Str.ofString "len") _) _ [] _) _); refine SE.bcall (b := .builtin "len") ‹_› ?_ (.inl ⟨_, rfl⟩) ‹Fns2 _›.len.1 ‹Fns2 _›.len.2 (by rfl))
  | ((with_reducible show SE _ _ _ (.Call (.Name (Str.ofString "max") _) _ [] _) _); refine SE.bcall (b := .builtin "max") ‹_› ?_ (.inl ⟨_, rfl⟩) ‹Fns2 _›.mx.1 ‹Fns2 _›.mx.2 (by rfl))
  | ((with_reducible show SE _ _ _ (.Call (.Name (Str.ofString "min") _) _ [] _) _); refine SE.bcall (b := .builtin "min") ‹_› ?_ (.inl ⟨_, rfl⟩) ‹Fns2 _›.mn.1 ‹Fns2 _›.mn.2 (by rfl))
  | ((with_reducible show SE _ _ _ (.Call (.Name (Str.ofString "sum") _) _ [] _) _); refine SE.bcall (b := .builtin "sum") ‹_› ?_ (.inl ⟨_, rfl⟩) ‹Fns2 _›.sm.1 ‹Fns2 _›.sm.2 (by rfl))
  | ((with_reducible show SE _ _ _ (.Call (.Name (Str.ofString "range") _) _ [] _) _); refine SE.bcall (b := .type "range") ‹_› ?_ (.inr ⟨_, rfl⟩) ‹Fns2 _›.rg.1 ‹Fns2 _›.rg.2 (by rfl))
  | ((with_reducible show SE _ _ _ (.Call (.Name (Str.ofString "bytes") _) _ [] _) _); refine SE.bcall (b := .type "bytes") ‹_› ?_ (.inr ⟨_, rfl⟩) ‹Fns2 _›.byt.1 ‹Fns2 _›.byt.2 (by rfl))
  | ((with_reducible show SE _ _ _ (.Call (.Name (Str.ofString "_is_single_bit") _) _ [] _) _); refine SE.call (k := 1) (nh := True) ‹_› ?_ ‹Fns2 _›.h1.fn (Nat.le_of_ble_eq_true rfl) (fun _ => trivial) (by rfl))
  | ((with_reducible show SE _ _ _ (.Call (.Name (Str.ofString "_high_bit") _) _ [] _) _); refine SE.call (k := 1) (nh := True) ‹_› ?_ ‹Fns2 _›.h2.fn (Nat.le_of_ble_eq_true rfl) (fun _ => trivial) (by rfl))
  | ((with_reducible show SE _ _ _ (.Call (.Name (Str.ofString "T") _) _ [] _) _); refine SE.call (k := 1) (nh := True) ‹_› ?_ ‹Fns2 _›.hT.fn (Nat.le_of_ble_eq_true rfl) (fun _ => trivial) (by rfl))
  | ((with_reducible show SE _ _ _ (.Call (.Name (Str.ofString "_gen_crc") _) _ [] _) _); refine SE.call (k := 1) (nh := True) ‹_› ?_ ‹Fns2 _›.hG.fn (Nat.le_of_ble_eq_true rfl) (fun _ => trivial) (by rfl))
  | with_reducible refine cmpW_lt ?_
  | with_reducible refine cmpW_le ?_
  | with_reducible refine cmpW_gt ?_
  | with_reducible refine cmpW_ge ?_
  | with_reducible refine cmpW_eq ?_
  | with_reducible refine cmpW_ne ?_
  | with_reducible refine cmpW_eqs ?_
  | with_reducible refine cmpW_is ?_
  | with_reducible refine cmpW_isnot ?_
  | with_reducible refine opW_add ?_
  | with_reducible refine opW_sub ?_
  | with_reducible refine opW_mul ?_
  | with_reducible refine opW_fdiv ?_
  | with_reducible refine opW_mod ?_
  | with_reducible refine opW_pow ?_
  | with_reducible refine opW_shl ?_
  | with_reducible refine opW_shr ?_
  | with_reducible refine opW_and ?_
  | with_reducible refine opW_or ?_
  | with_reducible refine opW_xor ?_
  | with_reducible refine opW_cat ?_
  | with_reducible refine iopW_add ?_
  | with_reducible refine iopW_sub ?_
  | with_reducible refine iopW_and ?_
  | with_reducible refine iopW_or ?_
  | with_reducible refine iopW_xor ?_
  | with_reducible refine iopW_shr ?_
  | with_reducible refine subW_bytes ?_
  | with_reducible refine subW_tup ?_
  | with_reducible refine subW_lst ?_
  | with_reducible refine truW_b ?_
  | with_reducible refine truW_i ?_
  | ((with_reducible show BSpec _ _ _ (.type "range") _ _); refine BSpec.range ?_ ?_)
  | ((with_reducible show BSpec _ _ _ (.builtin "max") _ _); refine BSpec.max trivial ?_)
  | ((with_reducible show BSpec _ _ _ (.builtin "min") _ _); refine BSpec.min trivial ?_)
  | ((with_reducible show BSpec _ _ _ (.builtin "len") _ _); refine BSpec.len ?_)
  | ((with_reducible show Spec _ _ _ (Str.ofString "_is_single_bit") _ _); refine Spec.mono (isb_spec ‹_› _) ?_; intro d hd; subst hd)
  | ((with_reducible show Spec _ _ _ (Str.ofString "_high_bit") _ _); refine Spec.mono (hb_spec ‹_› _) ?_; intro d hd; subst hd)
  | ((with_reducible show Spec _ _ _ (Str.ofString "T") _ _); refine Spec.mono (T_spec ‹_› _ _) ?_; intro d hd; subst hd)
  | ((with_reducible show Spec _ _ _ (Str.ofString "_gen_crc") _ _); refine Spec.mono (gen_spec ‹_› _) ?_; intro d hd; subst hd))

theorem octs_drop {done segs : List (Nat × List Int)} {q : Nat} {ds : List Int} : (octs (done ++ (q, ds) :: segs)).drop (octs done).length = ds ++ octs segs := by
  unfold octs
  rw [List.map_append, List.flatten_append, List.drop_left]
  rfl
theorem octs_append {a b : List (Nat × List Int)} : octs (a ++ b) = octs a ++ octs b := by
  unfold octs; rw [List.map_append, List.flatten_append]
theorem octs_cons {q : Nat} {ds : List Int} {a : List (Nat × List Int)} : (octs ((q, ds) :: a)).length = ds.length + (octs a).length := by
  unfold octs; rw [List.map_cons, List.flatten_cons, List.length_append]
theorem ends_append {p : Nat} {a b : List (Nat × List Int)} : ends p (a ++ b) = ends p a ++ ends (p + (octs a).length) b := by
  induction a generalizing p with
  | nil => rfl
  | cons s a ih =>
    obtain ⟨q, ds⟩ := s
    show D.tup _ :: ends _ (a ++ b) = D.tup _ :: (ends _ _ ++ _)
    rw [ih]
    have : p + ds.length + (octs a).length = p + (octs ((q, ds) :: a)).length := by rw [octs_cons]; omega
    rw [this]
theorem Segs.range {bias : Int} {segs : List (Nat × List Int)} (h : Segs bias segs) : ∀ c ∈ octs segs, 0 ≤ c ∧ c < 256 := by
  intro c hc
  unfold octs at hc
  obtain ⟨l, hl, hcl⟩ := List.mem_flatten.mp hc
  obtain ⟨s, hs, rfl⟩ := List.mem_map.mp hl
  exact (h s hs).range c hcl

theorem read_spec {G : GG} (F : Fns2 G) {bias : Int} {segs : List (Nat × List Int)} (hs : Segs bias segs) (hz : (octs segs).length ≤ 100000) (hz2 : segs.length ≤ 1000) :
    Spec G 3 True (Str.ofString "_law_read") [.bytes (byteArr (octs segs)), .int bias] (fun d => d = .lst (ends 0 segs)) := by
  refine Spec.intro (d := dr2 12) (k := 2) (σ := [(Str.ofString "bias", .fr (.int bias)), (Str.ofString "octets", .fr (.bytes (byteArr (octs segs))))]) F.GO F.hr ?_ ?_ (by rfl) (by decide +kernel) (by rfl) (by rfl) (by rfl) (by decide +kernel)
  · intro h₀ L a cd ok O
    refine SS.to [(Str.ofString "bias", .fr (.int bias)), (Str.ofString "octets", .fr (.bytes (byteArr (octs segs)))), (Str.ofString "told", .ow []), (Str.ofString "place", .fr (.int ((0 : Nat) : Int)))] ?_ ?_
    · refine S1.slots (xs := [Str.ofString "told", Str.ofString "place"]) O trivial (by show ∀ x ∈ _, (dr2 12).scope.names.lookup x = some .local; decide +kernel) ?_ (by decide) (by rfl) (by rfl)
      refine SD.ow (SD.fl ?_)
      repeat walk_at "pw"
      refine ⟨trivial, SD.nil ⟨rfl, rfl, ?_⟩⟩
      exact (Sub.cons (by rfl) (Sub.cons (by rfl) (Sub.cons (by rfl) (Sub.cons (by rfl) Sub.nil))))
    refine SS.cons ?_
    refine S1.while (fun n σ' => ∃ done left, segs = done ++ left ∧ n = left.length ∧
      σ' = [(Str.ofString "bias", .fr (.int bias)), (Str.ofString "octets", .fr (.bytes (byteArr (octs segs)))), (Str.ofString "told", .ow (ends 0 done)), (Str.ofString "place", .fr (.int ((octs done).length : Nat)))]) ?_ ?_
    · exact ⟨_, _, (Sub.cons (by rfl) (Sub.cons (by rfl) (Sub.cons (by rfl) (Sub.cons (by rfl) Sub.nil)))), [], segs, rfl, rfl, rfl⟩
    · rintro n σ' ⟨done, left, rfl, rfl, rfl⟩
      repeat walk_at "pw"
      refine ⟨by rw [byteArr_size]; exact Nat.le_trans hz (by decide), ?_⟩
      repeat walk_at "pw"
      rw [byteArr_size]
      cases left with
      | nil =>
        rw [List.append_nil, if_neg (by rw [decide_eq_true_eq]; omega)]
        repeat walk_at "pw"
        exact (rfl : (_ : D) = _)
      | cons s left =>
        obtain ⟨q, ds⟩ := s
        have hN : Num bias 0 q ds := hs (q, ds) (by simp)
        have hl : (octs done).length < (octs (done ++ (q, ds) :: left)).length := by
          rw [octs_append, List.length_append]
          have := hN.ne
          have h1 : 0 < ds.length := List.length_pos_iff.mpr this
          have h2 := @octs_cons q ds left
          omega
        have he : done.length ≤ 1000 := by rw [List.length_append] at hz2; omega
        have hel : ∀ (p : Nat) (l : List (Nat × List Int)), (ends p l).length = l.length := by
          intro p l
          induction l generalizing p with
          | nil => rfl
          | cons s l ih => obtain ⟨q, ds⟩ := s; show (_ :: ends _ _).length = _; rw [List.length_cons, ih]; rfl
        rw [if_pos (decide_eq_true (by omega))]
        refine SS.cons ?_
        repeat walk_at "pw"
        · refine SE.call (k := 2) (nh := True) O ?_ F.hD.fn (Nat.le_of_ble_eq_true rfl) (fun _ => trivial) (by rfl)
          repeat walk_at "pw"
          refine Spec.mono (decode_spec F (rest := octs left) hs.range (Nat.le_trans hz (by decide)) hN octs_drop) ?_
          rintro _ rfl
          refine SS.cons (S1.assign O (SE.flat ?_) (by rfl))
          repeat walk_at "pw"
          refine .inr ⟨rfl, _, List.getLast?_concat, ?_⟩
          repeat walk_at "pw"
          refine ⟨by decide, by decide, _, rfl, ?_⟩
          refine ⟨trivial, ?_⟩
          repeat walk_at "pw"
          refine ⟨left.length, Nat.lt_succ_self _, _, ?_, done ++ [(q, ds)], left, by simp, rfl, rfl⟩
          have e1 : (octs (done ++ [(q, ds)])).length = (octs done).length + ds.length := by
            rw [octs_append, List.length_append]; congr 1; unfold octs; simp
          have e2 : ends 0 (done ++ [(q, ds)]) = ends 0 done ++ [.tup [.int (((octs done).length + ds.length : Nat) : Int), .int q]] := by
            rw [ends_append, Nat.zero_add]; rfl
          rw [e1, e2]
          exact (Sub.cons (by rfl) (Sub.cons (by rfl) (Sub.cons (by rfl) (Sub.cons (by rfl) Sub.nil))))
        · rw [hel]; omega
  · intro pm code doc vs hl
    match vs, hl with
    | [_, _], _ => rfl
end Mine
end
section
set_option maxRecDepth 100000
open PySem PySem.W PyProof.Rows PySem.Calls
namespace Mine
local macro_rules | `(tactic| walk_at "pw") => `(tactic| first
  | with_reducible refine SS.nil ?_
  | with_reducible refine SS.cons ?_
  | with_reducible refine S1.ret ?_
  | with_reducible refine S1.ife ?_
  | ((with_reducible show S1 _ _ (.Assign [.Name _ _] (.List _ _) _) _); refine S1.assignL ‹_› ?_ (by rfl))
  | ((with_reducible show S1 _ _ (.Assign [.Name _ _] _ _) _); refine S1.assign ‹_› ?_ (by rfl))
  | ((with_reducible show S1 _ _ (.AugAssign (.Name _ _) _ _ _) _); refine S1.aug ‹_› (by rfl) ?_ (by rfl))
  | ((with_reducible show S1 _ _ (.AugAssign (.Name _ _) .Add _ _) _); refine S1.augL ‹_› (by rfl) ?_ (by rfl))
  | ((with_reducible show S1 _ _ (.Expr (.Call (.Attribute (.Name _ _) _ _) [_] [] _) _) _); refine S1.append ‹_› (by rfl) ?_ ?_ (by rfl) (by rfl); rotate_left)
  | with_reducible refine SE.cint ?_
  | with_reducible refine SE.cnone ?_
  | with_reducible refine SE.cstr ?_
  | ((with_reducible show SE _ _ _ (.Name _ _) _); refine SE.name ‹_› (by rfl) ?_ (by rfl))
  | ((with_reducible show SE _ _ _ (.Name _ _) _); refine SE.nameO ‹_› (by rfl) ?_ (by rfl))
  | with_reducible refine SE.bin ‹_› ?_
  | with_reducible refine SE.cbool ?_
  | ((with_reducible refine SE.cmp ?_ ?_); rotate_left; with_unfolding_all rfl)
  | with_reducible refine SE.neg ?_
  | with_reducible refine SE.ifexp ?_
  | ((with_reducible refine SE.sub ?_ ?_); rotate_left; (intro _ _; rfl))
  | ((with_reducible refine SE.bitlen ?_ ?_ ?_); rotate_left; (intro _; rfl); rfl)
  | ((with_reducible refine ST.cmp ?_ ?_); rotate_left; with_unfolding_all rfl)
  | ((with_reducible refine ST.chain ?_ ?_); rotate_left; with_unfolding_all rfl)
  | with_reducible refine ST.not ?_
  | ((with_reducible show ST _ _ (.BinOp _ _ _ _) _); refine ST.plain ?_)
  | ((with_reducible show ST _ _ (.Call _ _ _ _) _); refine ST.plain ?_)
  | ((with_reducible show ST _ _ (.Constant _ _ _) _); refine ST.plain ?_)
  | with_reducible refine SE.tuple ?_
  | with_reducible refine SE.list ‹_› ?_
  | ((with_reducible refine SEs.cons ?_ ?_); rotate_left; (intro _; rfl))
  | with_reducible refine SEs.nil ?_
  | with_reducible refine S1.try ?_
  | ((with_reducible show SE _ _ _ (.Call (.Name (Str.ofString "len") _) _ [] _) _); refine SE.bcall (b := .builtin "len") ‹_› ?_ (.inl ⟨_, rfl⟩) ‹Fns2 _›.len.1 ‹Fns2 _›.len.2 (by rfl))
  | ((with_reducible show SE _ _ _ (.Call (.Name (Str.ofString "max") _) _ [] _) _); refine SE.bcall (b := .builtin "max") ‹_› ?_ (.inl ⟨_, rfl⟩) ‹Fns2 _›.mx.1 ‹Fns2 _›.mx.2 (by rfl))
  | ((with_reducible show SE _ _ _ (.Call (.Name (Str.ofString "min") _) _ [] _) _); refine SE.bcall (b := .builtin "min") ‹_› ?_ (.inl ⟨_, rfl⟩) ‹Fns2 _›.mn.1 ‹Fns2 _›.mn.2 (by rfl))
  | ((with_reducible show SE _ _ _ (.Call (.Name (Str.ofString "sum") _) _ [] _) _); refine SE.bcall (b := .builtin "sum") ‹_› ?_ (.inl ⟨_, rfl⟩) ‹Fns2 _›.sm.1 ‹Fns2 _›.sm.2 (by rfl))
  | ((with_reducible show SE _ _ _ (.Call (.Name (Str.ofString "range") _) _ [] _) _); refine SE.bcall (b := .type "range") ‹_› ?_ (.inr ⟨_, rfl⟩) ‹Fns2 _›.rg.1 ‹Fns2 _›.rg.2 (by rfl))
  | ((with_reducible show SE _ _ _ (.Call (.Name (Str.ofString "bytes") _) _ [] _) _); refine SE.bcall (b := .type "bytes") ‹_› ?_ (.inr ⟨_, rfl⟩) ‹Fns2 _›.byt.1 ‹Fns2 _›.byt.2 (by rfl))
  | ((with_reducible show SE _ _ _ (.Call (.Name (Str.ofString "_is_single_bit") _) _ [] _) _); refine SE.call (k := 1) (nh := True) ‹_› ?_ ‹Fns2 _›.h1.fn (Nat.le_of_ble_eq_true rfl) (fun _ => trivial) (by rfl))
  | ((with_reducible show SE _ _ _ (.Call (.Name (Str.ofString "_high_bit") _) _ [] _) _); refine SE.call (k := 1) (nh := True) ‹_› ?_ ‹Fns2 _›.h2.fn (Nat.le_of_ble_eq_true rfl) (fun _ => trivial) (by rfl))
  | ((with_reducible show SE _ _ _ (.Call (.Name (Str.ofString "T") _) _ [] _) _); refine SE.call (k := 1) (nh := True) ‹_› ?_ ‹Fns2 _›.hT.fn (Nat.le_of_ble_eq_true rfl) (fun _ => trivial) (by rfl))
  | ((with_reducible show SE _ _ _ (.Call (.Name (Str.ofString "_gen_crc") _) _ [] _) _); refine SE.call (k := 1) (nh := True) ‹_› ?_ ‹Fns2 _›.hG.fn (Nat.le_of_ble_eq_true rfl) (fun _ => trivial) (by rfl))
  | with_reducible refine cmpW_lt ?_
  | with_reducible refine cmpW_le ?_
  | with_reducible refine cmpW_gt ?_
  | with_reducible refine cmpW_ge ?_
  | with_reducible refine cmpW_eq ?_
  | with_reducible refine cmpW_ne ?_
  | with_reducible refine cmpW_eqs ?_
  | with_reducible refine cmpW_is ?_
  | with_reducible refine cmpW_isnot ?_
  | with_reducible refine opW_add ?_
  | with_reducible refine opW_sub ?_
  | with_reducible refine opW_mul ?_
  | with_reducible refine opW_fdiv ?_
  | with_reducible refine opW_mod ?_
  | with_reducible refine opW_pow ?_
  | with_reducible refine opW_shl ?_
  | with_reducible refine opW_shr ?_
  | with_reducible refine opW_and ?_
  | with_reducible refine opW_or ?_
  | with_reducible refine opW_xor ?_
  | with_reducible refine opW_cat ?_
  | with_reducible refine iopW_add ?_
  | with_reducible refine iopW_sub ?_
  | with_reducible refine iopW_and ?_
  | with_reducible refine iopW_or ?_
  | with_reducible refine iopW_xor ?_
  | with_reducible refine iopW_shr ?_
  | with_reducible refine subW_bytes ?_
  | with_reducible refine subW_tup ?_
  | with_reducible refine subW_lst ?_
  | with_reducible refine truW_b ?_
  | with_reducible refine truW_i ?_
  | ((with_reducible show BSpec _ _ _ (.type "range") _ _); refine BSpec.range ?_ ?_)
  | ((with_reducible show BSpec _ _ _ (.builtin "max") _ _); refine BSpec.max trivial ?_)
  | ((with_reducible show BSpec _ _ _ (.builtin "min") _ _); refine BSpec.min trivial ?_)
  | ((with_reducible show BSpec _ _ _ (.builtin "len") _ _); refine BSpec.len ?_)
  | ((with_reducible show Spec _ _ _ (Str.ofString "_is_single_bit") _ _); refine Spec.mono (isb_spec ‹_› _) ?_; intro d hd; subst hd)
  | ((with_reducible show Spec _ _ _ (Str.ofString "_high_bit") _ _); refine Spec.mono (hb_spec ‹_› _) ?_; intro d hd; subst hd)
  | ((with_reducible show Spec _ _ _ (Str.ofString "T") _ _); refine Spec.mono (T_spec ‹_› _ _) ?_; intro d hd; subst hd)
  | ((with_reducible show Spec _ _ _ (Str.ofString "_gen_crc") _ _); refine Spec.mono (gen_spec ‹_› _) ?_; intro d hd; subst hd))



theorem one_shl (k : Nat) : (1 : Int) * 2 ^ ((k : Int) - 1).toNat = ((2 ^ (k - 1) : Nat) : Int) := by
  have := shl_nat 1 k
  rwa [Nat.one_mul] at this
theorem one_shl' {k : Int} {j : Nat} (h : k = j) : (1 : Int) * 2 ^ k.toNat = ((2 ^ j : Nat) : Int) := by
  have := shl_nat' 1 h
  rwa [Nat.one_mul] at this
theorem times_spec {G : GG} (F : Fns2 G) {a b : Nat} (hb0 : b ≠ 0) (ha : bl a ≤ 100000) (hb : bl b ≤ 100000) : Spec G 2 True (Str.ofString "_law_times") [.int a, .int b] (fun d => d = .int (cm a b : Nat)) := by
  refine Spec.intro (d := dr2 13) (k := 1) (σ := [(Str.ofString "other", .fr (.int b)), (Str.ofString "number", .fr (.int a))]) F.GO F.ht ?_ ?_ (by rfl) (by decide +kernel) (by rfl) (by rfl) (by rfl) (by decide +kernel)
  · intro h₀ L ad cd ok O
    refine SS.to [(Str.ofString "other", .fr (.int b)), (Str.ofString "number", .fr (.int a)), (Str.ofString "total", .fr (.int ((0 : Nat) : Int)))] ?_ ?_
    · repeat walk_at "pw"
      exact ⟨rfl, (Sub.cons (by rfl) (Sub.cons (by rfl) (Sub.cons (by rfl) Sub.nil)))⟩
    refine SS.cons ?_
    refine S1.while (fun n σ' => ∃ t o : Nat, n = bl o ∧ t ^^^ cm a o = cm a b ∧ o ≠ 0 ∧ bl o ≤ bl b ∧ σ' = [(Str.ofString "other", .fr (.int o)), (Str.ofString "number", .fr (.int a)), (Str.ofString "total", .fr (.int t))]) ?_ ?_
    · exact ⟨_, _, (Sub.cons (by rfl) (Sub.cons (by rfl) (Sub.cons (by rfl) Sub.nil))), 0, b, rfl, Nat.zero_xor _, hb0, Nat.le_refl _, rfl⟩
    · rintro n σ' ⟨t, o, rfl, ht, ho, hbo, rfl⟩
      have hpo := bl_pos ho
      repeat walk_at "pw"
      rw [isbI_nat]
      cases hs : sb o with
      | false =>
        rw [if_pos (show (!false) = true from rfl)]
        refine SS.cons ?_
        repeat walk_at "pw"
        rw [intBits_nat]
        refine ⟨by omega, by rw [intBits_nat]; omega, ?_⟩
        rw [shl_nat]
        repeat walk_at "pw"
        refine ⟨by omega, by rw [show Builtin.Int.intBits 1 = 1 from rfl]; omega, ?_⟩
        rw [one_shl, bitXor_nat]
        repeat walk_at "pw"
        rw [bitXor_nat]
        have hlt : bl (o ^^^ 2 ^ (bl o - 1)) < bl o := bl_xor_eq (by rw [bl_eq (k := bl o - 1) (Nat.le_refl _) (by rw [Nat.pow_succ]; have := Nat.two_pow_pos (bl o - 1); omega)]; omega) ho
        refine ⟨_, hlt, _, ?_, t ^^^ a * 2 ^ (bl o - 1), o ^^^ 2 ^ (bl o - 1), rfl, ?_, sb_not hs ho, by omega, rfl⟩
        · exact (Sub.cons (by rfl) (Sub.cons (by rfl) (Sub.cons (by rfl) Sub.nil)))
        · rw [cm_xor_right, cm_pow, Nat.xor_comm (cm a o), ← Nat.xor_assoc, xor_cancel, ht]
      | true =>
        rw [if_neg (show ¬ (!true) = true from Bool.false_ne_true)]
        repeat walk_at "pw"
        rw [intBits_nat]
        refine ⟨by omega, by rw [intBits_nat]; omega, ?_⟩
        rw [shl_nat]
        repeat walk_at "pw"
        rw [bitXor_nat, ← ht]
        have e := (sb_pow hs).2
        refine congrArg D.int (congrArg (fun x : Nat => (x : Int)) ?_)
        conv => rhs; rw [e]
        rw [cm_pow]
  · intro pm code doc vs hl
    match vs, hl with
    | [_, _], _ => rfl
end Mine
end
section
set_option maxRecDepth 100000
open PySem PySem.W PyProof.Rows PySem.Calls
namespace Mine
local macro_rules | `(tactic| walk_at "pw") => `(tactic| first
  | with_reducible refine SS.nil ?_
  | with_reducible refine SS.cons ?_
  | with_reducible refine S1.ret ?_
  | with_reducible refine S1.ife ?_
  | ((with_reducible show S1 _ _ (.Assign [.Name _ _] (.List _ _) _) _); refine S1.assignL ‹_› ?_ (by rfl))
  | ((with_reducible show S1 _ _ (.Assign [.Name _ _] _ _) _); refine S1.assign ‹_› ?_ (by rfl))
  | ((with_reducible show S1 _ _ (.AugAssign (.Name _ _) _ _ _) _); refine S1.aug ‹_› (by rfl) ?_ (by rfl))
  | ((with_reducible show S1 _ _ (.AugAssign (.Name _ _) .Add _ _) _); refine S1.augL ‹_› (by rfl) ?_ (by rfl))
  | ((with_reducible show S1 _ _ (.Expr (.Call (.Attribute (.Name _ _) _ _) [_] [] _) _) _); refine S1.append ‹_› (by rfl) ?_ ?_ (by rfl) (by rfl); rotate_left)
  | with_reducible refine SE.cint ?_
  | with_reducible refine SE.cnone ?_
  | with_reducible refine SE.cstr ?_
  | ((with_reducible show SE _ _ _ (.Name _ _) _); refine SE.name ‹_› (by rfl) ?_ (by rfl))
  | ((with_reducible show SE _ _ _ (.Name _ _) _); refine SE.nameO ‹_› (by rfl) ?_ (by rfl))
  | with_reducible refine SE.bin ‹_› ?_
  | with_reducible refine SE.cbool ?_
  | ((with_reducible refine SE.cmp ?_ ?_); rotate_left; with_unfolding_all rfl)
  | with_reducible refine SE.neg ?_
  | with_reducible refine SE.ifexp ?_
  | ((with_reducible refine SE.sub ?_ ?_); rotate_left; (intro _ _; rfl))
  | ((with_reducible refine SE.bitlen ?_ ?_ ?_); rotate_left; (intro _; rfl); rfl)
  | ((with_reducible refine ST.cmp ?_ ?_); rotate_left; with_unfolding_all rfl)
  | ((with_reducible refine ST.chain ?_ ?_); rotate_left; with_unfolding_all rfl)
  | with_reducible refine ST.not ?_
  | ((with_reducible show ST _ _ (.BinOp _ _ _ _) _); refine ST.plain ?_)
  | ((with_reducible show ST _ _ (.Call _ _ _ _) _); refine ST.plain ?_)
  | ((with_reducible show ST _ _ (.Constant _ _ _) _); refine ST.plain ?_)
  | with_reducible refine SE.tuple ?_
  | with_reducible refine SE.list ‹_› ?_
  | ((with_reducible refine SEs.cons ?_ ?_); rotate_left; (intro _; rfl))
  | with_reducible refine SEs.nil ?_
  | with_reducible refine S1.try ?_
  | ((with_reducible show SE _ _ _ (.Call (.Name (Str.ofString "len") _) _ [] _) _); refine SE.bcall (b := .builtin "len") ‹_› ?_ (.inl ⟨_, rfl⟩) ‹Fns2 _›.len.1 ‹Fns2 _›.len.2 (by rfl))
  | ((with_reducible show SE _ _ _ (.Call (.Name (Str.ofString "max") _) _ [] _) _); refine SE.bcall (b := .builtin "max") ‹_› ?_ (.inl ⟨_, rfl⟩) ‹Fns2 _›.mx.1 ‹Fns2 _›.mx.2 (by rfl))
  | ((with_reducible show SE _ _ _ (.Call (.Name (Str.ofString "min") _) _ [] _) _); refine SE.bcall (b := .builtin "min") ‹_› ?_ (.inl ⟨_, rfl⟩) ‹Fns2 _›.mn.1 ‹Fns2 _›.mn.2 (by rfl))
  | ((with_reducible show SE _ _ _ (.Call (.Name (Str.ofString "sum") _) _ [] _) _); refine SE.bcall (b := .builtin "sum") ‹_› ?_ (.inl ⟨_, rfl⟩) ‹Fns2 _›.sm.1 ‹Fns2 _›.sm.2 (by rfl))
  | ((with_reducible show SE _ _ _ (.Call (.Name (Str.ofString "range") _) _ [] _) _); refine SE.bcall (b := .type "range") ‹_› ?_ (.inr ⟨_, rfl⟩) ‹Fns2 _›.rg.1 ‹Fns2 _›.rg.2 (by rfl))
  | ((with_reducible show SE _ _ _ (.Call (.Name (Str.ofString "bytes") _) _ [] _) _); refine SE.bcall (b := .type "bytes") ‹_› ?_ (.inr ⟨_, rfl⟩) ‹Fns2 _›.byt.1 ‹Fns2 _›.byt.2 (by rfl))
  | ((with_reducible show SE _ _ _ (.Call (.Name (Str.ofString "_is_single_bit") _) _ [] _) _); refine SE.call (k := 1) (nh := True) ‹_› ?_ ‹Fns2 _›.h1.fn (Nat.le_of_ble_eq_true rfl) (fun _ => trivial) (by rfl))
  | ((with_reducible show SE _ _ _ (.Call (.Name (Str.ofString "_high_bit") _) _ [] _) _); refine SE.call (k := 1) (nh := True) ‹_› ?_ ‹Fns2 _›.h2.fn (Nat.le_of_ble_eq_true rfl) (fun _ => trivial) (by rfl))
  | ((with_reducible show SE _ _ _ (.Call (.Name (Str.ofString "T") _) _ [] _) _); refine SE.call (k := 1) (nh := True) ‹_› ?_ ‹Fns2 _›.hT.fn (Nat.le_of_ble_eq_true rfl) (fun _ => trivial) (by rfl))
  | ((with_reducible show SE _ _ _ (.Call (.Name (Str.ofString "_gen_crc") _) _ [] _) _); refine SE.call (k := 1) (nh := True) ‹_› ?_ ‹Fns2 _›.hG.fn (Nat.le_of_ble_eq_true rfl) (fun _ => trivial) (by rfl))
  | with_reducible refine cmpW_lt ?_
  | with_reducible refine cmpW_le ?_
  | with_reducible refine cmpW_gt ?_
  | with_reducible refine cmpW_ge ?_
  | with_reducible refine cmpW_eq ?_
  | with_reducible refine cmpW_ne ?_
  | with_reducible refine cmpW_eqs ?_
  | with_reducible refine cmpW_is ?_
  | with_reducible refine cmpW_isnot ?_
  | with_reducible refine opW_add ?_
  | with_reducible refine opW_sub ?_
  | with_reducible refine opW_mul ?_
  | with_reducible refine opW_fdiv ?_
  | with_reducible refine opW_mod ?_
  | with_reducible refine opW_pow ?_
  | with_reducible refine opW_shl ?_
  | with_reducible refine opW_shr ?_
  | with_reducible refine opW_and ?_
  | with_reducible refine opW_or ?_
  | with_reducible refine opW_xor ?_
  | with_reducible refine opW_cat ?_
  | with_reducible refine iopW_add ?_
  | with_reducible refine iopW_sub ?_
  | with_reducible refine iopW_and ?_
  | with_reducible refine iopW_or ?_
  | with_reducible refine iopW_xor ?_
  | with_reducible refine iopW_shr ?_
  | with_reducible refine subW_bytes ?_
  | with_reducible refine subW_tup ?_
  | with_reducible refine subW_lst ?_
  | with_reducible refine truW_b ?_
  | with_reducible refine truW_i ?_
  | ((with_reducible show BSpec _ _ _ (.type "range") _ _); refine BSpec.range ?_ ?_)
  | ((with_reducible show BSpec _ _ _ (.builtin "max") _ _); refine BSpec.max trivial ?_)
  | ((with_reducible show BSpec _ _ _ (.builtin "min") _ _); refine BSpec.min trivial ?_)
  | ((with_reducible show BSpec _ _ _ (.builtin "len") _ _); refine BSpec.len ?_)
  | ((with_reducible show Spec _ _ _ (Str.ofString "_is_single_bit") _ _); refine Spec.mono (isb_spec ‹_› _) ?_; intro d hd; subst hd)
  | ((with_reducible show Spec _ _ _ (Str.ofString "_high_bit") _ _); refine Spec.mono (hb_spec ‹_› _) ?_; intro d hd; subst hd)
  | ((with_reducible show Spec _ _ _ (Str.ofString "T") _ _); refine Spec.mono (T_spec ‹_› _ _) ?_; intro d hd; subst hd)
  | ((with_reducible show Spec _ _ _ (Str.ofString "_gen_crc") _ _); refine Spec.mono (gen_spec ‹_› _) ?_; intro d hd; subst hd))



theorem bl_shl {b k : Nat} (h : b ≠ 0) : bl (b * 2 ^ k) = bl b + k := by
  have := bl_cm (a := b) (b := 2 ^ k) h (Nat.ne_of_gt (Nat.two_pow_pos k))
  rw [cm_pow, bl_eq (k := k) (Nat.le_refl _) (by rw [Nat.pow_succ]; have := Nat.two_pow_pos k; omega)] at this
  omega
theorem rest_spec {G : GG} (F : Fns2 G) {N : Nat} (hN : bl N ≤ 100000) : Spec G 2 True (Str.ofString "_law_rest") [.int N] (fun d => ∃ r : Nat, d = .int r ∧ r < 2 ^ 32 ∧ Cg N r) := by
  refine Spec.intro (d := dr2 14) (k := 1) (σ := [(Str.ofString "number", .fr (.int N))]) F.GO F.hs ?_ ?_ (by rfl) (by decide +kernel) (by rfl) (by rfl) (by rfl) (by decide +kernel)
  · intro h₀ L ad cd ok O
    refine SS.to [(Str.ofString "number", .fr (.int N)), (Str.ofString "shift", .fr (.int ((bl N : Int) - 33)))] ?_ ?_
    · repeat walk_at "pw"
      rw [intBits_nat, show ((bl N : Int) - 1 - 32) = (bl N : Int) - 33 by omega]
      exact ⟨rfl, (Sub.cons (by rfl) (Sub.cons (by rfl) Sub.nil))⟩
    refine SS.cons ?_
    refine S1.while (fun n σ' => ∃ m : Nat, n = bl m ∧ Cg N m ∧ bl m ≤ bl N ∧ σ' = [(Str.ofString "number", .fr (.int m)), (Str.ofString "shift", .fr (.int ((bl m : Int) - 33)))]) ?_ ?_
    · exact ⟨_, _, (Sub.cons (by rfl) (Sub.cons (by rfl) Sub.nil)), N, rfl, .refl N, Nat.le_refl _, rfl⟩
    · rintro n σ' ⟨m, rfl, hm, hbm, rfl⟩
      repeat walk_at "pw"
      split
      · rename_i h
        have h := of_decide_eq_true h
        have hm0 : m ≠ 0 := by intro e; rw [e, bl_zero] at h; omega
        refine SS.cons ?_
        repeat walk_at "pw"
        refine ⟨h, by rw [show Builtin.Int.intBits 7976584769 = 33 by decide +kernel]; omega, ?_⟩
        have e := shl_nat' CC (k := (bl m : Int) - 33) (j := bl m - 33) (by omega)
        rw [show (7976584769 : Int) = (CC : Nat) from rfl, e]
        repeat walk_at "pw"
        rw [bitXor_nat]
        repeat walk_at "pw"
        rw [intBits_nat]
        have e1 : bl (CC * 2 ^ (bl m - 33)) = bl m := by rw [bl_shl CC_ne, CC_bl]; omega
        refine ⟨_, bl_xor_eq e1.symm hm0, _, ?_, m ^^^ CC * 2 ^ (bl m - 33), rfl, hm.trans ⟨2 ^ (bl m - 33), ?_⟩, Nat.le_trans (bl_xor_le (Nat.le_refl _) (Nat.le_of_eq e1)) hbm, rfl⟩
        · rw [show ((bl (m ^^^ CC * 2 ^ (bl m - 33)) : Int) - 33) = (bl (m ^^^ CC * 2 ^ (bl m - 33)) : Int) - 1 - 32 by omega]
          exact (Sub.cons (by rfl) (Sub.cons (by rfl) Sub.nil))
        · rw [xor_cancel', cm_pow]
      · rename_i h
        have h : ¬ (0 ≤ (bl m : Int) - 33) := fun e => h (decide_eq_true e)
        repeat walk_at "pw"
        exact ⟨m, rfl, bl_le.mp (by omega), hm⟩
  · intro pm code doc vs hl
    match vs, hl with
    | [_], _ => rfl

theorem quotients_spec {G : GG} (F : Fns2 G) {A B : Nat} (hA : bl A ≤ 10000) (hB : bl B ≤ 10000) : Spec G 2 True (Str.ofString "_law_quotients") [.int A, .int B] (fun d => ∃ (row : List Nat) (g : Nat), d = .lst (row.map fun q => .int (q : Nat)) ∧ Euc g A B row) := by
  refine Spec.intro (d := dr2 10) (k := 1) (σ := [(Str.ofString "below", .fr (.int B)), (Str.ofString "above", .fr (.int A))]) F.GO F.hq ?_ ?_ (by rfl) (by decide +kernel) (by rfl) (by rfl) (by rfl) (by decide +kernel)
  · intro h₀ L ad cd ok O
    refine SS.to [(Str.ofString "below", .fr (.int B)), (Str.ofString "above", .fr (.int A)), (Str.ofString "row", .ow [])] ?_ ?_
    · repeat walk_at "pw"
      exact ⟨Nat.zero_le _, rfl, (Sub.cons (by rfl) (Sub.cons (by rfl) (Sub.cons (by rfl) Sub.nil)))⟩
    refine SS.cons ?_
    refine S1.while (fun n σ' => ∃ (dn : List Nat) (a b : Nat), n = bl b ∧ (∀ g row, Euc g a b row → Euc g A B (dn ++ row)) ∧ bl a ≤ 10000 ∧ bl b + dn.length ≤ 10000 ∧
      σ' = [(Str.ofString "below", .fr (.int b)), (Str.ofString "above", .fr (.int a)), (Str.ofString "row", .ow (dn.map fun q => .int (q : Nat)))]) ?_ ?_
    · exact ⟨_, _, (Sub.cons (by rfl) (Sub.cons (by rfl) (Sub.cons (by rfl) Sub.nil))), [], A, B, rfl, fun _ _ h => h, hA, hB, rfl⟩
    · rintro n σ' ⟨dn, a, b, rfl, hE, ha, hb, rfl⟩
      repeat walk_at "pw"
      by_cases hb0 : b = 0
      · rw [if_neg (by rw [decide_eq_true (show (b : Int) = 0 by omega)]; decide)]
        repeat walk_at "pw"
        exact ⟨dn, a, rfl, by subst hb0; have := hE a [] .nil; rwa [List.append_nil] at this⟩
      · rw [if_pos (by rw [decide_eq_false (show ¬ (b : Int) = 0 by omega)]; rfl)]
        have hpb := bl_pos hb0
        refine SS.to [(Str.ofString "below", .fr (.int b)), (Str.ofString "above", .fr (.int a)), (Str.ofString "row", .ow (dn.map fun q => .int (q : Nat))), (Str.ofString "quotient", .fr (.int ((0 : Nat) : Int)))] ?_ ?_
        · repeat walk_at "pw"
          exact ⟨rfl, (Sub.cons (by rfl) (Sub.cons (by rfl) (Sub.cons (by rfl) (Sub.cons (by rfl) Sub.nil))))⟩
        refine SS.to [(Str.ofString "below", .fr (.int b)), (Str.ofString "above", .fr (.int a)), (Str.ofString "row", .ow (dn.map fun q => .int (q : Nat))), (Str.ofString "quotient", .fr (.int ((0 : Nat) : Int))), (Str.ofString "shift", .fr (.int ((bl a : Int) - bl b)))] ?_ ?_
        · repeat walk_at "pw"
          rw [intBits_nat, intBits_nat, show (bl a : Int) - 1 - ((bl b : Int) - 1) = (bl a : Int) - bl b by omega]
          exact ⟨rfl, (Sub.cons (by rfl) (Sub.cons (by rfl) (Sub.cons (by rfl) (Sub.cons (by rfl) (Sub.cons (by rfl) Sub.nil)))))⟩
        refine SS.cons ?_
        refine S1.while (fun n σ' => ∃ q r : Nat, n = bl r ∧ a = cm q b ^^^ r ∧ bl r ≤ bl a ∧
          σ' = [(Str.ofString "below", .fr (.int b)), (Str.ofString "above", .fr (.int r)), (Str.ofString "row", .ow (dn.map fun q => .int (q : Nat))), (Str.ofString "quotient", .fr (.int q)), (Str.ofString "shift", .fr (.int ((bl r : Int) - bl b)))]) ?_ ?_
        · exact ⟨_, _, (Sub.cons (by rfl) (Sub.cons (by rfl) (Sub.cons (by rfl) (Sub.cons (by rfl) (Sub.cons (by rfl) Sub.nil))))), 0, a, rfl, by rw [zero_cm, Nat.zero_xor], Nat.le_refl _, rfl⟩
        · rintro n σ' ⟨q, r, rfl, hq, hr, rfl⟩
          repeat walk_at "pw"
          split
          · rename_i h
            have h := of_decide_eq_true h
            have hr0 : r ≠ 0 := by intro e; rw [e, bl_zero] at h; omega
            refine SS.cons ?_
            repeat walk_at "pw"
            refine ⟨h, by rw [show Builtin.Int.intBits 1 = 1 from rfl]; omega, ?_⟩
            rw [one_shl' (k := (bl r : Int) - bl b) (j := bl r - bl b) (by omega)]
            repeat walk_at "pw"
            rw [bitXor_nat]
            refine ⟨h, by rw [intBits_nat]; omega, ?_⟩
            rw [shl_nat' b (k := (bl r : Int) - bl b) (j := bl r - bl b) (by omega)]
            repeat walk_at "pw"
            rw [bitXor_nat]
            repeat walk_at "pw"
            rw [intBits_nat, intBits_nat]
            have e1 : bl (b * 2 ^ (bl r - bl b)) = bl r := by rw [bl_shl hb0]; omega
            refine ⟨_, bl_xor_eq e1.symm hr0, _, ?_, q ^^^ 2 ^ (bl r - bl b), r ^^^ b * 2 ^ (bl r - bl b), rfl, ?_, Nat.le_trans (bl_xor_le (Nat.le_refl _) (Nat.le_of_eq e1)) hr, rfl⟩
            · rw [show ((bl (r ^^^ b * 2 ^ (bl r - bl b)) : Int) - bl b) = (bl (r ^^^ b * 2 ^ (bl r - bl b)) : Int) - 1 - ((bl b : Int) - 1) by omega]
              exact (Sub.cons (by rfl) (Sub.cons (by rfl) (Sub.cons (by rfl) (Sub.cons (by rfl) (Sub.cons (by rfl) Sub.nil)))))
            · rw [cm_xor_left, cm_comm (2 ^ _), cm_pow, xor_swap, Nat.xor_self, Nat.xor_zero]; exact hq
          · rename_i h
            have h : ¬ (0 ≤ (bl r : Int) - bl b) := fun e => h (decide_eq_true e)
            refine SS.to [(Str.ofString "below", .fr (.int b)), (Str.ofString "above", .fr (.int r)), (Str.ofString "row", .ow ((dn ++ [q]).map fun q => .int (q : Nat)))] ?_ ?_
            · repeat walk_at "pw"
              · rw [List.map_append]
                exact ⟨rfl, (Sub.cons (by rfl) (Sub.cons (by rfl) (Sub.cons (by rfl) Sub.nil)))⟩
              · rw [List.length_map]; omega
            refine SS.cons ?_
            refine S1.tupSwap (xs := [Str.ofString "above", Str.ofString "below"]) O trivial (by show ∀ x ∈ _, (dr2 10).scope.names.lookup x = some .local; decide +kernel) ?_ (by rfl) (by rfl)
            repeat walk_at "pw"
            refine ⟨Nat.le_of_ble_eq_true rfl, rfl, ?_⟩
            repeat walk_at "pw"
            refine ⟨bl r, by omega, _, ?_, dn ++ [q], b, r, rfl, ?_, by omega, by rw [List.length_append]; show bl r + (dn.length + 1) ≤ _; omega, rfl⟩
            · exact (Sub.cons (by rfl) (Sub.cons (by rfl) (Sub.cons (by rfl) Sub.nil)))
            · intro g row hE'
              rw [List.append_assoc]
              exact hE g (q :: row) (.cons hb0 hq (by omega) hE')
  · intro pm code doc vs hl
    match vs, hl with
    | [_, _], _ => rfl
end Mine
end
section
set_option maxRecDepth 100000
open PySem PySem.W PyProof.Rows PySem.Calls
namespace Mine
local macro_rules | `(tactic| walk_at "pw") => `(tactic| first
  | with_reducible refine SS.nil ?_
  | with_reducible refine SS.cons ?_
  | with_reducible refine S1.ret ?_
  | with_reducible refine S1.ife ?_
  | ((with_reducible show S1 _ _ (.Assign [.Name _ _] (.List _ _) _) _); refine S1.assignL ‹_› ?_ (by rfl))
  | ((with_reducible show S1 _ _ (.Assign [.Name _ _] _ _) _); refine S1.assign ‹_› ?_ (by rfl))
  | ((with_reducible show S1 _ _ (.AugAssign (.Name _ _) _ _ _) _); refine S1.aug ‹_› (by rfl) ?_ (by rfl))
  | ((with_reducible show S1 _ _ (.AugAssign (.Name _ _) .Add _ _) _); refine S1.augL ‹_› (by rfl) ?_ (by rfl))
  | ((with_reducible show S1 _ _ (.Expr (.Call (.Attribute (.Name _ _) _ _) [_] [] _) _) _); refine S1.append ‹_› (by rfl) ?_ ?_ (by rfl) (by rfl); rotate_left)
  | with_reducible refine SE.cint ?_
  | with_reducible refine SE.cnone ?_
  | with_reducible refine SE.cstr ?_
  | ((with_reducible show SE _ _ _ (.Name _ _) _); refine SE.name ‹_› (by rfl) ?_ (by rfl))
  | ((with_reducible show SE _ _ _ (.Name _ _) _); refine SE.nameO ‹_› (by rfl) ?_ (by rfl))
  | with_reducible refine SE.bin ‹_› ?_
  | with_reducible refine SE.cbool ?_
  | ((with_reducible refine SE.cmp ?_ ?_); rotate_left; with_unfolding_all rfl)
  | with_reducible refine SE.neg ?_
  | with_reducible refine SE.ifexp ?_
  | ((with_reducible refine SE.sub ?_ ?_); rotate_left; (intro _ _; rfl))
  | ((with_reducible refine SE.bitlen ?_ ?_ ?_); rotate_left; (intro _; rfl); rfl)
  | ((with_reducible refine ST.cmp ?_ ?_); rotate_left; with_unfolding_all rfl)
  | ((with_reducible refine ST.chain ?_ ?_); rotate_left; with_unfolding_all rfl)
  | with_reducible refine ST.not ?_
  | ((with_reducible show ST _ _ (.BinOp _ _ _ _) _); refine ST.plain ?_)
  | ((with_reducible show ST _ _ (.Call _ _ _ _) _); refine ST.plain ?_)
  | ((with_reducible show ST _ _ (.Constant _ _ _) _); refine ST.plain ?_)
  | with_reducible refine SE.tuple ?_
  | with_reducible refine SE.list ‹_› ?_
  | ((with_reducible refine SEs.cons ?_ ?_); rotate_left; (intro _; rfl))
  | with_reducible refine SEs.nil ?_
  | with_reducible refine S1.try ?_
  | ((with_reducible show SE _ _ _ (.Call (.Name (Str.ofString "len") _) _ [] _) _); refine SE.bcall (b := .builtin "len") ‹_› ?_ (.inl ⟨_, rfl⟩) ‹Fns2 _›.len.1 ‹Fns2 _›.len.2 (by rfl))
  | ((with_reducible show SE _ _ _ (.Call (.Name (Str.ofString "max") _) _ [] _) _); refine SE.bcall (b := .builtin "max") ‹_› ?_ (.inl ⟨_, rfl⟩) ‹Fns2 _›.mx.1 ‹Fns2 _›.mx.2 (by rfl))
  | ((with_reducible show SE _ _ _ (.Call (.Name (Str.ofString "min") _) _ [] _) _); refine SE.bcall (b := .builtin "min") ‹_› ?_ (.inl ⟨_, rfl⟩) ‹Fns2 _›.mn.1 ‹Fns2 _›.mn.2 (by rfl))
  | ((with_reducible show SE _ _ _ (.Call (.Name (Str.ofString "sum") _) _ [] _) _); refine SE.bcall (b := .builtin "sum") ‹_› ?_ (.inl ⟨_, rfl⟩) ‹Fns2 _›.sm.1 ‹Fns2 _›.sm.2 (by rfl))
  | ((with_reducible show SE _ _ _ (.Call (.Name (Str.ofString "range") _) _ [] _) _); refine SE.bcall (b := .type "range") ‹_› ?_ (.inr ⟨_, rfl⟩) ‹Fns2 _›.rg.1 ‹Fns2 _›.rg.2 (by rfl))
  | ((with_reducible show SE _ _ _ (.Call (.Name (Str.ofString "bytes") _) _ [] _) _); refine SE.bcall (b := .type "bytes") ‹_› ?_ (.inr ⟨_, rfl⟩) ‹Fns2 _›.byt.1 ‹Fns2 _›.byt.2 (by rfl))
  | ((with_reducible show SE _ _ _ (.Call (.Name (Str.ofString "_is_single_bit") _) _ [] _) _); refine SE.call (k := 1) (nh := True) ‹_› ?_ ‹Fns2 _›.h1.fn (Nat.le_of_ble_eq_true rfl) (fun _ => trivial) (by rfl))
  | ((with_reducible show SE _ _ _ (.Call (.Name (Str.ofString "_high_bit") _) _ [] _) _); refine SE.call (k := 1) (nh := True) ‹_› ?_ ‹Fns2 _›.h2.fn (Nat.le_of_ble_eq_true rfl) (fun _ => trivial) (by rfl))
  | ((with_reducible show SE _ _ _ (.Call (.Name (Str.ofString "T") _) _ [] _) _); refine SE.call (k := 1) (nh := True) ‹_› ?_ ‹Fns2 _›.hT.fn (Nat.le_of_ble_eq_true rfl) (fun _ => trivial) (by rfl))
  | ((with_reducible show SE _ _ _ (.Call (.Name (Str.ofString "_gen_crc") _) _ [] _) _); refine SE.call (k := 1) (nh := True) ‹_› ?_ ‹Fns2 _›.hG.fn (Nat.le_of_ble_eq_true rfl) (fun _ => trivial) (by rfl))
  | with_reducible refine cmpW_lt ?_
  | with_reducible refine cmpW_le ?_
  | with_reducible refine cmpW_gt ?_
  | with_reducible refine cmpW_ge ?_
  | with_reducible refine cmpW_eq ?_
  | with_reducible refine cmpW_ne ?_
  | with_reducible refine cmpW_eqs ?_
  | with_reducible refine cmpW_is ?_
  | with_reducible refine cmpW_isnot ?_
  | with_reducible refine opW_add ?_
  | with_reducible refine opW_sub ?_
  | with_reducible refine opW_mul ?_
  | with_reducible refine opW_fdiv ?_
  | with_reducible refine opW_mod ?_
  | with_reducible refine opW_pow ?_
  | with_reducible refine opW_shl ?_
  | with_reducible refine opW_shr ?_
  | with_reducible refine opW_and ?_
  | with_reducible refine opW_or ?_
  | with_reducible refine opW_xor ?_
  | with_reducible refine opW_cat ?_
  | with_reducible refine iopW_add ?_
  | with_reducible refine iopW_sub ?_
  | with_reducible refine iopW_and ?_
  | with_reducible refine iopW_or ?_
  | with_reducible refine iopW_xor ?_
  | with_reducible refine iopW_shr ?_
  | with_reducible refine subW_bytes ?_
  | with_reducible refine subW_tup ?_
  | with_reducible refine subW_lst ?_
  | with_reducible refine truW_b ?_
  | with_reducible refine truW_i ?_
  | ((with_reducible show BSpec _ _ _ (.type "range") _ _); refine BSpec.range ?_ ?_)
  | ((with_reducible show BSpec _ _ _ (.builtin "max") _ _); refine BSpec.max trivial ?_)
  | ((with_reducible show BSpec _ _ _ (.builtin "min") _ _); refine BSpec.min trivial ?_)
  | ((with_reducible show BSpec _ _ _ (.builtin "len") _ _); refine BSpec.len ?_)
  | ((with_reducible show Spec _ _ _ (Str.ofString "_is_single_bit") _ _); refine Spec.mono (isb_spec ‹_› _) ?_; intro d hd; subst hd)
  | ((with_reducible show Spec _ _ _ (Str.ofString "_high_bit") _ _); refine Spec.mono (hb_spec ‹_› _) ?_; intro d hd; subst hd)
  | ((with_reducible show Spec _ _ _ (Str.ofString "T") _ _); refine Spec.mono (T_spec ‹_› _ _) ?_; intro d hd; subst hd)
  | ((with_reducible show Spec _ _ _ (Str.ofString "_gen_crc") _ _); refine Spec.mono (gen_spec ‹_› _) ?_; intro d hd; subst hd)
  | ((with_reducible show SE _ _ _ (.Call (.Name (Str.ofString "_law_times") _) _ [] _) _); refine SE.call (k := 2) (nh := True) ‹_› ?_ ‹Fns2 _›.ht.fn (Nat.le_of_ble_eq_true rfl) (fun _ => trivial) (by rfl))
  | with_reducible refine ST.and ?_
  | with_reducible refine ST.and_nil ?_
  | with_reducible refine ST.or ?_
  | with_reducible refine ST.or_nil ?_)


theorem St.freeze {h₀ h : Heap} {ok : Addr → Prop} {L : Addr} {σ : Mine.Loc} {m : Str → Option Value} (S : Mine.St h₀ ok L σ h m) {x : Str} {ds : List D} (hx : σ.lookup x = some (.ow ds)) : Mine.St h₀ ok L (upd σ x (.fr (.lst ds))) h m := by
  have hno : ∀ b, NotOwn m σ b → NotOwn m (upd σ x (.fr (.lst ds))) b := fun b q y es hy => by
    rw [upd_lookup] at hy
    split at hy
    · cases hy
    · exact q y es hy
  refine ⟨S.F, fun y sl hy => ?_, fun y z es fs hy hz e => ?_⟩
  · rw [upd_lookup] at hy
    split at hy
    · rename_i e
      subst e
      cases hy
      obtain ⟨a, vs, n, h1, h0, h2, h3⟩ := S.sl y _ hx
      refine ⟨.ref a, h1, .lst ⟨h0.2, fun z es hz e => ?_⟩ ⟨_, h2, rfl, n, rfl⟩ (h3.weak fun b hb => ⟨hb.1, hno b hb.2⟩)⟩
      rw [upd_lookup] at hz
      split at hz
      · cases hz
      · rename_i hne
        exact hne (S.ap z y es ds hz hx (by rw [e, h1]))
    · have q := S.sl y sl hy
      cases sl with
      | fr d => obtain ⟨v, h1, h2⟩ := q; exact ⟨v, h1, h2.weak fun b hb => ⟨hb.1, hno b hb.2⟩⟩
      | ow es => obtain ⟨a, vs, n, h1, h0, h2, h3⟩ := q; exact ⟨a, vs, n, h1, h0, h2, h3.weak fun b hb => ⟨hb.1, hno b hb.2⟩⟩
  · rw [upd_lookup] at hy hz
    split at hy
    · cases hy
    · split at hz
      · cases hz
      · exact S.ap y z es fs hy hz e
theorem SS.freeze {X : Cx} {σ : Mine.Loc} {st : List Stmt} {P : Fl → Mine.Loc → Prop} {x : Str} {ds : List D} (hx : σ.lookup x = some (.ow ds)) (h : SS X (upd σ x (.fr (.lst ds))) st P) : SS X σ st P := by
  have hno : ∀ (m : Str → Option Value) b, NotOwn m σ b → NotOwn m (upd σ x (.fr (.lst ds))) b := fun m b q y es hy => by
    rw [upd_lookup] at hy
    split at hy
    · cases hy
    · exact q y es hy
  intro A s m K R S hK
  exact h A s m K R (S.freeze hx) fun fl fl' σ1 m' h' tk hp hf S' hs => hK _ _ _ _ _ _ hp hf S' ⟨fun b o e n q => hs.pres b o e n (hno m b q), fun b o e n q => hs.own b o e n (hno m b q)⟩

theorem cells_spec {G : GG} (F : Fns2 G) {ns : List Int} (hz : ns.length ≤ 1000) : Spec G 1 True (Str.ofString "_law_cells") [.lst (ns.map .int)] (fun d => ∃ a b c : Int, d = .lst [.int a, .int b, .int c]) := by
  refine Spec.intro (d := dr2 9) (k := 0) (σ := [(Str.ofString "script", .fr (.lst (ns.map .int)))]) F.GO F.hc ?_ ?_ (by rfl) (by decide +kernel) (by rfl) (by rfl) (by rfl) (by decide +kernel)
  · intro h₀ L ad cd ok O
    refine SS.to [(Str.ofString "script", .fr (.lst (ns.map .int))), (Str.ofString "cells", .ow ([0, 1, 112].map .int))] ?_ ?_
    · repeat walk_at "pw"
      exact ⟨Nat.le_of_ble_eq_true rfl, rfl, (Sub.cons (by rfl) (Sub.cons (by rfl) Sub.nil))⟩
    refine SS.cons ?_
    refine S1.for O trivial ?_ (by rfl)
    repeat walk_at "pw"
    refine ⟨by rw [List.length_map]; exact Nat.le_trans hz (by decide), ?_⟩
    rw [List.length_map]
    repeat walk_at "pw"
    · refine ⟨_, if_pos (Nat.le_trans (show _ ≤ 1000 by omega) (by decide)), fun i σ' => ∃ cs : List Int, cs.length = 3 ∧ σ' = [(Str.ofString "script", .fr (.lst (ns.map .int))), (Str.ofString "cells", .ow (cs.map .int))], ⟨_, (Sub.cons (by rfl) (Sub.cons (by rfl) Sub.nil)), [0, 1, 112], rfl, rfl⟩, ?_, ?_⟩
      · rintro i d σ' hd ⟨cs, hcs, rfl⟩
        have hi : i < ns.length := by
          have := (List.getElem?_eq_some_iff.mp hd).1
          simpa using this
        have hd' : d = .int (i : Nat) := by
          have := (List.getElem?_eq_some_iff.mp hd).2
          simpa using this.symm
        subst hd'
        show SS _ _ _ _
        refine SS.cons ?_
        refine S1.augSub O (by rfl) ?_ (by rfl)
        repeat walk_at "pw"
        refine ⟨by decide, ?_⟩
        rw [fmod_pos (by decide : (0 : Int) < 3)]
        have h3 : ((i : Int) % 3).toNat < cs.length := by omega
        refine ⟨by omega, by omega, cs[((i : Int) % 3).toNat], ?_, ?_⟩
        · rw [List.getElem?_map, List.getElem?_eq_getElem h3]; rfl
        repeat walk_at "pw"
        refine .inl ⟨by omega, by omega, .int (ns[i]), ?_, ?_⟩
        · rw [Int.toNat_natCast, List.getElem?_map, List.getElem?_eq_getElem hi]; rfl
        repeat walk_at "pw"
        refine ⟨_, ?_, cs.set ((i : Int) % 3).toNat (cs[((i : Int) % 3).toNat] + ns[i]), by rw [List.length_set]; exact hcs, rfl⟩
        rw [List.map_set]
        exact (Sub.cons (by rfl) (Sub.cons (by rfl) Sub.nil))
      · rintro σ' ⟨cs, hcs, rfl⟩
        repeat walk_at "pw"
        match cs, hcs with
        | [a, b, c], _ => exact ⟨a, b, c, rfl⟩
    · omega
  · intro pm code doc vs hl
    match vs, hl with
    | [_], _ => rfl

theorem laid_spec {G : GG} (F : Fns2 G) {p : Nat} {segs : List (Nat × List Int)} (hs : ∀ s ∈ segs, s.1 ≠ 0 ∧ bl s.1 ≤ 100) (hz : segs.length ≤ 100) : Spec G 3 True (Str.ofString "_law_laid") [.lst (ends p segs)] (fun d => d = .tup [.int (lay (segs.map (·.1))).1, .int (lay (segs.map (·.1))).2]) := by
  refine Spec.intro (d := dr2 15) (k := 2) (σ := [(Str.ofString "row", .fr (.lst (ends p segs)))]) F.GO F.hl ?_ ?_ (by rfl) (by decide +kernel) (by rfl) (by rfl) (by rfl) (by decide +kernel)
  · intro h₀ L ad cd ok O
    refine SS.to [(Str.ofString "row", .fr (.lst (ends p segs))), (Str.ofString "last", .fr (.int ((lay []).1 : Nat))), (Str.ofString "before", .fr (.int ((lay []).2 : Nat)))] ?_ ?_
    · refine S1.tup (xs := [Str.ofString "before", Str.ofString "last"]) O trivial (by rfl) (by show ∀ x ∈ _, (dr2 15).scope.names.lookup x = some .local; decide +kernel) ?_ (by rfl) (by rfl)
      repeat walk_at "pw"
      refine ⟨Nat.le_of_ble_eq_true rfl, rfl, rfl, ?_⟩
      exact (Sub.cons (by rfl) (Sub.cons (by rfl) (Sub.cons (by rfl) Sub.nil)))
    refine SS.cons ?_
    refine S1.for O trivial ?_ (by show ∀ xs, _ → ∀ x ∈ xs, (dr2 15).scope.names.lookup x = some .local; intro xs e; cases e; decide +kernel)
    repeat walk_at "pw"
    refine ⟨_, rfl, fun i σ' => ∃ a b : Nat, (a, b) = lay ((segs.take i).map (·.1)) ∧ bl a ≤ 1 + 100 * i ∧ bl b ≤ 1 + 100 * i ∧ σ' = [(Str.ofString "last", .fr (.int a)), (Str.ofString "before", .fr (.int b))], ⟨_, (Sub.cons (by rfl) (Sub.cons (by rfl) Sub.nil)), 1, 0, rfl, by decide, by decide, rfl⟩, ?_, ?_⟩
    · rintro i d σ' hd ⟨a, b, hab, ha, hb, rfl⟩
      obtain ⟨q, e, hqe, hi⟩ : ∃ (q : Nat) (e : Nat), d = .tup [.int e, .int q] ∧ ∃ ds, segs[i]? = some (q, ds) := by
        have : ∀ (p i : Nat) (l : List (Nat × List Int)), (ends p l)[i]? = some d → ∃ (q : Nat) (e : Nat), d = .tup [.int e, .int q] ∧ ∃ ds, l[i]? = some (q, ds) := by
          intro p i l
          induction l generalizing p i with
          | nil => intro h; cases h
          | cons s l ih =>
            obtain ⟨q, ds⟩ := s
            cases i with
            | zero => intro h; cases h; exact ⟨q, _, rfl, ds, rfl⟩
            | succ i => intro h; exact ih _ i (by simpa [ends] using h)
        exact this p i segs hd
      obtain ⟨ds, hi⟩ := hi
      subst hqe
      have hq : q ≠ 0 ∧ bl q ≤ 100 := hs _ (List.mem_of_getElem? hi)
      have hil : i < segs.length := (List.getElem?_eq_some_iff.mp hi).1
      refine ⟨_, rfl, rfl, ?_⟩
      refine SS.cons ?_
      refine S1.tupSwap (xs := [Str.ofString "before", Str.ofString "last"]) O trivial (by show ∀ x ∈ _, (dr2 15).scope.names.lookup x = some .local; decide +kernel) ?_ (by rfl) (by rfl)
      repeat walk_at "pw"
      refine Spec.mono (times_spec F hq.1 (Nat.le_trans ha (by omega)) (Nat.le_trans hq.2 (by decide))) ?_
      rintro _ rfl
      repeat walk_at "pw"
      rw [bitXor_nat]
      refine ⟨Nat.le_of_ble_eq_true rfl, rfl, ?_⟩
      repeat walk_at "pw"
      refine ⟨_, ?_, cm a q ^^^ b, a, ?_, ?_, by omega, rfl⟩
      · exact (Sub.cons (by rfl) (Sub.cons (by rfl) Sub.nil))
      · rw [List.take_add_one, hi]
        unfold lay at hab ⊢
        rw [Option.toList_some, List.map_append, List.foldl_append, ← hab]
        rfl
      · refine bl_xor_le ?_ (by omega)
        by_cases ha0 : a = 0
        · rw [ha0, zero_cm, bl_zero]; omega
        · have := bl_cm ha0 hq.1
          have := hq.2
          omega
    · rintro σ' ⟨a, b, hab, ha, hb, rfl⟩
      have hel : ∀ (p : Nat) (l : List (Nat × List Int)), (ends p l).length = l.length := by
        intro p l
        induction l generalizing p with
        | nil => rfl
        | cons s l ih => obtain ⟨q, ds⟩ := s; show (_ :: ends _ _).length = _; rw [List.length_cons, ih]; rfl
      rw [hel, List.take_length] at hab
      repeat walk_at "pw"
      refine ⟨Nat.le_of_ble_eq_true rfl, ?_⟩
      show (_ : D) = _
      rw [← hab]
  · intro pm code doc vs hl
    match vs, hl with
    | [_], _ => rfl
end Mine
end
section
set_option maxRecDepth 100000
open PySem PySem.W PyProof.Rows PySem.Calls
namespace Mine
local macro_rules | `(tactic| walk_at "pw") => `(tactic| first
  | with_reducible refine SS.nil ?_
  | with_reducible refine SS.cons ?_
  | with_reducible refine S1.ret ?_
  | with_reducible refine S1.ife ?_
  | ((with_reducible show S1 _ _ (.Assign [.Name _ _] (.List _ _) _) _); refine S1.assignL ‹_› ?_ (by rfl))
  | ((with_reducible show S1 _ _ (.Assign [.Name _ _] _ _) _); refine S1.assign ‹_› ?_ (by rfl))
  | ((with_reducible show S1 _ _ (.AugAssign (.Name _ _) _ _ _) _); refine S1.aug ‹_› (by rfl) ?_ (by rfl))
  | ((with_reducible show S1 _ _ (.AugAssign (.Name _ _) .Add _ _) _); refine S1.augL ‹_› (by rfl) ?_ (by rfl))
  | ((with_reducible show S1 _ _ (.Expr (.Call (.Attribute (.Name _ _) _ _) [_] [] _) _) _); refine S1.append ‹_› (by rfl) ?_ ?_ (by rfl) (by rfl); rotate_left)
  | with_reducible refine SE.cint ?_
  | with_reducible refine SE.cnone ?_
  | with_reducible refine SE.cstr ?_
  | ((with_reducible show SE _ _ _ (.Name _ _) _); refine SE.name ‹_› (by rfl) ?_ (by rfl))
  | ((with_reducible show SE _ _ _ (.Name _ _) _); refine SE.nameO ‹_› (by rfl) ?_ (by rfl))
  | with_reducible refine SE.bin ‹_› ?_
  | with_reducible refine SE.cbool ?_
  | ((with_reducible refine SE.cmp ?_ ?_); rotate_left; with_unfolding_all rfl)
  | with_reducible refine SE.neg ?_
  | with_reducible refine SE.ifexp ?_
  | ((with_reducible refine SE.sub ?_ ?_); rotate_left; (intro _ _; rfl))
  | ((with_reducible refine SE.bitlen ?_ ?_ ?_); rotate_left; (intro _; rfl); rfl)
  | ((with_reducible refine ST.cmp ?_ ?_); rotate_left; with_unfolding_all rfl)
  | ((with_reducible refine ST.chain ?_ ?_); rotate_left; with_unfolding_all rfl)
  | with_reducible refine ST.not ?_
  | ((with_reducible show ST _ _ (.BinOp _ _ _ _) _); refine ST.plain ?_)
  | ((with_reducible show ST _ _ (.Call _ _ _ _) _); refine ST.plain ?_)
  | ((with_reducible show ST _ _ (.Constant _ _ _) _); refine ST.plain ?_)
  | with_reducible refine SE.tuple ?_
  | with_reducible refine SE.list ‹_› ?_
  | ((with_reducible refine SEs.cons ?_ ?_); rotate_left; (intro _; rfl))
  | with_reducible refine SEs.nil ?_
  | with_reducible refine S1.try ?_
  | ((with_reducible show SE _ _ _ (.Call (.Name (Str.ofString "len") _) _ [] _) _); refine SE.bcall (b := .builtin "len") ‹_› ?_ (.inl ⟨_, rfl⟩) ‹Fns2 _›.len.1 ‹Fns2 _›.len.2 (by rfl))
  | ((with_reducible show SE _ _ _ (.Call (.Name (Str.ofString "max") _) _ [] _) _); refine SE.bcall (b := .builtin "max") ‹_› ?_ (.inl ⟨_, rfl⟩) ‹Fns2 _›.mx.1 ‹Fns2 _›.mx.2 (by rfl))
  | ((with_reducible show SE _ _ _ (.Call (.Name (Str.ofString "min") _) _ [] _) _); refine SE.bcall (b := .builtin "min") ‹_› ?_ (.inl ⟨_, rfl⟩) ‹Fns2 _›.mn.1 ‹Fns2 _›.mn.2 (by rfl))
  | ((with_reducible show SE _ _ _ (.Call (.Name (Str.ofString "sum") _) _ [] _) _); refine SE.bcall (b := .builtin "sum") ‹_› ?_ (.inl ⟨_, rfl⟩) ‹Fns2 _›.sm.1 ‹Fns2 _›.sm.2 (by rfl))
  | ((with_reducible show SE _ _ _ (.Call (.Name (Str.ofString "range") _) _ [] _) _); refine SE.bcall (b := .type "range") ‹_› ?_ (.inr ⟨_, rfl⟩) ‹Fns2 _›.rg.1 ‹Fns2 _›.rg.2 (by rfl))
  | ((with_reducible show SE _ _ _ (.Call (.Name (Str.ofString "bytes") _) _ [] _) _); refine SE.bcall (b := .type "bytes") ‹_› ?_ (.inr ⟨_, rfl⟩) ‹Fns2 _›.byt.1 ‹Fns2 _›.byt.2 (by rfl))
  | ((with_reducible show SE _ _ _ (.Call (.Name (Str.ofString "_is_single_bit") _) _ [] _) _); refine SE.call (k := 1) (nh := True) ‹_› ?_ ‹Fns2 _›.h1.fn (Nat.le_of_ble_eq_true rfl) (fun _ => trivial) (by rfl))
  | ((with_reducible show SE _ _ _ (.Call (.Name (Str.ofString "_high_bit") _) _ [] _) _); refine SE.call (k := 1) (nh := True) ‹_› ?_ ‹Fns2 _›.h2.fn (Nat.le_of_ble_eq_true rfl) (fun _ => trivial) (by rfl))
  | ((with_reducible show SE _ _ _ (.Call (.Name (Str.ofString "T") _) _ [] _) _); refine SE.call (k := 1) (nh := True) ‹_› ?_ ‹Fns2 _›.hT.fn (Nat.le_of_ble_eq_true rfl) (fun _ => trivial) (by rfl))
  | ((with_reducible show SE _ _ _ (.Call (.Name (Str.ofString "_gen_crc") _) _ [] _) _); refine SE.call (k := 1) (nh := True) ‹_› ?_ ‹Fns2 _›.hG.fn (Nat.le_of_ble_eq_true rfl) (fun _ => trivial) (by rfl))
  | with_reducible refine cmpW_lt ?_
  | with_reducible refine cmpW_le ?_
  | with_reducible refine cmpW_gt ?_
  | with_reducible refine cmpW_ge ?_
  | with_reducible refine cmpW_eq ?_
  | with_reducible refine cmpW_ne ?_
  | with_reducible refine cmpW_eqs ?_
  | with_reducible refine cmpW_is ?_
  | with_reducible refine cmpW_isnot ?_
  | with_reducible refine opW_add ?_
  | with_reducible refine opW_sub ?_
  | with_reducible refine opW_mul ?_
  | with_reducible refine opW_fdiv ?_
  | with_reducible refine opW_mod ?_
  | with_reducible refine opW_pow ?_
  | with_reducible refine opW_shl ?_
  | with_reducible refine opW_shr ?_
  | with_reducible refine opW_and ?_
  | with_reducible refine opW_or ?_
  | with_reducible refine opW_xor ?_
  | with_reducible refine opW_cat ?_
  | with_reducible refine iopW_add ?_
  | with_reducible refine iopW_sub ?_
  | with_reducible refine iopW_and ?_
  | with_reducible refine iopW_or ?_
  | with_reducible refine iopW_xor ?_
  | with_reducible refine iopW_shr ?_
  | with_reducible refine subW_bytes ?_
  | with_reducible refine subW_tup ?_
  | with_reducible refine subW_lst ?_
  | with_reducible refine truW_b ?_
  | with_reducible refine truW_i ?_
  | ((with_reducible show BSpec _ _ _ (.type "range") _ _); refine BSpec.range ?_ ?_)
  | ((with_reducible show BSpec _ _ _ (.builtin "max") _ _); refine BSpec.max trivial ?_)
  | ((with_reducible show BSpec _ _ _ (.builtin "min") _ _); refine BSpec.min trivial ?_)
  | ((with_reducible show BSpec _ _ _ (.builtin "len") _ _); refine BSpec.len ?_)
  | ((with_reducible show Spec _ _ _ (Str.ofString "_is_single_bit") _ _); refine Spec.mono (isb_spec ‹_› _) ?_; intro d hd; subst hd)
  | ((with_reducible show Spec _ _ _ (Str.ofString "_high_bit") _ _); refine Spec.mono (hb_spec ‹_› _) ?_; intro d hd; subst hd)
  | ((with_reducible show Spec _ _ _ (Str.ofString "T") _ _); refine Spec.mono (T_spec ‹_› _ _) ?_; intro d hd; subst hd)
  | ((with_reducible show Spec _ _ _ (Str.ofString "_gen_crc") _ _); refine Spec.mono (gen_spec ‹_› _) ?_; intro d hd; subst hd)
  | ((with_reducible show SE _ _ _ (.Call (.Name (Str.ofString "_law_times") _) _ [] _) _); refine SE.call (k := 2) (nh := True) ‹_› ?_ ‹Fns2 _›.ht.fn (Nat.le_of_ble_eq_true rfl) (fun _ => trivial) (by rfl))
  | with_reducible refine ST.and ?_
  | with_reducible refine ST.and_nil ?_
  | with_reducible refine ST.or ?_
  | with_reducible refine ST.or_nil ?_)


theorem okD_ends {p : Nat} {segs : List (Nat × List Int)} : okD 9 (.lst (ends p segs)) = true := by
  show (ends p segs).all (okD 8) = true
  induction segs generalizing p with
  | nil => rfl
  | cons s l ih =>
    obtain ⟨q, ds⟩ := s
    show (_ :: ends _ _).all (okD 8) = true
    rw [List.all_cons, ih]
    rfl
theorem lay_bound : ∀ (l : List Nat) (p : Nat × Nat) (k : Nat), (∀ q ∈ l, bl q ≤ 100) → bl p.1 ≤ k → bl p.2 ≤ k → bl (l.foldl (fun p q => (cm p.1 q ^^^ p.2, p.1)) p).2 ≤ k + 100 * l.length
  | [], p, k, _, _, h2 => h2
  | q :: l, p, k, hq, h1, h2 => by
    have h3 : bl (cm p.1 q) ≤ k + 100 := by
      have hq' := hq q (List.mem_cons_self ..)
      by_cases h0 : p.1 = 0
      · rw [h0, zero_cm, bl_zero]; omega
      · by_cases h0' : q = 0
        · rw [h0', cm_zero, bl_zero]; omega
        · have := bl_cm h0 h0'; omega
    have := lay_bound l (cm p.1 q ^^^ p.2, p.1) (k + 100) (fun q' hq' => hq q' (List.mem_cons_of_mem _ hq')) (bl_xor_le h3 (by omega)) (by show bl p.1 ≤ _; omega)
    rw [List.foldl_cons, List.length_cons]
    omega

theorem ends_length : ∀ (p : Nat) (l : List (Nat × List Int)), (ends p l).length = l.length := by
  intro p l
  induction l generalizing p with
  | nil => rfl
  | cons s l ih => obtain ⟨q, ds⟩ := s; show (_ :: ends _ _).length = _; rw [List.length_cons, ih]; rfl
theorem ends_get {d : D} : ∀ (p i : Nat) (l : List (Nat × List Int)), (ends p l)[i]? = some d → ∃ (q : Nat) (ds : List Int), l[i]? = some (q, ds) ∧ d = .tup [.int (p + (octs (l.take i)).length + ds.length : Nat), .int q] := by
  intro p i l
  induction l generalizing p i with
  | nil => intro h; cases h
  | cons s l ih =>
    obtain ⟨q, ds⟩ := s
    cases i with
    | zero => intro h; cases h; exact ⟨q, ds, rfl, rfl⟩
    | succ i =>
      intro h
      obtain ⟨q', ds', h1, h2⟩ := ih (p + ds.length) i (by simpa [ends] using h)
      refine ⟨q', ds', h1, ?_⟩
      rw [h2, List.take_succ_cons, octs_cons, Nat.add_assoc p]
set_option maxHeartbeats 4000000 in
theorem law_ss {G : GG} (F : Fns2 G) {ns : List Int} (hz : ns.length ≤ 63) {h₀ : Heap} {L ad : Addr} {cd : Value} {ok : Addr → Prop} (O : Cx.Ok ⟨G, h₀, envOf (dr2 16).name (dr2 16).scope L ad cd, ok, 3, True⟩) :
    SS ⟨G, h₀, envOf (dr2 16).name (dr2 16).scope L ad cd, ok, 3, True⟩ [(Str.ofString "script", .fr (.lst (ns.map .int)))] (dr2 16).body (fun fl _ => match fl with | .ret d => d = .bool true | _ => False) := by
  refine SS.cons ?_
  refine S1.tup (xs := [Str.ofString "first", Str.ofString "second", Str.ofString "third"]) O trivial (by rfl) (by show ∀ x ∈ _, (dr2 16).scope.names.lookup x = some .local; decide +kernel) ?_ (by rfl) (by rfl)
  refine SE.call (k := 1) (nh := True) O ?_ F.hc.fn (Nat.le_of_ble_eq_true rfl) (fun _ => trivial) (by rfl)
  repeat walk_at "pw"
  refine Spec.mono (cells_spec F (Nat.le_trans hz (by decide))) ?_
  rintro _ ⟨a, b, c, rfl⟩
  refine ⟨rfl, ?_⟩
  refine SS.sub (σ' := [(Str.ofString "first", .fr (.int a)), (Str.ofString "second", .fr (.int b)), (Str.ofString "third", .fr (.int c))]) (Sub.cons (by rfl) (Sub.cons (by rfl) (Sub.cons (by rfl) Sub.nil))) ?_
  obtain ⟨s, hs, hs0, hs1⟩ : ∃ s : Nat, 1 + a.fmod (2 ^ (32 : Int).toNat - 1) = s ∧ s ≠ 0 ∧ s < 2 ^ 32 := by
    rw [fmod_pos (by decide)]
    have h1 := Int.emod_nonneg a (show (2 ^ (32 : Int).toNat - 1 : Int) ≠ 0 by decide)
    have h2 := Int.emod_lt_of_pos a (show (0 : Int) < 2 ^ (32 : Int).toNat - 1 by decide)
    have h3 : (2 ^ (32 : Int).toNat - 1 : Int) = 4294967295 := by decide
    rw [h3] at h1 h2 ⊢
    exact ⟨(1 + a % 4294967295).toNat, by omega, by omega, by omega⟩
  obtain ⟨cN, hc, hc1, hc2⟩ : ∃ cN : Nat, 1 + b.fmod 12 = cN ∧ 1 ≤ cN ∧ cN ≤ 12 := by
    rw [fmod_pos (by decide)]
    exact ⟨(1 + b % 12).toNat, by omega, by omega, by omega⟩
  refine SS.to [(Str.ofString "second", .fr (.int b)), (Str.ofString "third", .fr (.int c)), (Str.ofString "start", .fr (.int (s : Nat)))] ?_ ?_
  · repeat walk_at "pw"
    refine ⟨by decide, by decide, by decide, ?_⟩
    repeat walk_at "pw"
    refine ⟨by decide, ?_⟩
    repeat walk_at "pw"
    rw [hs]
    exact ⟨rfl, (Sub.cons (by rfl) (Sub.cons (by rfl) (Sub.cons (by rfl) Sub.nil)))⟩
  refine SS.to [(Str.ofString "third", .fr (.int c)), (Str.ofString "start", .fr (.int (s : Nat))), (Str.ofString "count", .fr (.int (cN : Nat)))] ?_ ?_
  · repeat walk_at "pw"
    refine ⟨by decide, ?_⟩
    repeat walk_at "pw"
    rw [hc]
    exact ⟨rfl, (Sub.cons (by rfl) (Sub.cons (by rfl) (Sub.cons (by rfl) Sub.nil)))⟩
  generalize hbias : c.fmod 220 - 40 = bias
  refine SS.to [(Str.ofString "start", .fr (.int (s : Nat))), (Str.ofString "count", .fr (.int (cN : Nat))), (Str.ofString "bias", .fr (.int bias))] ?_ ?_
  · repeat walk_at "pw"
    refine ⟨by decide, ?_⟩
    repeat walk_at "pw"
    rw [hbias]
    exact ⟨rfl, (Sub.cons (by rfl) (Sub.cons (by rfl) (Sub.cons (by rfl) Sub.nil)))⟩
  refine SS.to [(Str.ofString "start", .fr (.int (s : Nat))), (Str.ofString "count", .fr (.int (cN : Nat))), (Str.ofString "bias", .fr (.int bias)), (Str.ofString "register", .fr (.int (stps (8 * 0) s : Nat)))] ?_ ?_
  · repeat walk_at "pw"
    exact ⟨rfl, (Sub.cons (by rfl) (Sub.cons (by rfl) (Sub.cons (by rfl) (Sub.cons (by rfl) Sub.nil))))⟩
  refine SS.to [(Str.ofString "start", .fr (.int (s : Nat))), (Str.ofString "count", .fr (.int (cN : Nat))), (Str.ofString "bias", .fr (.int bias)), (Str.ofString "register", .fr (.int (stps (8 * cN) s : Nat)))] ?_ ?_
  · refine S1.for O trivial ?_ (by rfl)
    repeat walk_at "pw"
    · refine ⟨_, if_pos (by omega), fun i σ' => σ' = [(Str.ofString "start", .fr (.int (s : Nat))), (Str.ofString "count", .fr (.int (cN : Nat))), (Str.ofString "bias", .fr (.int bias)), (Str.ofString "register", .fr (.int (stps (8 * i) s : Nat)))], ⟨_, (Sub.cons (by rfl) (Sub.cons (by rfl) (Sub.cons (by rfl) (Sub.cons (by rfl) Sub.nil)))), rfl⟩, ?_, ?_⟩
      · rintro i d σ' hd rfl
        show SS _ _ _ _
        refine SS.cons ?_
        repeat walk_at "pw"
        refine ⟨_, ?_, rfl⟩
        rw [stps_add, show 8 * i + 8 = 8 * (i + 1) by omega]
        exact (Sub.cons (by rfl) (Sub.cons (by rfl) (Sub.cons (by rfl) (Sub.cons (by rfl) Sub.nil))))
      · rintro σ' rfl
        rw [List.length_map, List.length_range, Int.toNat_natCast]
        exact ⟨rfl, (Sub.cons (by rfl) (Sub.cons (by rfl) (Sub.cons (by rfl) (Sub.cons (by rfl) Sub.nil))))⟩
    · omega
  have hR1 : stps (8 * cN) s < 2 ^ 32 := stps_lt hs1
  have hR0 : stps (8 * cN) s ≠ 0 := stps_ne hs1 hs0
  generalize hR : stps (8 * cN) s = R at hR1 hR0 ⊢
  refine SS.to [(Str.ofString "start", .fr (.int (s : Nat))), (Str.ofString "count", .fr (.int (cN : Nat))), (Str.ofString "bias", .fr (.int bias)), (Str.ofString "register", .fr (.int (R : Nat))), (Str.ofString "octets", .ow []), (Str.ofString "due", .ow [])] ?_ ?_
  · refine S1.slots (xs := [Str.ofString "octets", Str.ofString "due"]) O trivial (by show ∀ x ∈ _, (dr2 16).scope.names.lookup x = some .local; decide +kernel) ?_ (by decide) (by rfl) (by rfl)
    refine SD.ow (SD.ow (SD.nil ⟨rfl, rfl, ?_⟩))
    exact (Sub.cons (by rfl) (Sub.cons (by rfl) (Sub.cons (by rfl) (Sub.cons (by rfl) (Sub.cons (by rfl) (Sub.cons (by rfl) Sub.nil))))))
  refine SS.cons ?_
  refine S1.for O trivial ?_ (by rfl)
  refine SE.call (k := 2) (nh := True) O ?_ F.hq.fn (Nat.le_of_ble_eq_true rfl) (fun _ => trivial) (by rfl)
  repeat walk_at "pw"
  refine Spec.mono (quotients_spec F (A := CC) (B := R) (by rw [CC_bl]; decide) (Nat.le_trans (bl_le.mpr hR1) (by decide))) ?_
  rintro _ ⟨row, g, rfl, hE⟩
  obtain rfl : g = 1 := hE.gcd_one hR0 hR1
  have hbR : bl R < bl CC := by rw [CC_bl]; have := bl_le.mpr hR1; omega
  obtain ⟨hdeg1, hdeg2⟩ := hE.degrees hbR
  have hlen := hE.len hbR
  rw [CC_bl] at hdeg2 hlen
  have hbq : ∀ q ∈ row, bl q ≤ 33 := sum_lt_bl (k := 32) (by have : bl 1 = 1 := rfl; omega)
  refine ⟨_, rfl, fun i σ' => ∃ segs : List (Nat × List Int), segs.map (·.1) = row.take i ∧ Segs bias segs ∧ (octs segs).length ≤ 40 * i ∧ σ' = [(Str.ofString "start", .fr (.int (s : Nat))), (Str.ofString "count", .fr (.int (cN : Nat))), (Str.ofString "bias", .fr (.int bias)), (Str.ofString "register", .fr (.int (R : Nat))), (Str.ofString "octets", .ow ((octs segs).map .int)), (Str.ofString "due", .ow (ends 0 segs))], ⟨_, (Sub.cons (by rfl) (Sub.cons (by rfl) (Sub.cons (by rfl) (Sub.cons (by rfl) (Sub.cons (by rfl) (Sub.cons (by rfl) Sub.nil)))))), [], rfl, (fun _ h => nomatch h), Nat.zero_le _, rfl⟩, ?_, ?_⟩
  · rintro i d σ' hd ⟨segs, hrow, hsegs, hol, rfl⟩
    obtain ⟨q, hqi, hqd⟩ : ∃ q, row[i]? = some q ∧ d = .int (q : Nat) := by
      rw [List.getElem?_map] at hd
      cases h : row[i]? with
      | none => rw [h] at hd; cases hd
      | some q => rw [h] at hd; cases hd; exact ⟨q, rfl, rfl⟩
    subst hqd
    have hil : i < row.length := (List.getElem?_eq_some_iff.mp hqi).1
    have hsl : segs.length = i := by
      have := congrArg List.length hrow
      rw [List.length_map, List.length_take] at this; omega
    have hq33 := hbq q (List.mem_of_getElem? hqi)
    show SS _ _ _ _
    refine SS.cons ?_
    refine S1.augL O (by rfl) ?_ (by rfl)
    refine SE.call (k := 1) (nh := True) O ?_ F.hn.fn (Nat.le_of_ble_eq_true rfl) (fun _ => trivial) (by rfl)
    repeat walk_at "pw"
    refine Spec.mono (numeral_spec F q bias (Nat.le_trans hq33 (by decide))) ?_
    rintro _ ⟨ds, rfl, hN, hdl⟩
    refine ⟨by rw [List.length_map, List.length_map]; omega, ?_⟩
    refine SS.sub (σ' := [(Str.ofString "start", .fr (.int (s : Nat))), (Str.ofString "count", .fr (.int (cN : Nat))), (Str.ofString "bias", .fr (.int bias)), (Str.ofString "register", .fr (.int (R : Nat))), (Str.ofString "octets", .ow ((octs (segs ++ [(q, ds)])).map .int)), (Str.ofString "due", .ow (ends 0 segs)), (Str.ofString "quotient", .fr (.int (q : Nat)))]) ?_ ?_
    · rw [octs_append, List.map_append]
      have : octs [(q, ds)] = ds := by unfold octs; simp
      rw [this]
      exact (Sub.cons (by rfl) (Sub.cons (by rfl) (Sub.cons (by rfl) (Sub.cons (by rfl) (Sub.cons (by rfl) (Sub.cons (by rfl) (Sub.cons (by rfl) Sub.nil)))))))
    refine SS.cons ?_
    refine S1.append O (by rfl) ?_ ?_ (by rfl) (by rfl)
    · rw [ends_length]; omega
    refine SE.tuple (SEs.cons (SE.flat ?_) (by intro _; rfl))
    repeat walk_at "pw"
    refine ⟨by rw [List.length_map, octs_append, List.length_append]; have : octs [(q, ds)] = ds := by (unfold octs; simp)
               rw [this]; omega, trivial, ?_⟩
    repeat walk_at "pw"
    refine ⟨Nat.le_of_ble_eq_true rfl, ?_⟩
    repeat walk_at "pw"
    refine ⟨_, ?_, segs ++ [(q, ds)], ?_, ?_, ?_, rfl⟩
    · have e2 : ends 0 (segs ++ [(q, ds)]) = ends 0 segs ++ [.tup [.int (((octs (segs ++ [(q, ds)])).map D.int).length : Nat), .int q]] := by
        rw [ends_append, Nat.zero_add, List.length_map, octs_append, List.length_append]
        have : octs [(q, ds)] = ds := by unfold octs; simp
        rw [this]; rfl
      rw [e2]
      exact (Sub.cons (by rfl) (Sub.cons (by rfl) (Sub.cons (by rfl) (Sub.cons (by rfl) (Sub.cons (by rfl) (Sub.cons (by rfl) Sub.nil))))))
    · rw [List.map_append, hrow, List.take_add_one, hqi]; rfl
    · intro s' hs'
      rcases List.mem_append.mp hs' with h | h
      · exact hsegs s' h
      · rw [List.mem_singleton.mp h]; exact hN
    · rw [octs_append, List.length_append]
      have : octs [(q, ds)] = ds := by unfold octs; simp
      rw [this]; omega
  rintro σ' ⟨segs, hrow, hsegs, hol, rfl⟩
  rw [List.length_map] at hol
  rw [List.length_map, List.take_length] at hrow
  have hsl : segs.length = row.length := by rw [← hrow, List.length_map]
  refine SS.freeze (x := Str.ofString "octets") (ds := (octs segs).map .int) (by rfl) ?_
  refine SS.freeze (x := Str.ofString "due") (ds := ends 0 segs) (by rfl) ?_
  have hob : (octs segs).length ≤ 100000 := by omega
  refine SS.to [(Str.ofString "start", .fr (.int (s : Nat))), (Str.ofString "count", .fr (.int (cN : Nat))), (Str.ofString "bias", .fr (.int bias)), (Str.ofString "register", .fr (.int (R : Nat))), (Str.ofString "octets", .fr (.lst ((octs segs).map .int))), (Str.ofString "told", .fr (.lst (ends 0 segs))), (Str.ofString "due", .fr (.lst (ends 0 segs)))] ?_ ?_
  · refine S1.assign O ?_ (by rfl)
    refine SE.call (k := 3) (nh := True) O ?_ F.hr.fn (Nat.le_of_ble_eq_true rfl) (fun _ => trivial) (by rfl)
    repeat walk_at "pw"
    refine BSpec.bytes trivial hsegs.range (Nat.le_trans hob (by decide)) ?_
    repeat walk_at "pw"
    refine Spec.mono (read_spec F hsegs hob (by omega)) ?_
    rintro _ rfl
    exact ⟨rfl, (Sub.cons (by rfl) (Sub.cons (by rfl) (Sub.cons (by rfl) (Sub.cons (by rfl) (Sub.cons (by rfl) (Sub.cons (by rfl) (Sub.cons (by rfl) Sub.nil)))))))⟩
  have hnz : ∀ s ∈ segs, s.1 ≠ 0 ∧ bl s.1 ≤ 100 := fun s' hs' => by
    have hm : s'.1 ∈ row := by rw [← hrow]; exact List.mem_map.mpr ⟨s', hs', rfl⟩
    have h1 := hdeg1 _ hm
    have h2 := hbq _ hm
    exact ⟨fun e => by rw [e, bl_zero] at h1; omega, by omega⟩
  refine SS.to [(Str.ofString "start", .fr (.int (s : Nat))), (Str.ofString "count", .fr (.int (cN : Nat))), (Str.ofString "bias", .fr (.int bias)), (Str.ofString "register", .fr (.int (R : Nat))), (Str.ofString "octets", .fr (.lst ((octs segs).map .int))), (Str.ofString "told", .fr (.lst (ends 0 segs)))] ?_ ?_
  · repeat walk_at "pw"
    refine ⟨by decide, ?_⟩
    repeat walk_at "pw"
    have e1 : (R : Int).fdiv (2 ^ (32 : Int).toNat) = 0 := by
      have := fdiv_nat R 32
      rw [Nat.div_eq_of_lt hR1] at this
      simpa using this
    rw [e1, if_neg (by decide)]
    refine ST.or (ST.same ?_)
    repeat walk_at "pw"
    refine ⟨rfl, okD_ends, ?_⟩
    show ST _ _ _ _
    repeat walk_at "pw"
    refine SE.comp O trivial ?_ ?_ ?_ ?_ (by rfl) ?_
    · repeat walk_at "pw"
      refine ⟨_, (segs.map fun s => (bl s.1 : Int) - 1).map D.int, rfl, by rw [List.length_map, List.length_map, ends_length], by rw [ends_length]; omega, ?_, ?_, ?_⟩
      · intro r hr
        obtain ⟨n, _, rfl⟩ := List.mem_map.mp hr
        trivial
      · repeat walk_at "pw"
        refine BSpec.sum trivial ?_
        repeat walk_at "pw"
        have es : ∀ l : List (Nat × List Int), (∀ s ∈ l, s.1 ≠ 0) → (l.map fun s => (bl s.1 : Int) - 1).sum = (((l.map (·.1)).map fun q => bl q - 1).sum : Nat) := by
          intro l
          induction l with
          | nil => intro _; rfl
          | cons s l ih =>
            intro h
            rw [List.map_cons, List.sum_cons, ih fun s' hs' => h s' (List.mem_cons_of_mem _ hs'), List.map_cons, List.map_cons, List.sum_cons]
            have := bl_pos (h s (List.mem_cons_self ..))
            omega
        rw [es segs fun s' hs' => (hnz s' hs').1, hrow, show (row.map fun q => bl q - 1).sum = 32 by have : bl 1 = 1 := rfl; omega, if_neg (by decide)]
        refine ST.or_nil ?_
        show SS _ _ _ _
        repeat walk_at "pw"
        exact ⟨rfl, (Sub.cons (by rfl) (Sub.cons (by rfl) (Sub.cons (by rfl) (Sub.cons (by rfl) (Sub.cons (by rfl) (Sub.cons (by rfl) Sub.nil))))))⟩
      · intro i d r hd hr h₀' e' ok' O'
        obtain ⟨q, ds, hi, rfl⟩ := ends_get 0 i segs hd
        rw [List.getElem?_map, List.getElem?_map, hi] at hr
        cases hr
        refine ⟨_, rfl, rfl, ?_⟩
        repeat walk_at "pw"
        rw [intBits_nat]
    · intro h₀' e' ok'
      intro xs e
      cases e
      intro x hx
      rcases List.mem_cons.mp hx with rfl | hx
      · rfl
      · rw [List.mem_singleton.mp hx]; rfl
    · decide +kernel
    · decide +kernel
    · decide +kernel
  refine SS.to [(Str.ofString "start", .fr (.int (s : Nat))), (Str.ofString "count", .fr (.int (cN : Nat))), (Str.ofString "bias", .fr (.int bias)), (Str.ofString "register", .fr (.int (R : Nat))), (Str.ofString "octets", .fr (.lst ((octs segs).map .int))), (Str.ofString "told", .fr (.lst (ends 0 segs))), (Str.ofString "turned", .ow []), (Str.ofString "place", .fr (.int ((0 : Nat) : Int)))] ?_ ?_
  · refine S1.slots (xs := [Str.ofString "turned", Str.ofString "place"]) O trivial (by show ∀ x ∈ _, (dr2 16).scope.names.lookup x = some .local; decide +kernel) ?_ (by decide) (by rfl) (by rfl)
    refine SD.ow (SD.fl ?_)
    repeat walk_at "pw"
    refine ⟨trivial, SD.nil ⟨rfl, rfl, ?_⟩⟩
    exact (Sub.cons (by rfl) (Sub.cons (by rfl) (Sub.cons (by rfl) (Sub.cons (by rfl) (Sub.cons (by rfl) (Sub.cons (by rfl) (Sub.cons (by rfl) (Sub.cons (by rfl) Sub.nil))))))))
  refine SS.freeze (x := Str.ofString "turned") (ds := []) (by rfl) ?_
  refine SS.to [(Str.ofString "start", .fr (.int (s : Nat))), (Str.ofString "count", .fr (.int (cN : Nat))), (Str.ofString "bias", .fr (.int bias)), (Str.ofString "register", .fr (.int (R : Nat))), (Str.ofString "octets", .fr (.lst ((octs segs).map .int))), (Str.ofString "told", .fr (.lst (ends 0 segs))), (Str.ofString "turned", .fr (.lst ((octs segs.reverse).map .int)))] ?_ ?_
  · refine S1.for O trivial ?_ (by intro xs e; cases e; show ∀ x ∈ _, (dr2 16).scope.names.lookup x = some .local; decide +kernel)
    repeat walk_at "pw"
    refine ⟨_, rfl, fun i σ' => σ' = [(Str.ofString "start", .fr (.int (s : Nat))), (Str.ofString "count", .fr (.int (cN : Nat))), (Str.ofString "bias", .fr (.int bias)), (Str.ofString "register", .fr (.int (R : Nat))), (Str.ofString "octets", .fr (.lst ((octs segs).map .int))), (Str.ofString "told", .fr (.lst (ends 0 segs))), (Str.ofString "turned", .fr (.lst ((octs (segs.take i).reverse).map .int))), (Str.ofString "place", .fr (.int ((octs (segs.take i)).length : Nat)))], ⟨_, (Sub.cons (by rfl) (Sub.cons (by rfl) (Sub.cons (by rfl) (Sub.cons (by rfl) (Sub.cons (by rfl) (Sub.cons (by rfl) (Sub.cons (by rfl) (Sub.cons (by rfl) Sub.nil)))))))), rfl⟩, ?_, ?_⟩
    · rintro i d σ' hd rfl
      obtain ⟨q, ds, hi, rfl⟩ := ends_get 0 i segs hd
      have hil : i < segs.length := (List.getElem?_eq_some_iff.mp hi).1
      refine ⟨_, rfl, rfl, ?_⟩
      refine SS.cons (S1.assign O ?_ (by rfl))
      refine SE.bin O ?_
      refine SE.cut O ?_
      repeat walk_at "pw"
      have hsp : segs = segs.take i ++ (q, ds) :: segs.drop (i + 1) := by
        conv => lhs; rw [← List.take_append_drop i segs, List.drop_eq_getElem_cons hil]
        rw [(List.getElem?_eq_some_iff.mp hi).2]
      have hdr : (octs segs).drop (octs (segs.take i)).length = ds ++ octs (segs.drop (i + 1)) := by
        conv => lhs; rw [hsp]
        rw [← hsp]
        have := @octs_drop (segs.take i) (segs.drop (i + 1)) q ds
        rwa [← hsp] at this
      have hle : (octs (segs.take i)).length + ds.length ≤ (octs segs).length := by
        have := congrArg List.length hdr
        rw [List.length_drop, List.length_append] at this
        have h1 : (octs segs).length = (octs (segs.take i)).length + (ds.length + (octs (segs.drop (i + 1))).length) := by
          conv => lhs; rw [hsp]
          rw [octs_append, List.length_append, octs_cons]
        omega
      refine ⟨by rw [List.length_map]; exact Nat.le_trans hob (by decide), Int.natCast_nonneg _, by omega, by rw [List.length_map]; omega, ?_⟩
      have hcut : ((((octs segs).map D.int).drop ((octs (segs.take i)).length : Int).toNat).take (((0 + (octs (segs.take i)).length + ds.length : Nat) : Int).toNat - ((octs (segs.take i)).length : Int).toNat)) = ds.map D.int := by
        rw [Int.toNat_natCast, Int.toNat_natCast, ← List.map_drop, ← List.map_take, hdr, show 0 + (octs (segs.take i)).length + ds.length - (octs (segs.take i)).length = ds.length by omega, List.take_left']
        rfl
      rw [hcut]
      repeat walk_at "pw"
      have hrl : (octs (segs.take i).reverse).length ≤ 100000 := by
        have h1 : ∀ l : List (Nat × List Int), (octs l.reverse).length = (octs l).length := by
          intro l
          induction l with
          | nil => rfl
          | cons s l ih => obtain ⟨q, ds⟩ := s; rw [List.reverse_cons, octs_append, List.length_append, ih, octs_cons, octs_cons]; show _ + (_ + 0) = _; omega
        rw [h1]; omega
      refine ⟨by rw [List.length_map, List.length_map]; exact Nat.le_trans (show _ ≤ 200000 by omega) (by decide), ?_⟩
      refine SS.cons ?_
      repeat walk_at "pw"
      refine ⟨_, ?_, rfl⟩
      rw [List.take_add_one, hi, Option.toList_some, List.reverse_append, octs_append, octs_append, List.length_append, List.map_append]
      have e1 : octs [(q, ds)] = ds := by unfold octs; simp
      rw [show [(q, ds)].reverse = [(q, ds)] from rfl, e1, show ((0 + (octs (segs.take i)).length + ds.length : Nat)) = (octs (segs.take i)).length + ds.length by omega]
      exact (Sub.cons (by rfl) (Sub.cons (by rfl) (Sub.cons (by rfl) (Sub.cons (by rfl) (Sub.cons (by rfl) (Sub.cons (by rfl) (Sub.cons (by rfl) (Sub.cons (by rfl) Sub.nil))))))))
    · rintro σ' rfl
      rw [ends_length, List.take_length]
      exact ⟨rfl, (Sub.cons (by rfl) (Sub.cons (by rfl) (Sub.cons (by rfl) (Sub.cons (by rfl) (Sub.cons (by rfl) (Sub.cons (by rfl) (Sub.cons (by rfl) Sub.nil)))))))⟩
  refine SS.to [(Str.ofString "start", .fr (.int (s : Nat))), (Str.ofString "count", .fr (.int (cN : Nat))), (Str.ofString "bias", .fr (.int bias)), (Str.ofString "register", .fr (.int (R : Nat))), (Str.ofString "octets", .fr (.lst ((octs segs).map .int))), (Str.ofString "told", .fr (.lst (ends 0 segs)))] ?_ ?_
  · have hrs : Segs bias segs.reverse := fun s' hs' => hsegs s' (List.mem_reverse.mp hs')
    have hrl : (octs segs.reverse).length ≤ 100000 := by
      have h1 : ∀ l : List (Nat × List Int), (octs l.reverse).length = (octs l).length := by
        intro l
        induction l with
        | nil => rfl
        | cons s l ih => obtain ⟨q, ds⟩ := s; rw [List.reverse_cons, octs_append, List.length_append, ih, octs_cons, octs_cons]; show _ + (_ + 0) = _; omega
      rw [h1]; exact hob
    refine S1.ife (ST.same ?_)
    refine SE.call (k := 3) (nh := True) O ?_ F.hl.fn (Nat.le_of_ble_eq_true rfl) (fun _ => trivial) (by rfl)
    repeat walk_at "pw"
    refine SE.call (k := 3) (nh := True) O ?_ F.hr.fn (Nat.le_of_ble_eq_true rfl) (fun _ => trivial) (by rfl)
    repeat walk_at "pw"
    refine BSpec.bytes trivial hrs.range (Nat.le_trans hrl (by decide)) ?_
    repeat walk_at "pw"
    refine Spec.mono (read_spec F hrs hrl (by rw [List.length_reverse]; omega)) ?_
    rintro _ rfl
    repeat walk_at "pw"
    refine Spec.mono (laid_spec F (p := 0) (segs := segs.reverse) (fun s' hs' => hnz s' (List.mem_reverse.mp hs')) (by rw [List.length_reverse]; omega)) ?_
    rintro _ rfl
    repeat walk_at "pw"
    rw [List.map_reverse, hrow, hE.lay_reverse]
    refine ⟨Nat.le_of_ble_eq_true rfl, rfl, rfl, ?_⟩
    show SS _ _ _ _
    repeat walk_at "pw"
    exact ⟨rfl, (Sub.cons (by rfl) (Sub.cons (by rfl) (Sub.cons (by rfl) (Sub.cons (by rfl) (Sub.cons (by rfl) (Sub.cons (by rfl) Sub.nil))))))⟩
  refine SS.cons ?_
  refine S1.assign O ?_ (by rfl)
  refine SE.call (k := 2) (nh := True) O ?_ F.hs.fn (Nat.le_of_ble_eq_true rfl) (fun _ => trivial) (by rfl)
  repeat walk_at "pw"
  refine SE.call (k := 3) (nh := True) O ?_ F.hl.fn (Nat.le_of_ble_eq_true rfl) (fun _ => trivial) (by rfl)
  repeat walk_at "pw"
  refine Spec.mono (laid_spec F (p := 0) (segs := segs) hnz (by omega)) ?_
  rintro _ rfl
  repeat walk_at "pw"
  refine ⟨by decide, by decide, _, rfl, ?_⟩
  repeat walk_at "pw"
  rw [hrow]
  have hlb : bl (lay row).2 ≤ 10000 := by
    have := lay_bound row (1, 0) 1 (fun q hq => Nat.le_trans (hbq q hq) (by decide)) (by decide) (by decide)
    unfold lay
    omega
  have hsb : bl s ≤ 32 := bl_le.mpr hs1
  refine Spec.mono (times_spec F hs0 (Nat.le_trans hlb (by decide)) (Nat.le_trans hsb (by decide))) ?_
  rintro _ rfl
  repeat walk_at "pw"
  have hcb : bl (cm (lay row).2 s) ≤ 100000 := by
    by_cases h0 : (lay row).2 = 0
    · rw [h0, zero_cm, bl_zero]; omega
    · have := bl_cm h0 hs0; omega
  refine Spec.mono (rest_spec F hcb) ?_
  rintro _ ⟨w, rfl, hw1, hw2⟩
  have hway : w = wt cN := way_is (by omega) (hR ▸ hE) hw1 hw2
  subst hway
  refine SS.sub (σ' := [(Str.ofString "count", .fr (.int (cN : Nat))), (Str.ofString "way", .fr (.int (wt cN : Nat)))]) (Sub.cons (by rfl) (Sub.cons (by rfl) Sub.nil)) ?_
  refine SS.to [(Str.ofString "count", .fr (.int (cN : Nat))), (Str.ofString "way", .fr (.int (wt cN : Nat))), (Str.ofString "steps", .fr (.int ((0 : Nat) : Int)))] ?_ ?_
  · repeat walk_at "pw"
    exact ⟨rfl, (Sub.cons (by rfl) (Sub.cons (by rfl) (Sub.cons (by rfl) Sub.nil)))⟩
  refine SS.cons ?_
  refine S1.while (fun n σ' => ∃ k, n = cN - k ∧ k ≤ cN - 3 ∧ σ' = [(Str.ofString "count", .fr (.int (cN : Nat))), (Str.ofString "way", .fr (.int (wt (cN - k) : Nat))), (Str.ofString "steps", .fr (.int (k : Nat)))]) ?_ ?_
  · exact ⟨_, _, (Sub.cons (by rfl) (Sub.cons (by rfl) (Sub.cons (by rfl) Sub.nil))), 0, rfl, Nat.zero_le _, rfl⟩
  rintro n σ' ⟨k, rfl, hk, rfl⟩
  repeat walk_at "pw"
  rw [if_pos (decide_eq_true (show (k : Int) < cN by omega))]
  repeat walk_at "pw"
  rw [isbI_nat, wt_sb (by omega)]
  by_cases h3 : cN - k ≤ 3
  · rw [decide_eq_true h3]
    show SS _ _ _ _
    have hsb3 : isbI (wt (cN - k) : Nat) = true := by rw [isbI_nat, wt_sb (by omega)]; exact decide_eq_true h3
    refine SS.to [(Str.ofString "count", .fr (.int (cN : Nat))), (Str.ofString "way", .fr (.int (wt (cN - k) : Nat))), (Str.ofString "steps", .fr (.int (k : Nat)))] ?_ ?_
    · repeat walk_at "pw"
      rw [hsb3]
      show ST _ _ _ _
      repeat walk_at "pw"
      rw [isbI_neg]
      show ST _ _ _ _
      repeat walk_at "pw"
      rw [show isbI 0 = false from rfl]
      show ST _ _ _ _
      refine ST.or_nil ?_
      show SS _ _ _ _
      repeat walk_at "pw"
      exact ⟨rfl, (Sub.cons (by rfl) (Sub.cons (by rfl) (Sub.cons (by rfl) Sub.nil)))⟩
    refine SS.cons ?_
    refine S1.ret ?_
    refine SE.and ?_
    repeat walk_at "pw"
    rw [decide_eq_true (show (k : Int) = if (cN : Int) - 3 > 0 then (cN : Int) - 3 else 0 by split <;> omega)]
    show SE _ _ _ _ _
    refine SE.bool_one ?_
    repeat walk_at "pw"
    refine ⟨.of_left (intBits_le_64 (by decide) (by decide)), ?_⟩
    repeat walk_at "pw"
    refine ⟨.of_left (intBits_le_64 (by decide) (by decide)), ?_⟩
    rw [intBits_nat, wt_bl (by omega)]
    refine congrArg D.bool (decide_eq_true ?_)
    omega
  · rw [decide_eq_false h3]
    show ST _ _ _ _
    refine ST.and_nil ?_
    show SS _ _ _ _
    refine SS.cons ?_
    repeat walk_at "pw"
    have e : stps 8 (wt (cN - k)) = wt (cN - (k + 1)) := by
      have := wt_stps (j := cN - (k + 1)) (by omega)
      rwa [show cN - (k + 1) + 1 = cN - k by omega] at this
    rw [e]
    refine ⟨cN - (k + 1), by omega, _, ?_, k + 1, rfl, by omega, rfl⟩
    exact (Sub.cons (by rfl) (Sub.cons (by rfl) (Sub.cons (by rfl) Sub.nil)))
end Mine
end
section
set_option maxRecDepth 100000
open PySem PySem.W PyProof.Rows PySem.Calls
namespace Mine

theorem ints_reps {h : Heap} {ok : Addr → Prop} {vs : List Value} {ns : List Int} (H : IntsAre vs ns) : Reps h ok vs (ns.map .int) := by
  induction H with
  | nil => exact .nil
  | cons n t _ ih => exact .cons (.int n t) ih

theorem HasDef.ofTop {p prog : Program} {w : World} {loose : List Str} {mean : ExcName → Option Value} {mg mb : Str → Option Value} {h : Heap} (T : Top p loose mean mg mb h) {d : DefRec} {i : Nat} (hd : (recsOf p)[i]? = some d) : HasDef ⟨prog, w, mg, mb, h⟩ d :=
  T.fn d (List.mem_of_getElem? hd)
theorem built_of {p : Program} {loose : List Str} {mean : ExcName → Option Value} {mg mb : Str → Option Value} {h : Heap} (T : Top p loose mean mg mb h) {x : Str} {v : Value}
    (h1 : x ∉ startupNames) (h2 : x ∉ loose) (h3 : x ∉ (recsOf p).map (·.name)) (h4 : x ∉ (litsOf p).map (·.1)) (h5 : x ∉ (clssOf p loose).map (·.name)) (hn : x ≠ "__name__") (hv : bootBuiltins x = some v) : mg x = none ∧ mb x = some v :=
  ⟨T.free x h1 h2 h3 h4 h5, by rw [T.builtins x hn]; exact hv⟩
theorem gg_ok {p prog : Program} {w : World} {loose : List Str} {mean : ExcName → Option Value} {mg mb : Str → Option Value} {h : Heap} (T : Top p loose mean mg mb h) : GG.Ok ⟨prog, w, mg, mb, h⟩ := ⟨T.g, T.b, T.nolimit⟩

theorem start_st {h₀ h : Heap} {L l : Addr} {m : Str → Option Value} (F : Fr h₀ L h m) {vs : List Value} {ns : List Int} (hm : m (Str.ofString "script") = some (.ref l)) (hL : h₀.IsList l vs.toArray) (hI : IntsAre vs ns) :
    Mine.St h₀ (fun _ => True) L [(Str.ofString "script", .fr (.lst (ns.map .int)))] h m where
  F := F
  sl := fun x sl hx => by
    by_cases e : x = Str.ofString "script"
    · subst e
      rw [List.lookup_cons_self] at hx
      cases hx
      refine ⟨_, hm, .lst ⟨trivial, fun y ds hy => ?_⟩ ?_ (ints_reps hI)⟩
      · exfalso
        by_cases e : y = Str.ofString "script"
        · subst e; rw [List.lookup_cons_self] at hy; cases hy
        · rw [List.lookup_cons, beq_eq_false_iff_ne.mpr e] at hy; cases hy
      · obtain ⟨o, ho, hc, n, hd⟩ := hL
        exact ⟨o, F.keep _ _ ho, hc, n, hd⟩
    · rw [List.lookup_cons, beq_eq_false_iff_ne.mpr e] at hx; cases hx
  ap := fun x y ds es hx hy e => by
    exfalso
    by_cases e : x = Str.ofString "script"
    · subst e; rw [List.lookup_cons_self] at hx; cases hx
    · rw [List.lookup_cons, beq_eq_false_iff_ne.mpr e] at hx; cases hx
end Mine
end
open PySem PySem.W PyProof.Rows Mine
set_option maxRecDepth 100000 in
set_option maxHeartbeats 8000000 in
theorem PySem.Challenge.cw_wo0005_02_holds : PySem.Challenge.rw_wo0005_02.Holds := by
  w_on; o_law; k_head; (case hw => w_witness2); w_strict (k_go0; (all_goals try k_fold); (case hc =>
    rename_i w s₀ s₁ mg mb _ _ _ _ _ _ _ _ _ _ _ _ _ T B TE TW _ _ M _ _ _ ns _ _ _ _ _ _ _ l vs _ hL _ _ _ hI _ hcond _ K0 _ h₁ F N0
    have hlen : ns.length ≤ 63 := by omega
    have bi : ∀ (x : Str) (v : Value), x ∉ startupNames → x ∉ (looseW cw_wo0005_02_holds.view_39 []) → x ∉ (recsOf cw_wo0005_02_holds.view_39).map (·.name) → x ∉ (litsOf cw_wo0005_02_holds.view_39).map (·.1) → x ∉ (clssOf cw_wo0005_02_holds.view_39 (looseW cw_wo0005_02_holds.view_39 [])).map (·.name) → x ≠ "__name__" → bootBuiltins x = some v → mg x = none ∧ mb x = some v := fun x v => built_of T
    have F2 : Fns2 ⟨PySem.Challenge.rw_wo0005_02.row.prog, w, mg, mb, s₁.heap⟩ :=
      ⟨gg_ok T, .ofTop (i := 0) T (by rfl), .ofTop (i := 1) T (by rfl), .ofTop (i := 2) T (by rfl), .ofTop (i := 3) T (by rfl), .ofTop (i := 4) T (by rfl), .ofTop (i := 5) T (by rfl), .ofTop (i := 6) T (by rfl), .ofTop (i := 7) T (by rfl), .ofTop (i := 8) T (by rfl), .ofTop (i := 9) T (by rfl), .ofTop (i := 10) T (by rfl), .ofTop (i := 11) T (by rfl),
        bi _ _ (by decide +kernel) (by decide +kernel) (by decide +kernel) (by decide +kernel) (by decide +kernel) (by decide +kernel) (by rfl),
        bi _ _ (by decide +kernel) (by decide +kernel) (by decide +kernel) (by decide +kernel) (by decide +kernel) (by decide +kernel) (by rfl),
        bi _ _ (by decide +kernel) (by decide +kernel) (by decide +kernel) (by decide +kernel) (by decide +kernel) (by decide +kernel) (by rfl),
        bi _ _ (by decide +kernel) (by decide +kernel) (by decide +kernel) (by decide +kernel) (by decide +kernel) (by decide +kernel) (by rfl),
        bi _ _ (by decide +kernel) (by decide +kernel) (by decide +kernel) (by decide +kernel) (by decide +kernel) (by decide +kernel) (by rfl),
        bi _ _ (by decide +kernel) (by decide +kernel) (by decide +kernel) (by decide +kernel) (by decide +kernel) (by decide +kernel) (by rfl)⟩
    refine wpAny_mono (Mine.law_ss (G := ⟨PySem.Challenge.rw_wo0005_02.row.prog, w, mg, mb, s₁.heap⟩) (ok := fun _ => True) F2 hlen ⟨gg_ok T, by rfl, rfl, rfl, fun _ _ e => e, fun _ _ => trivial⟩ _ _ _ _ ⟨?_, ?_, fun _ => rfl⟩ (start_st F rfl hL hI) (fun fl fl' σ' m' h' tk hp hf S' st => ?_)) (fun _ _ x => x) (fun _ _ x => x.elim)
    · show callerA.depth + 1 + 3 < recursionLimit
      decide +kernel
    · show callerA.units + 3 + 20 * 3 + 100 < cLine
      decide +kernel
    · match fl', hp, hf with
      | .ret d, hp, .ret r =>
        subst hp
        cases r.bool_inv
        show GoodW _ _ _ _ _ (.ok (.ret (.bool true))) _
        refine goodW_bool S'.F (by assumption) (raisesW_false ?_) ?_ rfl
        · wrow_none_raised
        · wrow_post))
