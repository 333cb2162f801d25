import PyProof.Rows.All
import Wide.All
import OpenK.AllK
import Wide.FinOn
import PySem.Challenge.RW_wo0005_01
set_option Elab.async false
set_option autoImplicit false
set_option linter.all false
section
namespace Mine

def bl (n : Nat) : Nat := if n = 0 then 0 else n.log2 + 1
theorem bl_zero : bl 0 = 0 := rfl
theorem bl_le {n k : Nat} : bl n ≤ k ↔ n < 2 ^ k := by
  unfold bl
  by_cases h : n = 0
  · rw [if_pos h, h]; exact ⟨fun _ => Nat.two_pow_pos k, fun _ => Nat.zero_le _⟩
  · rw [if_neg h]
    rw [← Nat.log2_lt h]
    omega
theorem bl_pos {n : Nat} (h : n ≠ 0) : 0 < bl n := by unfold bl; rw [if_neg h]; omega
theorem lt_bl {n k : Nat} : k < bl n ↔ 2 ^ k ≤ n := by
  have := @bl_le n k; omega
theorem bl_eq {n k : Nat} (h1 : 2 ^ k ≤ n) (h2 : n < 2 ^ (k + 1)) : bl n = k + 1 := by
  have a := lt_bl.mpr h1
  have b := bl_le.mpr h2
  omega
theorem bl_half {n : Nat} (h : n ≠ 0) : bl n = bl (n / 2) + 1 := by
  rcases Nat.lt_or_ge n 2 with h1 | h1
  · have : n = 1 := by omega
    subst this; decide
  · have hp := bl_pos (show n / 2 ≠ 0 by omega)
    obtain ⟨k, hk⟩ : ∃ k, bl (n / 2) = k + 1 := ⟨bl (n/2) - 1, by omega⟩
    rw [hk]
    have a := lt_bl.mp (show k < bl (n / 2) by omega)
    have b := bl_le.mp (show bl (n / 2) ≤ k + 1 by omega)
    exact bl_eq (by rw [Nat.pow_succ]; omega) (by rw [Nat.pow_succ]; omega)
theorem bl_double {n : Nat} (h : n ≠ 0) : bl (2 * n) = bl n + 1 := by
  rw [bl_half (show 2 * n ≠ 0 by omega)]; congr 2; omega

theorem xor_lt {x y k : Nat} (hx : x < 2 ^ k) (hy : y < 2 ^ k) : x ^^^ y < 2 ^ k := Nat.xor_lt_two_pow hx hy
theorem bl_xor_le {x y k : Nat} (hx : bl x ≤ k) (hy : bl y ≤ k) : bl (x ^^^ y) ≤ k := bl_le.mpr (xor_lt (bl_le.mp hx) (bl_le.mp hy))
theorem bl_xor_lt {x y : Nat} (h : bl x < bl y) : bl (x ^^^ y) = bl y := by
  have h1 : bl (x ^^^ y) ≤ bl y := bl_xor_le (Nat.le_of_lt h) (Nat.le_refl _)
  rcases Nat.lt_or_ge (bl (x ^^^ y)) (bl y) with h2 | h2
  · obtain ⟨k, hk⟩ : ∃ k, bl y = k + 1 := ⟨bl y - 1, by omega⟩
    have h3 : bl (x ^^^ (x ^^^ y)) ≤ k := bl_xor_le (by omega) (by omega)
    rw [← Nat.xor_assoc, Nat.xor_self, Nat.zero_xor] at h3
    omega
  · omega
theorem bl_xor_lt' {x y : Nat} (h : bl y < bl x) : bl (x ^^^ y) = bl x := by rw [Nat.xor_comm]; exact bl_xor_lt h

theorem two_xor (x y : Nat) : 2 * (x ^^^ y) = (2 * x) ^^^ (2 * y) := by
  have := @Nat.shiftLeft_xor_distrib 1 x y
  simp only [Nat.shiftLeft_eq, Nat.pow_one] at this
  rw [Nat.mul_comm 2, Nat.mul_comm 2, Nat.mul_comm 2]; exact this
theorem pow_xor (x y k : Nat) : (x ^^^ y) * 2 ^ k = (x * 2 ^ k) ^^^ (y * 2 ^ k) := by
  have := @Nat.shiftLeft_xor_distrib k x y
  simpa only [Nat.shiftLeft_eq] using this
theorem xor_half (x y : Nat) : (x ^^^ y) / 2 = x / 2 ^^^ y / 2 := by
  exact Nat.xor_div_two
theorem bit_split (n : Nat) : n = (if n % 2 = 1 then 1 else 0) ^^^ (2 * (n / 2)) := by
  apply Nat.eq_of_testBit_eq
  intro i
  cases i with
  | zero =>
    rw [Nat.testBit_xor]
    by_cases h : n % 2 = 1 <;> simp [h, Nat.testBit_zero]
    
  | succ i =>
    rw [Nat.testBit_xor, Nat.testBit_succ, Nat.testBit_succ, Nat.testBit_succ]
    have : (if n % 2 = 1 then 1 else 0) / 2 = 0 := by split <;> rfl
    rw [this, Nat.zero_testBit, Bool.false_xor]
    congr 1; omega
theorem xor_swap (a b c d : Nat) : (a ^^^ b) ^^^ (c ^^^ d) = (a ^^^ c) ^^^ (b ^^^ d) := by
  rw [Nat.xor_assoc, Nat.xor_assoc, ← Nat.xor_assoc b, Nat.xor_comm b c, Nat.xor_assoc c]
theorem xor_zero_eq {a b : Nat} (h : a ^^^ b = 0) : a = b := by
  have : (a ^^^ b) ^^^ b = b := by rw [h, Nat.zero_xor]
  rwa [Nat.xor_assoc, Nat.xor_self, Nat.xor_zero] at this
theorem xor_cancel (a b : Nat) : (a ^^^ b) ^^^ b = a := by rw [Nat.xor_assoc, Nat.xor_self, Nat.xor_zero]
theorem xor_cancel' (a b : Nat) : a ^^^ (a ^^^ b) = b := by rw [← Nat.xor_assoc, Nat.xor_self, Nat.zero_xor]

/-! the product without carries -/
def cmF : Nat → Nat → Nat → Nat
  | 0, _, _ => 0
  | f + 1, a, b => (if b % 2 = 1 then a else 0) ^^^ (2 * cmF f a (b / 2))
def cm (a b : Nat) : Nat := cmF (b.log2 + 1) a b

theorem cmF_zero (f a : Nat) : cmF f a 0 = 0 := by
  induction f with
  | zero => rfl
  | succ f ih => rw [cmF, if_neg (by decide), Nat.zero_div, ih]; rfl
theorem cmF_eq (a : Nat) : ∀ (f g b : Nat), b < 2 ^ f → b < 2 ^ g → cmF f a b = cmF g a b
  | 0, g, b, h, _ => by have : b = 0 := by simpa using h
                        rw [this, cmF_zero, cmF_zero]
  | f, 0, b, _, h => by have : b = 0 := by simpa using h
                        rw [this, cmF_zero, cmF_zero]
  | f + 1, g + 1, b, h, h' => by
    rw [cmF, cmF, cmF_eq a f g (b / 2) (by rw [Nat.pow_succ] at h; omega) (by rw [Nat.pow_succ] at h'; omega)]
theorem lt_log2 (b : Nat) : b < 2 ^ (b.log2 + 1) := Nat.lt_log2_self
theorem cm_F {a b f : Nat} (h : b < 2 ^ f) : cm a b = cmF f a b := cmF_eq a _ _ b (lt_log2 b) h
theorem cm_step (a b : Nat) : cm a b = (if b % 2 = 1 then a else 0) ^^^ (2 * cm a (b / 2)) := by
  rw [cm, cmF]
  congr 2
  have := lt_log2 b
  exact (cm_F (by rw [Nat.pow_succ] at this; omega)).symm
theorem cm_zero (a : Nat) : cm a 0 = 0 := cmF_zero _ _
theorem cm_one (a : Nat) : cm a 1 = a := by rw [cm_step, if_pos rfl]; show a ^^^ 2 * cm a 0 = a; rw [cm_zero]; simp
theorem zero_cm (b : Nat) : cm 0 b = 0 := by
  induction b using Nat.strongRecOn with
  | _ b ih =>
    by_cases h : b = 0
    · rw [h]; exact cm_zero 0
    · rw [cm_step, ih (b / 2) (by omega)]; simp
theorem cm_xor_left (a a' b : Nat) : cm (a ^^^ a') b = cm a b ^^^ cm a' b := by
  induction b using Nat.strongRecOn with
  | _ b ih =>
    by_cases h : b = 0
    · rw [h]; simp [cm_zero]
    · rw [cm_step, cm_step a b, cm_step a' b, ih (b / 2) (by omega), two_xor, xor_swap]
      congr 1
      split <;> simp
theorem cm_xor_right (a b b' : Nat) : cm a (b ^^^ b') = cm a b ^^^ cm a b' := by
  induction b using Nat.strongRecOn generalizing b' with
  | _ b ih =>
    by_cases h : b = 0
    · rw [h]; simp [cm_zero]
    · rw [cm_step, cm_step a b, cm_step a b', xor_half, ih (b / 2) (by omega), two_xor, xor_swap]
      congr 1
      have : (b ^^^ b') % 2 = (b % 2 + b' % 2) % 2 := by
        have h0 := Nat.xor_mod_two_eq_one (a := b) (b := b')
        rcases Nat.mod_two_eq_zero_or_one b with e | e <;> rcases Nat.mod_two_eq_zero_or_one b' with e' | e' <;> rcases Nat.mod_two_eq_zero_or_one (b ^^^ b') with e2 | e2 <;> simp [e, e', e2] at h0 ⊢
      rw [this]
      rcases Nat.mod_two_eq_zero_or_one b with e | e <;> rcases Nat.mod_two_eq_zero_or_one b' with e' | e' <;> simp [e, e']
theorem cm_two_right (a b : Nat) : cm a (2 * b) = 2 * cm a b := by
  rw [cm_step, if_neg (by omega), Nat.zero_xor]; congr 2; omega
theorem cm_two_left (a b : Nat) : cm (2 * a) b = 2 * cm a b := by
  induction b using Nat.strongRecOn with
  | _ b ih =>
    by_cases h : b = 0
    · rw [h, cm_zero, cm_zero]
    · rw [cm_step, cm_step a b, ih (b / 2) (by omega), two_xor]
      congr 1
      split <;> rfl
theorem cm_pow_right (a b k : Nat) : cm a (b * 2 ^ k) = cm a b * 2 ^ k := by
  induction k with
  | zero => simp
  | succ k ih => rw [Nat.pow_succ, ← Nat.mul_assoc, ← Nat.mul_assoc, Nat.mul_comm _ 2, cm_two_right, ih, Nat.mul_comm 2]
theorem cm_pow (a k : Nat) : cm a (2 ^ k) = a * 2 ^ k := by
  have := cm_pow_right a 1 k
  rwa [Nat.one_mul, cm_one] at this
theorem one_cm (b : Nat) : cm 1 b = b := by
  induction b using Nat.strongRecOn with
  | _ b ih =>
    by_cases h : b = 0
    · rw [h, cm_zero]
    · rw [cm_step, ih (b / 2) (by omega)]; exact (bit_split b).symm
theorem cm_comm (a b : Nat) : cm a b = cm b a := by
  induction b using Nat.strongRecOn with
  | _ b ih =>
    by_cases h : b = 0
    · rw [h, cm_zero, zero_cm]
    · conv => rhs; rw [bit_split b, cm_xor_left, cm_two_left, ← ih (b / 2) (by omega)]
      rw [cm_step]
      congr 1
      split
      · rw [one_cm]
      · rw [zero_cm]
theorem cm_assoc (a b c : Nat) : cm (cm a b) c = cm a (cm b c) := by
  induction c using Nat.strongRecOn with
  | _ c ih =>
    by_cases h : c = 0
    · rw [h, cm_zero, cm_zero, cm_zero]
    · rw [cm_step (cm a b) c, cm_step b c, cm_xor_right, cm_two_right, ih (c / 2) (by omega)]
      congr 1
      split
      · rfl
      · rw [cm_zero]
theorem cm_left_comm (a b c : Nat) : cm a (cm b c) = cm b (cm a c) := by rw [← cm_assoc, cm_comm a b, cm_assoc]
theorem bl_cm {a b : Nat} (ha : a ≠ 0) (hb : b ≠ 0) : bl (cm a b) + 1 = bl a + bl b := by
  induction b using Nat.strongRecOn with
  | _ b ih =>
    by_cases h1 : b = 1
    · rw [h1, cm_one]; rfl
    · have h2 : b / 2 ≠ 0 := by omega
      have e := ih (b / 2) (by omega) h2
      rw [cm_step, bl_half hb]
      have hp := bl_pos ha
      have hp2 := bl_pos h2
      have h3 : cm a (b / 2) ≠ 0 := by
        intro e0; rw [e0, bl_zero] at e; omega
      have e3 := bl_double h3
      rw [bl_xor_lt (by
        have : bl (if b % 2 = 1 then a else 0) ≤ bl a := by split <;> simp [bl_zero]
        omega)]
      omega
theorem cm_ne_zero {a b : Nat} (ha : a ≠ 0) (hb : b ≠ 0) : cm a b ≠ 0 := by
  intro e
  have := bl_cm ha hb
  rw [e, bl_zero] at this
  have := bl_pos ha; have := bl_pos hb
  omega
end Mine
end
section
set_option maxRecDepth 20000
namespace Mine

theorem bl_xor_eq {x y : Nat} (h : bl x = bl y) (h0 : x ≠ 0) : bl (x ^^^ y) < bl x := by
  induction x using Nat.strongRecOn generalizing y with
  | _ x ih =>
    have hp := bl_pos h0
    have hy : y ≠ 0 := by intro e; rw [e, bl_zero] at h; omega
    by_cases h1 : x = 1
    · subst h1
      have e1 : bl 1 = 1 := rfl
      have hy2 : y < 2 ^ 1 := bl_le.mp (by omega)
      have : y = 1 := by omega
      subst this
      decide
    · have h2 : x / 2 ≠ 0 := by omega
      have hx := bl_half h0
      have hy' := bl_half hy
      have e := ih (x / 2) (by omega) (y := y / 2) (by omega) h2
      rw [← xor_half] at e
      by_cases hz : x ^^^ y = 0
      · rw [hz, bl_zero]; omega
      · have := bl_half hz; omega

def CC : Nat := 7976584769
theorem CC_bl : bl CC = 33 := by decide +kernel
theorem CC_ne : CC ≠ 0 := by decide
def Cg (a b : Nat) : Prop := ∃ z, a ^^^ b = cm CC z
theorem Cg.refl (a : Nat) : Cg a a := ⟨0, by rw [Nat.xor_self, cm_zero]⟩
theorem Cg.symm {a b : Nat} (h : Cg a b) : Cg b a := by obtain ⟨z, h⟩ := h; exact ⟨z, by rw [Nat.xor_comm]; exact h⟩
theorem Cg.xor {a b c d : Nat} (h : Cg a b) (g : Cg c d) : Cg (a ^^^ c) (b ^^^ d) := by
  obtain ⟨z, h⟩ := h; obtain ⟨y, g⟩ := g
  exact ⟨z ^^^ y, by rw [xor_swap, h, g, cm_xor_right]⟩
theorem Cg.trans {a b c : Nat} (h : Cg a b) (g : Cg b c) : Cg a c := by
  obtain ⟨z, h⟩ := h; obtain ⟨y, g⟩ := g
  exact ⟨z ^^^ y, by rw [cm_xor_right, ← h, ← g, Nat.xor_assoc, xor_cancel']⟩
theorem Cg.mul {a b : Nat} (c : Nat) (h : Cg a b) : Cg (cm c a) (cm c b) := by
  obtain ⟨z, h⟩ := h
  exact ⟨cm c z, by rw [← cm_xor_right, h, cm_left_comm]⟩
theorem Cg.mul' {a b : Nat} (c : Nat) (h : Cg a b) : Cg (cm a c) (cm b c) := by rw [cm_comm a, cm_comm b]; exact h.mul c
theorem Cg.mul2 {a b c d : Nat} (h : Cg a b) (g : Cg c d) : Cg (cm a c) (cm b d) := (h.mul' c).trans (g.mul b)
theorem Cg.multiple (z : Nat) : Cg (cm CC z) 0 := ⟨z, Nat.xor_zero _⟩
theorem Cg.eq {a b : Nat} (h : Cg a b) (ha : a < 2 ^ 32) (hb : b < 2 ^ 32) : a = b := by
  obtain ⟨z, h⟩ := h
  by_cases hz : z = 0
  · rw [hz, cm_zero] at h; exact xor_zero_eq h
  · have h1 := bl_cm CC_ne hz
    have h2 := bl_xor_le (bl_le.mpr ha) (bl_le.mpr hb)
    have := bl_pos hz
    rw [← h, CC_bl] at h1
    omega
theorem Cg.rd (a : Nat) : ∃ r, r < 2 ^ 32 ∧ Cg a r := by
  generalize hn : bl a = n
  induction n using Nat.strongRecOn generalizing a with
  | _ n ih =>
    rcases Nat.lt_or_ge 32 n with h | h
    · have ha : a ≠ 0 := by intro e; rw [e, bl_zero] at hn; omega
      have e1 : bl (CC * 2 ^ (n - 33)) = n := by
        have := bl_cm (a := CC) (b := 2 ^ (n - 33)) CC_ne (Nat.ne_of_gt (Nat.two_pow_pos _))
        rw [cm_pow, CC_bl, bl_eq (k := n - 33) (Nat.le_refl _) (by rw [Nat.pow_succ]; have := Nat.two_pow_pos (n-33); omega)] at this
        omega
      obtain ⟨r, hr, hc⟩ := ih (bl (a ^^^ CC * 2 ^ (n - 33))) (by have := bl_xor_eq (x := a) (y := CC * 2 ^ (n - 33)) (by rw [e1]; exact hn) ha; omega) _ rfl
      refine ⟨r, hr, Cg.trans ⟨2 ^ (n - 33), ?_⟩ hc⟩
      rw [xor_cancel', cm_pow]
    · exact ⟨a, bl_le.mp (by omega), .refl a⟩

/-! powers and the map of Frobenius -/
def sq (a : Nat) : Nat := cm a a
theorem sq_xor (a b : Nat) : sq (a ^^^ b) = sq a ^^^ sq b := by
  unfold sq
  rw [cm_xor_left, cm_xor_right, cm_xor_right, cm_comm b a, xor_swap, Nat.xor_comm (cm a b) (cm b b), ← xor_swap, Nat.xor_self, Nat.xor_zero]
theorem sq_cm (a b : Nat) : sq (cm a b) = cm (sq a) (sq b) := by
  unfold sq
  rw [cm_assoc, cm_left_comm b a b, ← cm_assoc]
theorem Cg.sq {a b : Nat} (h : Cg a b) : Cg (sq a) (sq b) := h.mul2 h
def fr : Nat → Nat → Nat
  | 0, a => a
  | n + 1, a => sq (fr n a)
theorem fr_xor (n a b : Nat) : fr n (a ^^^ b) = fr n a ^^^ fr n b := by
  induction n with
  | zero => rfl
  | succ n ih => rw [fr, ih, sq_xor]; rfl
theorem fr_cm (n a b : Nat) : fr n (cm a b) = cm (fr n a) (fr n b) := by
  induction n with
  | zero => rfl
  | succ n ih => rw [fr, ih, sq_cm]; rfl
theorem fr_zero (n : Nat) : fr n 0 = 0 := by
  induction n with
  | zero => rfl
  | succ n ih => rw [fr, ih]; rfl
theorem fr_one (n : Nat) : fr n 1 = 1 := by
  induction n with
  | zero => rfl
  | succ n ih => rw [fr, ih]; rfl
def cpow (a : Nat) : Nat → Nat
  | 0 => 1
  | n + 1 => cm (cpow a n) a
theorem cpow_add (a m n : Nat) : cpow a (m + n) = cm (cpow a m) (cpow a n) := by
  induction n with
  | zero => rw [Nat.add_zero, cpow, cm_one]
  | succ n ih => rw [← Nat.add_assoc, cpow, ih, cpow, cm_assoc]
theorem fr_cpow (n a : Nat) : fr n a = cpow a (2 ^ n) := by
  induction n with
  | zero => rw [Nat.pow_zero, cpow, cpow, one_cm]; rfl
  | succ n ih => rw [fr, ih, Nat.pow_succ, Nat.mul_two, cpow_add]; rfl

def chk (xs zs : List Nat) : Bool := match xs, zs with
  | x :: y :: xs, z :: zs => (sq x ^^^ y == cm CC z) && chk (y :: xs) zs
  | [_], [] => true
  | _, _ => false
theorem chk_sound : ∀ (zs : List Nat) (x : Nat) (xs : List Nat), chk (x :: xs) zs = true → Cg (fr zs.length x) ((x :: xs).getLastD 0)
  | [], x, [], _ => .refl x
  | [], x, y :: xs, h => by cases h
  | z :: zs, x, [], h => by cases h
  | z :: zs, x, y :: xs, h => by
    rw [chk, Bool.and_eq_true, beq_iff_eq] at h
    have e := chk_sound zs y xs h.2
    have h1 : Cg (sq x) y := ⟨z, h.1⟩
    have h2 : ∀ n, Cg (fr n (sq x)) (fr n y) := fun n => by
      induction n with
      | zero => exact h1
      | succ n ih => exact ih.sq
    have h3 : ∀ n a, fr (n + 1) a = fr n (sq a) := fun n a => by
      induction n with
      | zero => rfl
      | succ n ih => rw [fr, ih]; rfl
    rw [List.length_cons, h3]
    exact (h2 _).trans (by simpa [List.getLastD] using e)

def frX : List Nat := [2, 4, 16, 256, 65536, 3681617473, 3060473766, 1822566122, 1230508458, 3755923436, 747051986, 2517289145, 2650115255, 934378167, 1917666386, 1594879667, 2301738210, 2654808365, 2796690346, 3966754622, 1934646661, 1070903884, 1178603485, 1792694281, 4165942719, 3172284024, 1649389063, 4016998374, 3256037360, 1176289283, 4023642220, 886881065, 2]
def frZ : List Nat := [0, 0, 0, 0, 1, 1908425831, 1840265598, 477215342, 448793000, 1910145794, 114993405, 1796923510, 1802976034, 119386759, 497930359, 460759591, 1791447401, 1802521403, 1813707258, 1994234513, 497842973, 125240013, 448204632, 476948094, 2003666541, 1843234951, 470245683, 1994037988, 1879175107, 448205865, 1994061625, 119189123]
def idM : List Nat := [0, 6, 20, 72, 272, 1056, 4160, 16512, 65792, 262656, 1049600, 4196352, 16781312, 67117056, 268451840, 1073774592, 3681551937, 3676575110, 3665713818, 3741542122, 3403650858, 2650558506, 446843499, 1795762604, 1951768817, 203916677, 1016993300, 3933755472, 788753858, 3691886344, 114610338, 1075987657]
def idZ : List Nat := [0, 0, 0, 0, 0, 0, 0, 0, 0, 0, 0, 0, 0, 0, 0, 0, 1, 6, 26, 106, 426, 1706, 6827, 27308, 109233, 436933, 1747732, 6990928, 27963714, 111854856, 447419426, 1789677705]
def idL : List Nat := [2438888476, 0, 2, 91628750, 6, 902054992, 91628742, 191066144, 22, 1280645420, 902055024, 2952414744, 91628678, 1133653700, 191066272, 524389272, 278, 2122558166, 1280645932, 968089344, 902054000, 1163434410, 2952416792, 4271138092, 91632774, 77501794, 1133645508, 2258953282, 191049888, 1988618334, 524356504, 2712726746]
theorem fr_two : Cg (fr 32 2) 2 := by
  have := chk_sound frZ 2 frX.tail (by decide +kernel)
  exact this
theorem fr_id (a : Nat) : Cg (fr 32 a) a := by
  induction a using Nat.strongRecOn with
  | _ a ih =>
    by_cases h : a = 0
    · rw [h, fr_zero]; exact .refl 0
    · have e : a = (if a % 2 = 1 then 1 else 0) ^^^ cm 2 (a / 2) := by
        have := bit_split a
        rwa [show 2 * (a / 2) = cm 2 (a / 2) by rw [show (2 : Nat) = 2 * 1 from rfl, cm_two_left, one_cm]] at this
      have h2 : Cg (fr 32 ((if a % 2 = 1 then 1 else 0) ^^^ cm 2 (a / 2))) ((if a % 2 = 1 then 1 else 0) ^^^ cm 2 (a / 2)) := by
        rw [fr_xor, fr_cm]
        refine Cg.xor ?_ (fr_two.mul2 (ih (a / 2) (by omega)))
        split
        · rw [fr_one]; exact .refl 1
        · rw [fr_zero]; exact .refl 0
      rw [← e] at h2; exact h2

/-! linear maps by their values -/
def lin : List Nat → Nat → Nat
  | [], _ => 0
  | c :: l, a => (if a % 2 = 1 then c else 0) ^^^ lin l (a / 2)
theorem lin_zero (l : List Nat) : lin l 0 = 0 := by
  induction l with
  | nil => rfl
  | cons c l ih => rw [lin, if_neg (by decide), Nat.zero_div, ih]; rfl
theorem lin_xor (l : List Nat) (a b : Nat) : lin l (a ^^^ b) = lin l a ^^^ lin l b := by
  induction l generalizing a b with
  | nil => exact (Nat.xor_self 0).symm
  | cons c l ih =>
    rw [lin, lin, lin, xor_half, ih, xor_swap]
    congr 1
    have h0 := Nat.xor_mod_two_eq_one (a := a) (b := b)
    rcases Nat.mod_two_eq_zero_or_one a with e | e <;> rcases Nat.mod_two_eq_zero_or_one b with e' | e' <;> rcases Nat.mod_two_eq_zero_or_one (a ^^^ b) with e2 | e2 <;> simp [e, e', e2] at h0 ⊢
theorem lin_lin (l m : List Nat) (a : Nat) : lin l (lin m a) = lin (m.map (lin l)) a := by
  induction m generalizing a with
  | nil => exact lin_zero l
  | cons c m ih =>
    rw [lin, lin_xor, List.map_cons, lin, ih]
    congr 1
    split
    · rfl
    · exact lin_zero l
theorem lin_lt {l : List Nat} {k : Nat} (h : ∀ c ∈ l, c < 2 ^ k) (a : Nat) : lin l a < 2 ^ k := by
  induction l generalizing a with
  | nil => exact Nat.two_pow_pos k
  | cons c l ih =>
    refine xor_lt ?_ (ih (fun d hd => h d (List.mem_cons_of_mem _ hd)) _)
    split
    · exact h c (List.mem_cons_self ..)
    · exact Nat.two_pow_pos k
/-- a map that puts together goes as its values tell -/
theorem lin_cg {f : Nat → Nat} (hf : ∀ a b, f (a ^^^ b) = f a ^^^ f b) (h0 : f 0 = 0) : ∀ (l zs : List Nat) (s a : Nat), zs.length = l.length → (∀ i c z, l[i]? = some c → zs[i]? = some z → f (2 ^ (s + i)) ^^^ c = cm CC z) → a < 2 ^ l.length → Cg (f (a * 2 ^ s)) (lin l a)
  | [], _, s, a, _, _, h => by
    have : a = 0 := by simpa using h
    rw [this, Nat.zero_mul, h0]; exact .refl 0
  | c :: l, [], s, a, hl, _, _ => by cases hl
  | c :: l, z :: zs, s, a, hl, hc, h => by
    have e := lin_cg hf h0 l zs (s + 1) (a / 2) (by simpa using hl) (fun i c' z' h1 h2 => by
      have := hc (i + 1) c' z' (by simpa using h1) (by simpa using h2)
      rwa [show s + (i + 1) = s + 1 + i by omega] at this) (by rw [List.length_cons, Nat.pow_succ] at h; omega)
    have e1 : a * 2 ^ s = (if a % 2 = 1 then 2 ^ s else 0) ^^^ (a / 2 * 2 ^ (s + 1)) := by
      have := bit_split a
      have h2 : a * 2 ^ s = ((if a % 2 = 1 then 1 else 0) ^^^ (2 * (a / 2))) * 2 ^ s := by rw [← this]
      rw [h2, pow_xor, Nat.pow_succ, Nat.mul_comm 2 (a / 2), Nat.mul_assoc, Nat.mul_comm 2]
      congr 1
      split <;> simp
    rw [e1, hf, lin]
    refine Cg.xor ?_ e
    split
    · exact ⟨z, hc 0 c z rfl rfl⟩
    · rw [h0]; exact .refl 0

theorem all_of {p : Nat → Bool} {n : Nat} (h : (List.range n).all p = true) {i : Nat} (hi : i < n) : p i = true := List.all_eq_true.mp h i (List.mem_range.mpr hi)
theorem idem {e : Nat} (h : Cg (cm e e) e) (he : e < 2 ^ 32) : e = 0 ∨ e = 1 := by
  have h1 : Cg (cm e e ^^^ e) (lin idM e) := by
    have := lin_cg (f := fun a => sq a ^^^ a) (fun a b => by
      show sq (a ^^^ b) ^^^ (a ^^^ b) = _
      rw [sq_xor, xor_swap]) rfl idM idZ 0 e rfl (fun i c z h1 h2 => by
        have hi : i < 32 := by
          rcases Nat.lt_or_ge i 32 with h | h
          · exact h
          · rw [List.getElem?_eq_none h] at h1; cases h1
        have hh : (List.range 32).all (fun i => (sq (2 ^ (0 + i)) ^^^ 2 ^ (0 + i)) ^^^ (idM[i]?.getD 0) == cm CC (idZ[i]?.getD 0)) = true := by decide +kernel
        have := all_of hh hi
        rw [h1, h2] at this
        exact beq_iff_eq.mp this) he
    rwa [Nat.pow_zero, Nat.mul_one] at this
  have h2 : Cg (lin idM e) 0 := by
    refine h1.symm.trans ?_
    obtain ⟨z, hz⟩ := h
    rw [hz]; exact .multiple z
  have h3 : lin idM e = 0 := h2.eq (lin_lt (by decide +kernel) e) (by decide)
  have h4 : lin (idM.map (lin idL)) e = 0 := by rw [← lin_lin, h3, lin_zero]
  rw [show idM.map (lin idL) = 0 :: (List.range 31).map (fun i => 2 ^ (1 + i)) by decide +kernel, lin] at h4
  have h5 : ∀ (n s a : Nat), a < 2 ^ n → lin ((List.range n).map (fun i => 2 ^ (s + i))) a = a * 2 ^ s := by
    intro n
    induction n with
    | zero => intro s a h; have : a = 0 := by simpa using h
              rw [this, Nat.zero_mul]; rfl
    | succ n ih =>
      intro s a h
      rw [List.range_succ_eq_map, List.map_cons, List.map_map, lin]
      have := ih (s + 1) (a / 2) (by rw [Nat.pow_succ] at h; omega)
      have e2 : ((fun i => 2 ^ (s + i)) ∘ Nat.succ) = fun i => 2 ^ (s + 1 + i) := by funext i; show 2 ^ (s + (i + 1)) = _; congr 1; omega
      rw [e2, this]
      have := bit_split a
      have h2 : a * 2 ^ s = ((if a % 2 = 1 then 1 else 0) ^^^ (2 * (a / 2))) * 2 ^ s := by rw [← this]
      rw [h2, pow_xor, Nat.pow_succ, Nat.mul_comm 2 (a / 2), Nat.mul_assoc, Nat.mul_comm 2]
      congr 1
      split <;> simp
  rw [h5 31 1 (e / 2) (by omega)] at h4
  simp at h4
  omega

theorem inverse {r : Nat} (h0 : r ≠ 0) (hr : r < 2 ^ 32) : ∃ s, Cg (cm r s) 1 := by
  have hF : Cg (cpow r (2 ^ 32)) r := by rw [← fr_cpow]; exact fr_id r
  obtain ⟨N, hN⟩ : ∃ N, 2 ^ 32 = N + 2 := ⟨2 ^ 32 - 2, by decide⟩
  rw [hN] at hF
  obtain ⟨e, he, hce⟩ := Cg.rd (cpow r (N + 1))
  have h1 : Cg (cm e e) e := by
    refine (hce.symm.mul2 hce.symm).trans (Cg.trans ?_ hce)
    rw [← cpow_add, show N + 1 + (N + 1) = (N + 2) + N by omega, cpow_add]
    refine (hF.mul' _).trans ?_
    rw [cm_comm]; exact .refl _
  rcases idem h1 he with e0 | e1
  · subst e0
    have : Cg r 0 := by
      refine hF.symm.trans ?_
      have := hce.mul' r
      rw [zero_cm] at this
      exact this
    exact absurd (this.eq hr (by decide)) h0
  · subst e1
    refine ⟨cpow r N, ?_⟩
    rw [cm_comm]
    exact hce
end Mine
end
section
set_option maxRecDepth 20000
namespace Mine

/-! the walk of the register -/
def stp (r : Nat) : Nat := if r % 2 = 1 then (r / 2) ^^^ 3988292384 else r / 2
def stps : Nat → Nat → Nat
  | 0, r => r
  | n + 1, r => stps n (stp r)
theorem stp_lt {r : Nat} (h : r < 2 ^ 32) : stp r < 2 ^ 32 := by
  unfold stp
  split
  · exact xor_lt (by omega) (by decide)
  · omega
theorem stps_lt {n r : Nat} (h : r < 2 ^ 32) : stps n r < 2 ^ 32 := by
  induction n generalizing r with
  | zero => exact h
  | succ n ih => exact ih (stp_lt h)
theorem stps_add (m n r : Nat) : stps n (stps m r) = stps (m + n) r := by
  induction m generalizing r with
  | zero => rw [Nat.zero_add]; rfl
  | succ m ih => rw [stps, ih, Nat.add_right_comm]; rfl

/-! where the way leads -/
def sb (n : Nat) : Bool := n != 0 && (n &&& (n - 1)) == 0
end Mine
end
section
set_option maxRecDepth 20000
namespace Mine

theorem xor_out (u v w : Nat) : ((u ^^^ v) ^^^ w) ^^^ u = v ^^^ w := by
  rw [Nat.xor_comm, ← Nat.xor_assoc, ← Nat.xor_assoc, Nat.xor_self, Nat.zero_xor]
/-- Euclid's way on 2^64 and H, with the factors of H -/
structure Pd (H A B c f : Nat) : Prop where
  e1 : ∃ z, cm f H ^^^ B = z * 2 ^ 64
  e0 : ∃ z, cm c H ^^^ A = z * 2 ^ 64
  dg : bl f + bl A = 66
  lt : bl B < bl A
  lc : bl c < bl f
  hi : 33 ≤ bl A
theorem bl_two (k : Nat) : bl (2 ^ k) = k + 1 := bl_eq (Nat.le_refl _) (by rw [Nat.pow_succ]; have := Nat.two_pow_pos k; omega)
theorem Pd.start {H : Nat} (h : bl H ≤ 64) : Pd H (2 ^ 64) H 0 1 where
  e1 := ⟨0, by rw [one_cm, Nat.xor_self, Nat.zero_mul]⟩
  e0 := ⟨1, by rw [zero_cm, Nat.zero_xor, Nat.one_mul]⟩
  dg := by rw [bl_two]; rfl
  lt := by rw [bl_two]; omega
  lc := by decide
  hi := by rw [bl_two]; decide
theorem Pd.next {H A B c f q a c' : Nat} (p : Pd H A B c f) (hB : 33 ≤ bl B) (ha : a = A ^^^ cm q B) (hc : c' = c ^^^ cm q f) (hl : bl a < bl B) : Pd H B a f c' := by
  have hlt := p.lt
  have hlc := p.lc
  have hdg := p.dg
  have e2 : cm q B = A ^^^ a := by rw [ha, xor_cancel']
  have e3 : bl (cm q B) = bl A := by rw [e2]; exact bl_xor_lt' (by omega)
  have hq : q ≠ 0 := by intro e; rw [e, zero_cm, bl_zero] at e3; omega
  have hB0 : B ≠ 0 := by intro e; rw [e, bl_zero] at hB; omega
  have hf0 : f ≠ 0 := by intro e; rw [e, bl_zero] at hlc; omega
  have h1 := bl_cm hq hB0
  have h2 := bl_cm hq hf0
  have h3 : bl c' = bl (cm q f) := by rw [hc]; exact bl_xor_lt (by omega)
  refine ⟨?_, p.e1, by omega, hl, by omega, hB⟩
  obtain ⟨z, hz⟩ := p.e0
  obtain ⟨y, hy⟩ := p.e1
  refine ⟨z ^^^ cm q y, ?_⟩
  rw [hc, ha, cm_xor_left, xor_swap, hz, cm_assoc, ← cm_xor_right, hy, cm_pow_right, pow_xor]
theorem Pd.told {H A B c f R0 R1 : Nat} (p : Pd H A B c f) (hB : bl B ≤ 32) (h : cm CC H = R0 ^^^ R1 * 2 ^ 64) (h0 : R0 ≠ 0) (h1 : R0 < 2 ^ 32) : B = R0 ∧ f = CC := by
  have hlt := p.lt
  have hlc := p.lc
  have hdg := p.dg
  have hhi := p.hi
  have hf0 : f ≠ 0 := by intro e; rw [e, bl_zero] at hlc; omega
  obtain ⟨y, hy⟩ := p.e1
  have hBe : B = cm f H ^^^ y * 2 ^ 64 := by rw [← hy, xor_cancel']
  have key : cm CC B ^^^ cm f R0 = (cm f R1 ^^^ cm CC y) * 2 ^ 64 := by
    rw [hBe, cm_xor_right, cm_left_comm, h, cm_xor_right, cm_pow_right, cm_pow_right, pow_xor]
    exact xor_out _ _ _
  have hb1 : bl (cm CC B) ≤ 64 := by
    by_cases e : B = 0
    · rw [e, cm_zero, bl_zero]; omega
    · have := bl_cm CC_ne e; rw [CC_bl] at this; omega
  have hb2 : bl (cm f R0) ≤ 64 := by
    have := bl_cm hf0 h0
    have := bl_le.mpr h1
    omega
  have hk := bl_le.mp (bl_xor_le hb1 hb2)
  rw [key] at hk
  have hz : cm f R1 ^^^ cm CC y = 0 := by
    rcases Nat.eq_zero_or_pos (cm f R1 ^^^ cm CC y) with e | e
    · exact e
    · have : 1 * 2 ^ 64 ≤ (cm f R1 ^^^ cm CC y) * 2 ^ 64 := Nat.mul_le_mul_right _ e
      omega
  rw [hz, Nat.zero_mul] at key
  have hBR : cm CC B = cm f R0 := xor_zero_eq key
  -- f is a multiple
  obtain ⟨s, z, hsz⟩ := inverse h0 h1
  have hf : ∃ w, f = cm CC w := by
    have e1 : cm f (cm R0 s ^^^ cm CC z) = f := by rw [← hsz, xor_cancel', cm_one]
    refine ⟨cm B s ^^^ cm f z, ?_⟩
    rw [cm_xor_right, ← cm_assoc, hBR, cm_assoc, cm_left_comm CC f z, ← cm_xor_right, e1]
  obtain ⟨w, hw⟩ := hf
  have hw0 : w ≠ 0 := by intro e; rw [e, cm_zero] at hw; exact hf0 hw
  have h5 := bl_cm CC_ne hw0
  rw [← hw, CC_bl] at h5
  have h6 := bl_pos hw0
  have h7 : w < 2 ^ 1 := bl_le.mp (by omega)
  have hw1 : w = 1 := by omega
  have hfC : f = CC := by rw [hw, hw1, cm_one]
  refine ⟨?_, hfC⟩
  rw [hfC] at hBR
  have h8 : cm CC (B ^^^ R0) = 0 := by rw [cm_xor_right, hBR, Nat.xor_self]
  by_cases e : B ^^^ R0 = 0
  · exact xor_zero_eq e
  · exact absurd h8 (cm_ne_zero CC_ne e)
/-- the walk's bits, and what it comes to -/
def fbit (R k : Nat) : Bool := decide (stps k R % 2 = 1)
theorem stp_two (s : Nat) : 2 * stp s = s ^^^ (if s % 2 = 1 then CC else 0) := by
  unfold stp
  have e := bit_split s
  split
  · rename_i h
    rw [if_pos h] at e
    rw [two_xor, show CC = 1 ^^^ 2 * 3988292384 by decide, ← Nat.xor_assoc]
    congr 1
    conv => rhs; rw [e]
    rw [Nat.xor_comm 1, xor_cancel]
  · rename_i h
    rw [if_neg h, Nat.zero_xor] at e
    rw [Nat.xor_zero, ← e]
def hvF (f : Nat → Bool) : Nat → Nat
  | 0 => 0
  | n + 1 => hvF f n ^^^ (if f n then 2 ^ n else 0)
theorem stps_succ' (n r : Nat) : stps (n + 1) r = stp (stps n r) := (stps_add n 1 r).symm
theorem heard_is (R : Nat) : ∀ n, cm CC (hvF (fbit R) n) = R ^^^ stps n R * 2 ^ n
  | 0 => by rw [hvF, cm_zero, Nat.pow_zero, Nat.mul_one]; exact (Nat.xor_self R).symm
  | n + 1 => by
    have e : stps (n + 1) R * 2 ^ (n + 1) = (2 * stp (stps n R)) * 2 ^ n := by
      rw [stps_succ', Nat.pow_succ, Nat.mul_comm (2 ^ n) 2, ← Nat.mul_assoc, Nat.mul_comm _ 2]
    rw [hvF, cm_xor_right, heard_is R n, e, stp_two, pow_xor, Nat.xor_assoc]
    congr 2
    by_cases h : stps n R % 2 = 1
    · rw [if_pos h, if_pos (show fbit R n = true from decide_eq_true h), cm_pow]
    · rw [if_neg h, if_neg (show ¬ fbit R n = true from fun q => h (of_decide_eq_true q)), cm_zero, Nat.zero_mul]
end Mine
end
section
set_option maxRecDepth 100000
open PySem PySem.W PyProof.Rows PySem.Calls
namespace Mine
variable {N : Nat}

/-- plain data -/
inductive D where
  | none | bool (b : Bool) | int (i : Int) | str (x : Str) | bytes (b : Array UInt8)
  | tup (ds : List D) | lst (ds : List D) | rng (n : Nat)

mutual
inductive Rep (h : Heap) (ok : Addr → Prop) : Value → D → Prop
  | none : Rep h ok .none .none
  | bool (b : Bool) : Rep h ok (.bool b) (.bool b)
  | int (i : Int) (t : Tok) : Rep h ok (.int i t) (.int i)
  | str (x : Str) (t : Tok) : Rep h ok (.str x t) (.str x)
  | bytes (b : Array UInt8) (t : Tok) : Rep h ok (.bytes b t) (.bytes b)
  | tup {a : Addr} {vs : List Value} {ds : List D} : h.IsTuple a vs.toArray → Reps h ok vs ds → Rep h ok (.ref a) (.tup ds)
  | lst {a : Addr} {vs : List Value} {ds : List D} : ok a → h.IsList a vs.toArray → Reps h ok vs ds → Rep h ok (.ref a) (.lst ds)
  | rng {a : Addr} {n : Nat} {t u v : Tok} : IsRange h a 0 n 1 t u v → Rep h ok (.ref a) (.rng n)
inductive Reps (h : Heap) (ok : Addr → Prop) : List Value → List D → Prop
  | nil : Reps h ok [] []
  | cons {v : Value} {vs : List Value} {d : D} {ds : List D} : Rep h ok v d → Reps h ok vs ds → Reps h ok (v :: vs) (d :: ds)
end

/-- the kinds of objects that data stand on -/
def DataObj (ok : Addr → Prop) (b : Addr) (o : Obj) : Prop :=
  (o.cls = .type "list" ∧ (∃ vs n, o.data = .seq vs n) ∧ ok b) ∨ (o.cls = .type "tuple" ∧ ∃ vs n, o.data = .seq vs n) ∨ (o.cls = .type "range" ∧ ∃ vs, o.data = .fields vs)

mutual
theorem Rep.move {h h' : Heap} {ok ok' : Addr → Prop} (H : ∀ b o, h.get? b = some o → DataObj ok b o → h'.get? b = some o) (hk : ∀ b, ok b → ok' b) : ∀ {v : Value} {d : D}, Rep h ok v d → Rep h' ok' v d
  | _, _, .none => .none
  | _, _, .bool b => .bool b
  | _, _, .int i t => .int i t
  | _, _, .str x t => .str x t
  | _, _, .bytes b t => .bytes b t
  | _, _, .tup ⟨o, ho, hc, n, hd⟩ r => .tup ⟨o, H _ o ho (.inr (.inl ⟨hc, _, n, hd⟩)), hc, n, hd⟩ (Reps.move H hk r)
  | _, _, .lst hok ⟨o, ho, hc, n, hd⟩ r => .lst (hk _ hok) ⟨o, H _ o ho (.inl ⟨hc, ⟨_, n, hd⟩, hok⟩), hc, n, hd⟩ (Reps.move H hk r)
  | _, _, .rng hr => .rng (H _ _ hr (.inr (.inr ⟨rfl, _, rfl⟩)))
theorem Reps.move {h h' : Heap} {ok ok' : Addr → Prop} (H : ∀ b o, h.get? b = some o → DataObj ok b o → h'.get? b = some o) (hk : ∀ b, ok b → ok' b) : ∀ {vs : List Value} {ds : List D}, Reps h ok vs ds → Reps h' ok' vs ds
  | _, _, .nil => .nil
  | _, _, .cons a r => .cons (Rep.move H hk a) (Reps.move H hk r)
end

/-- no namespace -/
def ND (o : Obj) : Prop := ∀ es n, o.data ≠ .dict es n
theorem ND.seq {o : Obj} {vs : Array Value} {n : Nat} (h : o.data = .seq vs n) : ND o := fun _ _ q => by rw [h] at q; cases q
theorem ND.fields {o : Obj} {vs : Array Value} (h : o.data = .fields vs) : ND o := fun _ _ q => by rw [h] at q; cases q
theorem DataObj.nd {ok : Addr → Prop} {b : Addr} {o : Obj} (h : DataObj ok b o) : ND o := by
  rcases h with ⟨_, ⟨_, _, hd⟩, _⟩ | ⟨_, _, _, hd⟩ | ⟨_, _, hd⟩
  · exact .seq hd
  · exact .seq hd
  · exact .fields hd
/-- all stays; namespaces up to their slots -/
structure Ext (N : Nat) (h h' : Heap) : Prop where
  nd : ∀ b o, h.get? b = some o → ND o → h'.get? b = some o
  dc : ∀ b o, h.get? b = some o → (∃ es n, o.data = .dict es n) → ∃ sl, h'.get? b = some { o with slots := sl }
  lo : ∀ b o, b < N → h.get? b = some o → h'.get? b = some o
theorem Ext.of {h h' : Heap} (k : ∀ b o, h.get? b = some o → h'.get? b = some o) : Ext N h h' := ⟨fun b o e _ => k b o e, fun b o e _ => ⟨o.slots, k b o e⟩, fun b o _ e => k b o e⟩
theorem Ext.refl (h : Heap) : Ext N h h := .of fun _ _ e => e
theorem Ext.trans {h₁ h₂ h₃ : Heap} (a : Ext N h₁ h₂) (b : Ext N h₂ h₃) : Ext N h₁ h₃ := ⟨fun c o e n => b.nd c o (a.nd c o e n) n, fun c o e n => by
  obtain ⟨sl, h1⟩ := a.dc c o e n
  obtain ⟨sl2, h2⟩ := b.dc c _ h1 n
  exact ⟨sl2, h2⟩, fun c o l e => b.lo c o l (a.lo c o l e)⟩
theorem Ext.push (h : Heap) (o : Obj) : Ext N h (h.push o) := .of fun _ _ e => Heap.get?_push_of_some _ e
theorem Ext.ns {h h' : Heap} (x : Ext N h h') {a : Addr} {m : Str → Option Value} (hn : h.Ns a m) : h'.Ns a m := by
  obtain ⟨o, es, ep, ho, hd, r⟩ := hn
  obtain ⟨sl, hs⟩ := x.dc a o ho ⟨es, _, hd⟩
  exact ⟨_, es, ep, hs, hd, r⟩
theorem Ext.list {h h' : Heap} (x : Ext N h h') {a : Addr} {vs : Array Value} {n : Nat} (e : h.get? a = some (listOf vs n)) : h'.get? a = some (listOf vs n) := x.nd _ _ e (.seq rfl)
theorem Ext.size {h h' : Heap} (x : Ext N h h') {b : Addr} {o : Obj} (e : h.get? b = some o) : ∃ o', h'.get? b = some o' := by
  by_cases q : ∃ es n, o.data = .dict es n
  · obtain ⟨sl, hs⟩ := x.dc b o e q
    exact ⟨_, hs⟩
  · exact ⟨o, x.nd b o e fun es n hq => q ⟨es, n, hq⟩⟩

theorem Ext.noLimit {h h' : Heap} (x : Ext N h h') (n : h.NoLimit) : h'.NoLimit := by
  obtain ⟨mc, h1, h2⟩ := n
  exact ⟨mc, x.ns h1, h2⟩
theorem Ext.codeRec {h h' : Heap} (x : Ext N h h') {cd : Value} {q : Str} (n : h.CodeRec cd q) : h'.CodeRec cd q := by
  obtain ⟨c, o, vs, t, h1, h2, h3, h4⟩ := n
  exact ⟨c, o, vs, t, h1, x.nd _ _ h2 (.fields h3), h3, h4⟩
/-- a frame upon a heap -/
structure MFr (N : Nat) (h₀ : Heap) (L : Addr) (h : Heap) (m : Str → Option Value) : Prop where
  ns : h.Ns L m
  keep : Ext N h₀ h
  above : h₀.objs.size ≤ L
theorem MFr.set {h₀ h h' : Heap} {L : Addr} {m m' : Str → Option Value} (F : MFr N h₀ L h m) (hn : h'.Ns L m') (hs : Heap.SameBut L h h') : MFr N h₀ L h' m' := by
  have off : ∀ b o, h₀.get? b = some o → b ≠ L := fun b o e => Nat.ne_of_lt (Nat.lt_of_lt_of_le (Heap.lt_size e) F.above)
  refine ⟨hn, ⟨fun b o e n => (hs.2 b (off b o e)).trans (F.keep.nd b o e n), fun b o e n => ?_, fun b o l e => (hs.2 b (off b o e)).trans (F.keep.lo b o l e)⟩, F.above⟩
  obtain ⟨sl, h1⟩ := F.keep.dc b o e n
  exact ⟨sl, (hs.2 b (off b o e)).trans h1⟩

theorem Rep.ext {h h' : Heap} {ok : Addr → Prop} {v : Value} {d : D} (r : Rep h ok v d) (e : Ext N h h') : Rep h' ok v d := r.move (fun b o x hd => e.nd b o x hd.nd) (fun _ x => x)
theorem Reps.ext {h h' : Heap} {ok : Addr → Prop} {v : List Value} {d : List D} (r : Reps h ok v d) (e : Ext N h h') : Reps h' ok v d := r.move (fun b o x hd => e.nd b o x hd.nd) (fun _ x => x)
theorem Rep.weak {h : Heap} {ok ok' : Addr → Prop} {v : Value} {d : D} (r : Rep h ok v d) (e : ∀ b, ok b → ok' b) : Rep h ok' v d := r.move (fun _ _ x _ => x) e
theorem Reps.weak {h : Heap} {ok ok' : Addr → Prop} {v : List Value} {d : List D} (r : Reps h ok v d) (e : ∀ b, ok b → ok' b) : Reps h ok' v d := r.move (fun _ _ x _ => x) e

mutual
theorem Rep.weakA {h : Heap} {ok ok' : Addr → Prop} (hk : ∀ b o, h.get? b = some o → ok b → ok' b) : ∀ {v : Value} {d : D}, Rep h ok v d → Rep h ok' v d
  | _, _, .none => .none
  | _, _, .bool b => .bool b
  | _, _, .int i t => .int i t
  | _, _, .str x t => .str x t
  | _, _, .bytes b t => .bytes b t
  | _, _, .tup h r => .tup h (Reps.weakA hk r)
  | _, _, .lst hok ⟨o, ho, hd⟩ r => .lst (hk _ o ho hok) ⟨o, ho, hd⟩ (Reps.weakA hk r)
  | _, _, .rng hr => .rng hr
theorem Reps.weakA {h : Heap} {ok ok' : Addr → Prop} (hk : ∀ b o, h.get? b = some o → ok b → ok' b) : ∀ {vs : List Value} {ds : List D}, Reps h ok vs ds → Reps h ok' vs ds
  | _, _, .nil => .nil
  | _, _, .cons a r => .cons (Rep.weakA hk a) (Reps.weakA hk r)
end

mutual
theorem Rep.moveD {h h' : Heap} {ok ok' : Addr → Prop} (H : ∀ b o, h.get? b = some o → DataObj ok b o → h'.get? b = some o) (hk : ∀ b o, h.get? b = some o → DataObj ok b o → ok b → ok' b) : ∀ {v : Value} {d : D}, Rep h ok v d → Rep h' ok' v d
  | _, _, .none => .none
  | _, _, .bool b => .bool b
  | _, _, .int i t => .int i t
  | _, _, .str x t => .str x t
  | _, _, .bytes b t => .bytes b t
  | _, _, .tup ⟨o, ho, hc, n, hd⟩ r => .tup ⟨o, H _ o ho (.inr (.inl ⟨hc, _, n, hd⟩)), hc, n, hd⟩ (Reps.moveD H hk r)
  | _, _, .lst hok ⟨o, ho, hc, n, hd⟩ r => .lst (hk _ o ho (.inl ⟨hc, ⟨_, n, hd⟩, hok⟩) hok) ⟨o, H _ o ho (.inl ⟨hc, ⟨_, n, hd⟩, hok⟩), hc, n, hd⟩ (Reps.moveD H hk r)
  | _, _, .rng hr => .rng (H _ _ hr (.inr (.inr ⟨rfl, _, rfl⟩)))
theorem Reps.moveD {h h' : Heap} {ok ok' : Addr → Prop} (H : ∀ b o, h.get? b = some o → DataObj ok b o → h'.get? b = some o) (hk : ∀ b o, h.get? b = some o → DataObj ok b o → ok b → ok' b) : ∀ {vs : List Value} {ds : List D}, Reps h ok vs ds → Reps h' ok' vs ds
  | _, _, .nil => .nil
  | _, _, .cons a r => .cons (Rep.moveD H hk a) (Reps.moveD H hk r)
end

section
variable {h : Heap} {ok : Addr → Prop} {vs us : List Value} {ds es : List D} {v : Value} {d : D}
theorem Reps.length (r : Reps h ok vs ds) : vs.length = ds.length := by
  induction vs generalizing ds with
  | nil => cases r; rfl
  | cons v vs ih => cases r with | cons _ r => rw [List.length_cons, List.length_cons, ih r]
theorem Reps.append (r : Reps h ok vs ds) (q : Reps h ok us es) : Reps h ok (vs ++ us) (ds ++ es) := by
  induction vs generalizing ds with
  | nil => cases r; exact q
  | cons v vs ih => cases r with | cons a r => exact .cons a (ih r)
theorem Reps.get (r : Reps h ok vs ds) {k : Nat} {d : D} (hk : ds[k]? = some d) : ∃ v, vs[k]? = some v ∧ Rep h ok v d := by
  induction vs generalizing ds k with
  | nil => cases r; cases hk
  | cons v vs ih =>
    cases r with
    | cons a r =>
      cases k with
      | zero => cases hk; exact ⟨v, rfl, a⟩
      | succ k => exact ih r (by simpa using hk)
theorem Reps.set (r : Reps h ok vs ds) (a : Rep h ok v d) (k : Nat) : Reps h ok (vs.set k v) (ds.set k d) := by
  induction vs generalizing ds k with
  | nil => cases r; exact .nil
  | cons v vs ih =>
    cases r with
    | cons b r =>
      cases k with
      | zero => exact .cons a r
      | succ k => exact .cons b (ih r k)
theorem Reps.take (r : Reps h ok vs ds) (k : Nat) : Reps h ok (vs.take k) (ds.take k) := by
  induction vs generalizing ds k with
  | nil => cases r; simpa using Reps.nil
  | cons v vs ih =>
    cases r with
    | cons b r =>
      cases k with
      | zero => exact .nil
      | succ k => exact .cons b (ih r k)
theorem Reps.reverse (r : Reps h ok vs ds) : Reps h ok vs.reverse ds.reverse := by
  induction vs generalizing ds with
  | nil => cases r; exact .nil
  | cons v vs ih =>
    cases r with
    | cons b r => rw [List.reverse_cons, List.reverse_cons]; exact (ih r).append (.cons b .nil)
end

/-- a local name holds: data that nothing turns; a list of the frame's own -/
inductive Sl where
  | fr (d : D)
  | ow (ds : List D)
abbrev Loc := List (Str × Sl)

def NotOwn (m : Str → Option Value) (σ : Loc) (a : Addr) : Prop := ∀ x ds, σ.lookup x = some (.ow ds) → m x ≠ some (.ref a)

def SlotOk (h₀ h : Heap) (m : Str → Option Value) (ok no : Addr → Prop) (x : Str) : Sl → Prop
  | .fr d => ∃ v, m x = some v ∧ Rep h (fun a => ok a ∧ no a) v d
  | .ow ds => ∃ a vs n, m x = some (.ref a) ∧ (h₀.objs.size ≤ a ∧ ok a) ∧ h.get? a = some (listOf (List.toArray vs) n) ∧ Reps h (fun a => ok a ∧ no a) vs ds

structure St (N : Nat) (h₀ : Heap) (ok : Addr → Prop) (L : Addr) (σ : Loc) (h : Heap) (m : Str → Option Value) : Prop where
  F : MFr N h₀ L h m
  sl : ∀ x sl, σ.lookup x = some sl → SlotOk h₀ h m ok (NotOwn m σ) x sl
  ap : ∀ x y ds es, σ.lookup x = some (.ow ds) → σ.lookup y = some (.ow es) → m x = m y → x = y

structure GG where
  prog : Program
  w : World
  mg : Str → Option Value
  mb : Str → Option Value
  top : Heap
abbrev GG.n (G : GG) : Nat := G.top.objs.size
structure GG.Ok (G : GG) : Prop where
  g : G.top.Ns mainGlobals G.mg
  b : G.top.Ns builtinsNs G.mb
  nl : G.top.NoLimit

structure Cx where
  G : GG
  h₀ : Heap
  env : Env
  ok : Addr → Prop
  k : Nat
  nh : Prop
  frames : List Env
/-- a frame's namespace stands -/
def FrE (N : Nat) (h : Heap) (env : Env) : Prop := env.scope.kind ≠ .module ∧ ∃ L o es n, env.frame = some L ∧ h.get? L = some o ∧ o.data = .dict es n ∧ N ≤ L
theorem FrE.ext {h h' : Heap} {env : Env} (f : FrE N h env) (x : Ext N h h') : FrE N h' env := by
  obtain ⟨hk, L, o, es, n, h1, h2, h3, h4⟩ := f
  obtain ⟨sl, hs⟩ := x.dc L o h2 ⟨es, n, h3⟩
  exact ⟨hk, L, _, es, n, h1, hs, h3, h4⟩
abbrev Cx.scope (X : Cx) : Scope := X.env.scope
abbrev Cx.L (X : Cx) : Addr := X.env.locals
structure Cx.Ok (X : Cx) : Prop where
  GO : X.G.Ok
  hk : X.env.scope.kind = .function
  hg : X.env.globals = mainGlobals
  hb : X.env.builtins = builtinsNs
  tp : Ext X.G.n X.G.top X.h₀
  tz : X.G.n ≤ X.h₀.objs.size
  okb : ∀ a, X.h₀.objs.size ≤ a → X.ok a
  fo : ∀ env ∈ X.frames, FrE X.G.n X.h₀ env ∨ (env.frame = some X.L ∧ env.scope.kind ≠ .module)

structure Room (X : Cx) (A : Around) : Prop where
  d : A.depth + X.k < recursionLimit
  u : A.units + 20 * X.k + 100 < cLine
  h : X.nh → A.handled = none
  fr : A.frames = some X.frames

abbrev NoE : Value → Shared → Prop := fun _ _ => False

abbrev Cx.St (X : Cx) (σ : Loc) (h : Heap) (m : Str → Option Value) : Prop := Mine.St X.G.n X.h₀ X.ok X.L σ h m

theorem St.ext {h₀ : Heap} {ok : Addr → Prop} {L : Addr} {σ : Loc} {h h' : Heap} {m : Str → Option Value} (S : St N h₀ ok L σ h m) (e : Ext N h h') : St N h₀ ok L σ h' m where
  F := ⟨e.ns S.F.ns, S.F.keep.trans e, S.F.above⟩
  sl := fun x sl hx => by
    have q := S.sl x sl hx
    cases sl with
    | fr d => obtain ⟨v, h1, h2⟩ := q; exact ⟨v, h1, h2.ext e⟩
    | ow ds => obtain ⟨a, vs, n, h1, h0, h2, h3⟩ := q; exact ⟨a, vs, n, h1, h0, e.list h2, h3.ext e⟩
  ap := S.ap

theorem St.base_lt {h₀ : Heap} {ok : Addr → Prop} {L : Addr} {σ : Loc} {h : Heap} {m : Str → Option Value} (S : St N h₀ ok L σ h m) : h₀.objs.size ≤ h.objs.size :=
  Nat.le_of_lt (Nat.lt_of_le_of_lt S.F.above S.F.ns.lt)

/-- an owned list stands in the heap -/
theorem St.owned_at {h₀ : Heap} {ok : Addr → Prop} {L : Addr} {σ : Loc} {h : Heap} {m : Str → Option Value} (S : St N h₀ ok L σ h m) {x : Str} {ds : List D} (hx : σ.lookup x = some (.ow ds)) {a : Addr} (e : m x = some (.ref a)) :
    (h₀.objs.size ≤ a ∧ ok a) ∧ ∃ vs n, h.get? a = some (listOf (List.toArray vs) n) ∧ Reps h (fun a => ok a ∧ NotOwn m σ a) vs ds := by
  obtain ⟨a', vs, n, h1, h0, h2, h3⟩ := S.sl x _ hx
  rw [e] at h1; cases h1
  exact ⟨h0, vs, n, h2, h3⟩

theorem St.notOwn_of {h₀ : Heap} {ok : Addr → Prop} {L : Addr} {σ : Loc} {h : Heap} {m : Str → Option Value} (S : St N h₀ ok L σ h m) {a : Addr} (H : ∀ o, h.get? a = some o → o.cls ≠ .type "list") : NotOwn m σ a := by
  intro x ds hx e
  obtain ⟨_, vs, n, h2, _⟩ := S.owned_at hx e
  exact H _ h2 rfl
theorem St.notOwn_fresh {h₀ : Heap} {ok : Addr → Prop} {L : Addr} {σ : Loc} {h : Heap} {m : Str → Option Value} (S : St N h₀ ok L σ h m) {a : Addr} (H : h.objs.size ≤ a) : NotOwn m σ a := by
  refine S.notOwn_of fun o e => ?_
  exact absurd (Heap.lt_size e) (Nat.not_lt.mpr H)

/-- where evaluation may point -/
def okE (X : Cx) (m : Str → Option Value) (σ : Loc) (sf : Bool) (a : Addr) : Prop := X.ok a ∧ (sf = true → NotOwn m σ a)

theorem okE_fresh {X : Cx} (O : X.Ok) {m : Str → Option Value} {σ : Loc} {h : Heap} (S : X.St σ h m) {sf : Bool} {a : Addr} (H : h.objs.size ≤ a) : okE X m σ sf a :=
  ⟨O.okb a (Nat.le_trans S.base_lt H), fun _ => S.notOwn_fresh H⟩

/-- an expression's run -/
def SE (X : Cx) (σ : Loc) (sf : Bool) (e : Expr) (P : D → Prop) : Prop :=
  ∀ (A : Around) (s : Shared) (m : Str → Option Value) (K : Value → Shared → Prop), Room X A → X.St σ s.heap m →
    (∀ d v h' tk, P d → Ext X.G.n s.heap h' → Rep h' (okE X m σ sf) v d → K v { s with heap := h', toks := tk }) →
    wpAny (model X.G.prog X.G.w) A (eval e X.env) K NoE s
/-- a list of expressions' run -/
def SEs (X : Cx) (σ : Loc) (sf : Bool) (es : List Expr) (P : List D → Prop) : Prop :=
  ∀ (A : Around) (s : Shared) (m : Str → Option Value) (pos : Pos) (K : List Value → Shared → Prop), Room X A → X.St σ s.heap m →
    (∀ ds vs h' tk, P ds → Ext X.G.n s.heap h' → Reps h' (okE X m σ sf) vs ds → K vs { s with heap := h', toks := tk }) →
    wpAny (model X.G.prog X.G.w) A (spliced (backTo pos (starEach es X.env))) K NoE s
/-- a test's run -/
def ST (X : Cx) (σ : Loc) (e : Expr) (P : Bool → Prop) : Prop :=
  ∀ (A : Around) (s : Shared) (m : Str → Option Value) (K : Bool → Shared → Prop), Room X A → X.St σ s.heap m →
    (∀ b h' tk, P b → Ext X.G.n s.heap h' → K b { s with heap := h', toks := tk }) →
    wpAny (model X.G.prog X.G.w) A (isTrue e X.env (eval e X.env)) K NoE s

inductive Fl where
  | next | brk | cont
  | ret (d : D)
inductive FlRep (h : Heap) (ok : Addr → Prop) : Flow → Fl → Prop
  | next : FlRep h ok .next .next
  | brk : FlRep h ok .brk .brk
  | cont : FlRep h ok .cont .cont
  | ret {v : Value} {d : D} : Rep h ok v d → FlRep h ok (.ret v) (.ret d)

structure Step (L : Addr) (σ : Loc) (h : Heap) (m : Str → Option Value) (σ' : Loc) (h' : Heap) (m' : Str → Option Value) : Prop where
  pres : ∀ b o, h.get? b = some o → ND o → b ≠ L → NotOwn m σ b → h'.get? b = some o
  own : ∀ b o, h.get? b = some o → ND o → b ≠ L → NotOwn m σ b → NotOwn m' σ' b

theorem Step.refl {L : Addr} {σ : Loc} {h : Heap} {m : Str → Option Value} : Step L σ h m σ h m := ⟨fun _ _ e _ _ _ => e, fun _ _ _ _ _ x => x⟩
theorem Step.ofExt {L : Addr} {σ : Loc} {h h' : Heap} {m : Str → Option Value} (e : Ext N h h') : Step L σ h m σ h' m := ⟨fun b o x n _ _ => e.nd b o x n, fun _ _ _ _ _ x => x⟩
theorem Step.trans {L : Addr} {σ σ' σ'' : Loc} {h h' h'' : Heap} {m m' m'' : Str → Option Value} (a : Step L σ h m σ' h' m') (b : Step L σ' h' m' σ'' h'' m'') : Step L σ h m σ'' h'' m'' :=
  ⟨fun c o e d n q => b.pres c o (a.pres c o e d n q) d n (a.own c o e d n q), fun c o e d n q => b.own c o (a.pres c o e d n q) d n (a.own c o e d n q)⟩

/-- statements' run -/
def SS (X : Cx) (σ : Loc) (st : List Stmt) (P : Fl → Loc → Prop) : Prop :=
  ∀ (A : Around) (s : Shared) (m : Str → Option Value) (K : Flow → Shared → Prop), Room X A → X.St σ s.heap m →
    (∀ fl fl' σ' m' h' tk, P fl' σ' → FlRep h' X.ok fl fl' → X.St σ' h' m' → Step X.L σ s.heap m σ' h' m' → K fl { s with heap := h', toks := tk }) →
    wpAny (model X.G.prog X.G.w) A (execs st X.env) K NoE s
def S1 (X : Cx) (σ : Loc) (st : Stmt) (P : Fl → Loc → Prop) : Prop :=
  ∀ (A : Around) (s : Shared) (m : Str → Option Value) (K : Flow → Shared → Prop), Room X A → X.St σ s.heap m →
    (∀ fl fl' σ' m' h' tk, P fl' σ' → FlRep h' X.ok fl fl' → X.St σ' h' m' → Step X.L σ s.heap m σ' h' m' → K fl { s with heap := h', toks := tk }) →
    wpAny (model X.G.prog X.G.w) A (exec st X.env) K NoE s

theorem SS.nil {X : Cx} {σ : Loc} {P : Fl → Loc → Prop} (h : P .next σ) : SS X σ [] P := fun _ s m _ _ S hK =>
  wpAny_execs_nil (hK _ _ _ m s.heap s.toks h .next S .refl)
theorem SS.cons {X : Cx} {σ : Loc} {st : Stmt} {rest : List Stmt} {P : Fl → Loc → Prop} (h : S1 X σ st (fun fl σ' => match fl with | .next => SS X σ' rest P | f => P f σ')) : SS X σ (st :: rest) P := by
  intro A s m K R S hK
  refine wpAny_execs_cons (h A s m _ R S ?_)
  intro fl fl' σ' m' h' tk hP hf S' hs
  cases hf with
  | next => exact hP A _ m' K R S' fun fl fl' σ'' m'' h'' tk' hP' hf' S'' hs' => hK fl fl' σ'' m'' h'' tk' hP' hf' S'' (hs.trans hs')
  | brk => exact hK _ _ _ _ _ _ hP .brk S' hs
  | cont => exact hK _ _ _ _ _ _ hP .cont S' hs
  | ret r => exact hK _ _ _ _ _ _ hP (.ret r) S' hs

theorem SS.mono {X : Cx} {σ : Loc} {st : List Stmt} {P P' : Fl → Loc → Prop} (h : SS X σ st P) (hp : ∀ fl σ', P fl σ' → P' fl σ') : SS X σ st P' :=
  fun A s m K R S hK => h A s m K R S fun fl fl' σ' m' h' tk q => hK fl fl' σ' m' h' tk (hp _ _ q)
/-- fewer names -/
def Sub (σ' σ : Loc) : Prop := ∀ x sl, σ'.lookup x = some sl → σ.lookup x = some sl
theorem St.sub {h₀ : Heap} {ok : Addr → Prop} {L : Addr} {σ σ' : Loc} {h : Heap} {m : Str → Option Value} (S : St N h₀ ok L σ h m) (H : Sub σ' σ) : St N h₀ ok L σ' h m where
  F := S.F
  sl := fun x sl hx => by
    have q := S.sl x sl (H x sl hx)
    have w : ∀ b, (ok b ∧ NotOwn m σ b) → (ok b ∧ NotOwn m σ' b) := fun b hb => ⟨hb.1, fun y ds hy => hb.2 y ds (H y _ hy)⟩
    cases sl with
    | fr d => obtain ⟨v, h1, h2⟩ := q; exact ⟨v, h1, h2.weak w⟩
    | ow ds => obtain ⟨a, vs, n, h1, h0, h2, h3⟩ := q; exact ⟨a, vs, n, h1, h0, h2, h3.weak w⟩
  ap := fun x y ds es hx hy e => S.ap x y ds es (H x _ hx) (H y _ hy) e
theorem Step.sub {L : Addr} {σ σ' σ'' : Loc} {h h' : Heap} {m m' : Str → Option Value} (a : Step L σ h m σ' h' m') (H : Sub σ'' σ') : Step L σ h m σ'' h' m' :=
  ⟨a.pres, fun b o e d n q y ds hy => a.own b o e d n q y ds (H y _ hy)⟩

end Mine
end
section
set_option maxRecDepth 100000
open PySem PySem.W PyProof.Rows PySem.Calls
namespace Mine
variable {N : Nat}

section
variable {X : Cx} {σ : Loc} {sf : Bool} {P : D → Prop}

theorem SE.cnone {k : Nat} {pos : Pos} (h : P .none) : SE X σ sf (.Constant .none k pos) P := fun _ s _ _ _ _ hK =>
  wpAny_Constant_none (hK _ _ s.heap s.toks h (.refl _) .none)
theorem SE.cbool {b : Bool} {k : Nat} {pos : Pos} (h : P (.bool b)) : SE X σ sf (.Constant (.bool b) k pos) P := fun _ s _ _ _ _ hK =>
  wpAny_Constant_bool (hK _ _ s.heap s.toks h (.refl _) (.bool b))
theorem SE.cint {i : Int} {k : Nat} {pos : Pos} (h : P (.int i)) : SE X σ sf (.Constant (.int i) k pos) P := fun _ s _ _ _ _ hK =>
  wpAny_Constant_int (hK _ _ s.heap _ h (.refl _) (.int i _))
theorem SE.cstr {x : Str} {k : Nat} {pos : Pos} (h : P (.str x)) : SE X σ sf (.Constant (.str x) k pos) P := fun _ s _ _ _ _ hK =>
  wpAny_Constant_str (hK _ _ s.heap _ h (.refl _) (.str x _))
theorem SE.name (O : X.Ok) {x : Str} {pos : Pos} {d : D} (hx : σ.lookup x = some (.fr d)) (h : P d) (hl : X.scope.names.lookup x = some .local) (hd : (x == ("__debug__" : Str)) = false := by decide) : SE X σ sf (.Name x pos) P := by
  intro A s m K R S hK
  obtain ⟨v, h1, h2⟩ := S.sl x _ hx
  exact wpAny_Name (wpAny_loadName_local O.hk hl S.F.ns h1 (hK _ _ s.heap s.toks h (.refl _) (h2.weak fun b hb => ⟨hb.1, fun _ => hb.2⟩))) hd
theorem SE.nameO (O : X.Ok) {x : Str} {pos : Pos} {ds : List D} (hx : σ.lookup x = some (.ow ds)) (h : P (.lst ds)) (hl : X.scope.names.lookup x = some .local) (hd : (x == ("__debug__" : Str)) = false := by decide) : SE X σ false (.Name x pos) P := by
  intro A s m K R S hK
  obtain ⟨a, vs, n, h1, h0, h2, h3⟩ := S.sl x _ hx
  refine wpAny_Name (wpAny_loadName_local O.hk hl S.F.ns h1 (hK _ _ s.heap s.toks h (.refl _) ?_)) hd
  exact .lst ⟨O.okb a h0.1, fun e => nomatch e⟩ ⟨_, h2, rfl, n, rfl⟩ (h3.weak fun b hb => ⟨hb.1, fun e => nomatch e⟩)

end

/-- two ints, two bools -/
def int2 (a b : D) (P : Int → Int → Prop) : Prop := match a with
  | .int a => (match b with | .int b => P a b | _ => False)
  | _ => False
def bool2 (a b : D) (P : Bool → Bool → Prop) : Prop := match a with
  | .bool a => (match b with | .bool b => P a b | _ => False)
  | _ => False
theorem int2_inv {a b : D} {P : Int → Int → Prop} (h : int2 a b P) : ∃ i j, a = .int i ∧ b = .int j ∧ P i j := by
  cases a with
  | int i =>
    cases b with
    | int j => exact ⟨i, j, rfl, rfl, h⟩
    | _ => exact False.elim h
  | _ => exact False.elim h
theorem bool2_inv {a b : D} {P : Bool → Bool → Prop} (h : bool2 a b P) : ∃ i j, a = .bool i ∧ b = .bool j ∧ P i j := by
  cases a with
  | bool i =>
    cases b with
    | bool j => exact ⟨i, j, rfl, rfl, h⟩
    | _ => exact False.elim h
  | _ => exact False.elim h
/-- lists put together, or ints -/
def addW (a b : D) (P : D → Prop) : Prop := match a with
  | .lst a => (match b with | .lst b => a.length + b.length ≤ sizeLine ∧ P (.lst (a ++ b)) | _ => False)
  | a => int2 a b fun a b => P (.int (a + b))
theorem addW_inv {a b : D} {P : D → Prop} (h : addW a b P) : (∃ i j, a = .int i ∧ b = .int j ∧ P (.int (i + j))) ∨ ∃ xs ys, a = .lst xs ∧ b = .lst ys ∧ xs.length + ys.length ≤ sizeLine ∧ P (.lst (xs ++ ys)) := by
  cases a with
  | lst xs =>
    cases b with
    | lst ys => exact .inr ⟨xs, ys, rfl, rfl, h⟩
    | _ => exact False.elim h
  | _ => exact .inl (int2_inv h)
def eqW (a b : D) (P : Bool → Prop) : Prop := match a with
  | .str a => (match b with | .str b => P (a == b) | _ => False)
  | a => int2 a b fun a b => P (decide (a = b))
theorem eqW_inv {a b : D} {P : Bool → Prop} (h : eqW a b P) : (∃ i j, a = .int i ∧ b = .int j ∧ P (decide (i = j))) ∨ ∃ x y, a = .str x ∧ b = .str y ∧ P (x == y) := by
  cases a with
  | str x =>
    cases b with
    | str y => exact .inr ⟨x, y, rfl, rfl, h⟩
    | _ => exact False.elim h
  | _ => exact .inl (int2_inv h)
/-- an operator's word -/
def opW (op : Operator) (a b : D) (P : D → Prop) : Prop := match op with
  | .Add => addW a b P
  | .Sub => int2 a b fun a b => P (.int (a - b))
  | .Mult => int2 a b fun a b => IntMulOk a b ∧ P (.int (a * b))
  | .FloorDiv => int2 a b fun a b => b ≠ 0 ∧ b.natAbs.log2 < 9000 ∧ P (.int (a.fdiv b))
  | .Mod => int2 a b fun a b => b ≠ 0 ∧ P (.int (a.fmod b))
  | .Pow => int2 a b fun a b => 0 ≤ b ∧ b ≤ 1000000 ∧ a.natAbs < 2 ^ 64 ∧ P (.int (a ^ b.toNat))
  | .LShift => int2 a b fun a b => 0 ≤ b ∧ (Builtin.Int.intBits a : Int) + b ≤ 2 ^ 27 ∧ P (.int (a * 2 ^ b.toNat))
  | .RShift => int2 a b fun a b => 0 ≤ b ∧ P (.int (a.fdiv (2 ^ b.toNat)))
  | .BitAnd => int2 a b fun a b => P (.int (Builtin.bitAnd a b))
  | .BitOr => int2 a b fun a b => P (.int (Builtin.bitOr a b))
  | .BitXor => int2 a b fun a b => P (.int (Builtin.bitXor a b))
  | _ => False

theorem Rep.int_inv {h : Heap} {ok : Addr → Prop} {v : Value} {i : Int} (r : Rep h ok v (.int i)) : ∃ t, v = .int i t := by cases r; exact ⟨_, rfl⟩
theorem Rep.bool_inv {h : Heap} {ok : Addr → Prop} {v : Value} {i : Bool} (r : Rep h ok v (.bool i)) : v = .bool i := by cases r; rfl
theorem Rep.lst_inv {h : Heap} {ok : Addr → Prop} {v : Value} {ds : List D} (r : Rep h ok v (.lst ds)) : ∃ a vs, v = .ref a ∧ ok a ∧ h.IsList a (List.toArray vs) ∧ Reps h ok vs ds := by cases r; exact ⟨_, _, rfl, by assumption, by assumption, by assumption⟩
theorem Rep.tup_inv {h : Heap} {ok : Addr → Prop} {v : Value} {ds : List D} (r : Rep h ok v (.tup ds)) : ∃ a vs, v = .ref a ∧ h.IsTuple a (List.toArray vs) ∧ Reps h ok vs ds := by cases r; exact ⟨_, _, rfl, by assumption, by assumption⟩
theorem Rep.bytes_inv {h : Heap} {ok : Addr → Prop} {v : Value} {i : Array UInt8} (r : Rep h ok v (.bytes i)) : ∃ t, v = .bytes i t := by cases r; exact ⟨_, rfl⟩
theorem Rep.str_inv {h : Heap} {ok : Addr → Prop} {v : Value} {i : Str} (r : Rep h ok v (.str i)) : ∃ t, v = .str i t := by cases r; exact ⟨_, rfl⟩

theorem isList_new {h : Heap} {vs : List Value} : (h.push { cls := .type "list", data := .seq vs.toArray }).IsList h.objs.size vs.toArray := ⟨_, Heap.get?_push_size _ rfl, rfl, 0, rfl⟩
theorem isTuple_new {h : Heap} {vs : List Value} : (h.push { cls := .type "tuple", data := .seq vs.toArray }).IsTuple h.objs.size vs.toArray := ⟨_, Heap.get?_push_size _ rfl, rfl, 0, rfl⟩

section
variable {X : Cx} {σ : Loc} {sf : Bool} {P : D → Prop}

theorem op_sound (O : X.Ok) {A : Around} {s : Shared} {m : Str → Option Value} {K : Value → Shared → Prop} (S : X.St σ s.heap m) {op : Operator} {a b : D} {va vb : Value} (H : opW op a b P) (ra : Rep s.heap (okE X m σ sf) va a) (rb : Rep s.heap (okE X m σ sf) vb b)
    (hK : ∀ d v h' tk, P d → Ext X.G.n s.heap h' → Rep h' (okE X m σ sf) v d → K v { s with heap := h', toks := tk }) : wpAny (model X.G.prog X.G.w) A (binaryOp op va vb) K NoE s := by
  have fin : ∀ i : Int, P (.int i) → K (.int i s.toks) { s with toks := s.toks + 1 } := fun i hp => hK _ _ s.heap (s.toks + 1) hp (.refl _) (.int i _)
  have I : ∀ {Pi : Int → Int → Prop}, int2 a b Pi → ∃ i j t u, va = .int i t ∧ vb = .int j u ∧ Pi i j := fun h => by
    obtain ⟨i, j, rfl, rfl, hp⟩ := int2_inv h
    obtain ⟨t, rfl⟩ := ra.int_inv
    obtain ⟨u, rfl⟩ := rb.int_inv
    exact ⟨i, j, t, u, rfl, rfl, hp⟩
  cases op with
  | Add =>
    rcases addW_inv H with ⟨i, j, rfl, rfl, H⟩ | ⟨xs, ys, rfl, rfl, H⟩
    · obtain ⟨t, rfl⟩ := ra.int_inv; obtain ⟨u, rfl⟩ := rb.int_inv; exact wpAny_add_int (fin _ H)
    · obtain ⟨a, vs, rfl, _, hl, ra⟩ := ra.lst_inv
      obtain ⟨b, us, rfl, _, hl', rb⟩ := rb.lst_inv
      obtain ⟨⟨c1, d1, q1, l1⟩, ho, hc, n1, hd⟩ := id hl
      obtain ⟨⟨c2, d2, q2, l2⟩, ho2, hc2, n2, hd2⟩ := id hl'
      dsimp only at hc hd hc2 hd2
      subst hc hd hc2 hd2
      refine concat_meets ⟨_, ho, rfl⟩ ⟨_, ho2, rfl⟩ noFill_list_add seq_list_add PySem.F.slot_list_add PySem.F.entry_list_add (PySem.F.args_list_add_2 _ _)
        (list_addW a b vs.toArray us.toArray n1 n2 d1 d2 l1 l2 (by rw [List.size_toArray, List.size_toArray, ra.length, rb.length]; exact H.1)) ⟨ho, ho2, ?_⟩
      rw [List.append_toArray]
      exact hK _ _ _ s.toks H.2 (Ext.push _ _) (.lst (okE_fresh O S (Nat.le_refl _)) isList_new ((ra.append rb).ext (Ext.push (N := X.G.n) _ _)))
  | Sub => obtain ⟨i, j, t, u, rfl, rfl, H⟩ := I H; exact sub_int' (fin _ H)
  | Mult => obtain ⟨i, j, t, u, rfl, rfl, H⟩ := I H; exact PyProof.Rows.mul_int (fin _ H.2) H.1
  | FloorDiv => obtain ⟨i, j, t, u, rfl, rfl, H⟩ := I H; exact PyProof.Rows.floordiv_int H.1 (fin _ H.2.2) (.inl (PyProof.noPylong_of_log2 H.2.1))
  | Mod => obtain ⟨i, j, t, u, rfl, rfl, H⟩ := I H; exact mod_int' H.1 (fin _ H.2)
  | Pow => obtain ⟨i, j, t, u, rfl, rfl, H⟩ := I H; exact pow_int_small H.1 H.2.1 H.2.2.1 (fin _ H.2.2.2)
  | LShift => obtain ⟨i, j, t, u, rfl, rfl, H⟩ := I H; exact PyProof.Rows.lshift_int H.1 H.2.1 (fin _ H.2.2)
  | RShift => obtain ⟨i, j, t, u, rfl, rfl, H⟩ := I H; exact PyProof.Rows.rshift_int H.1 (fin _ H.2)
  | BitAnd => obtain ⟨i, j, t, u, rfl, rfl, H⟩ := I H; exact PyProof.Rows.and_int (fin _ H)
  | BitOr => obtain ⟨i, j, t, u, rfl, rfl, H⟩ := I H; exact PyProof.Rows.or_int (fin _ H)
  | BitXor => obtain ⟨i, j, t, u, rfl, rfl, H⟩ := I H; exact PyProof.Rows.xor_int (fin _ H)
  | _ => exact False.elim H

theorem SE.bin (O : X.Ok) {op : Operator} {l r : Expr} {pos : Pos} (h : SE X σ sf l (fun a => SE X σ sf r (fun b => opW op a b P))) : SE X σ sf (.BinOp l op r pos) P := by
  intro A s m K R S hK
  refine wpAny_BinOp (h A s m _ R S fun a va h1 t1 ha e1 ra => ?_)
  refine ha A _ m _ R (S.ext e1) fun b vb h2 t2 hb e2 rb => ?_
  exact op_sound O ((S.ext e1).ext e2) hb (ra.ext e2) rb fun d v h' tk hp e3 r => hK d v h' tk hp ((e1.trans e2).trans e3) r

/-- the unary minus -/
theorem SE.neg {x : Expr} {pos : Pos} (h : SE X σ sf x (fun a => match a with | .int i => P (.int (-i)) | _ => False)) : SE X σ sf (.UnaryOp .USub x pos) P := by
  intro A s m K R S hK
  refine wpAny_UnaryOp (h A s m _ R S fun a va h1 t1 ha e1 ra => ?_)
  cases a with
  | int i => obtain ⟨t, rfl⟩ := ra.int_inv; exact PyProof.Rows.neg_int (hK _ _ h1 _ ha e1 (.int _ _))
  | _ => exact ha.elim

/-- a comparison's word -/
def cmpW (op : CmpOp) (a b : D) (P : Bool → Prop) : Prop := match op with
  | .Lt => int2 a b fun a b => P (decide (a < b))
  | .LtE => int2 a b fun a b => P (decide (a ≤ b))
  | .Gt => int2 a b fun a b => P (decide (b < a))
  | .GtE => int2 a b fun a b => P (decide (b ≤ a))
  | .Eq => eqW a b P
  | .NotEq => int2 a b fun a b => P (!decide (a = b))
  | .Is => bool2 a b fun a b => P (a == b)
  | .IsNot => bool2 a b fun a b => P (!(a == b))
  | _ => False

theorem bool_beq (a b : Bool) : (Value.bool a == Value.bool b) = (a == b) := by cases a <;> cases b <;> decide
theorem cmp_sound {A : Around} {s : Shared} {ok : Addr → Prop} {K : Value → Shared → Prop} {Q : Bool → Prop} {op : CmpOp} {a b : D} {va vb : Value} (H : cmpW op a b Q) (ra : Rep s.heap ok va a) (rb : Rep s.heap ok vb b)
    (hK : ∀ b, Q b → K (.bool b) s) : wpAny (model X.G.prog X.G.w) A (compareOp op va vb) K NoE s := by
  have I : ∀ {Pi : Int → Int → Prop}, int2 a b Pi → ∃ i j t u, va = .int i t ∧ vb = .int j u ∧ Pi i j := fun h => by
    obtain ⟨i, j, rfl, rfl, hp⟩ := int2_inv h
    obtain ⟨t, rfl⟩ := ra.int_inv
    obtain ⟨u, rfl⟩ := rb.int_inv
    exact ⟨i, j, t, u, rfl, rfl, hp⟩
  cases op with
  | Lt => obtain ⟨i, j, t, u, rfl, rfl, H⟩ := I H; exact PyProof.Rows.lt_int (hK _ H)
  | LtE => obtain ⟨i, j, t, u, rfl, rfl, H⟩ := I H; exact PyProof.Rows.le_int (hK _ H)
  | Gt => obtain ⟨i, j, t, u, rfl, rfl, H⟩ := I H; exact PyProof.Rows.gt_int (hK _ H)
  | GtE => obtain ⟨i, j, t, u, rfl, rfl, H⟩ := I H; exact PyProof.Rows.ge_int (hK _ H)
  | Eq =>
    rcases eqW_inv H with ⟨i, j, rfl, rfl, H⟩ | ⟨x, y, rfl, rfl, H⟩
    · obtain ⟨t, rfl⟩ := ra.int_inv; obtain ⟨u, rfl⟩ := rb.int_inv; exact PyProof.Rows.eq_int (hK _ H)
    · obtain ⟨t, rfl⟩ := ra.str_inv; obtain ⟨u, rfl⟩ := rb.str_inv; exact PyProof.Rows.eq_str (hK _ H)
  | NotEq => obtain ⟨i, j, t, u, rfl, rfl, H⟩ := I H; exact PyProof.Rows.ne_int (hK _ H)
  | Is =>
    obtain ⟨i, j, rfl, rfl, H⟩ := bool2_inv H
    cases ra.bool_inv; cases rb.bool_inv; exact is_bool (hK _ H)
  | IsNot =>
    obtain ⟨i, j, rfl, rfl, H⟩ := bool2_inv H
    cases ra.bool_inv; cases rb.bool_inv; exact wpAny_isNot_plain rfl (hK _ (by rw [show (Value.bool _ == Value.bool _) = _ from bool_beq _ _]; exact H))
  | _ => exact False.elim H

theorem SE.cmp {op : CmpOp} {l r : Expr} {pos : Pos} (h : SE X σ sf l (fun a => SE X σ sf r (fun b => cmpW op a b fun c => P (.bool c)))) (hm : behindInMarks op r = false := by with_unfolding_all rfl) : SE X σ sf (.Compare l [op] [r] pos) P := by
  intro A s m K R S hK
  refine wpAny_Compare1 (h A s m _ R S fun a va h1 t1 ha e1 ra => ?_) hm
  refine ha A _ m _ R (S.ext e1) fun b vb h2 t2 hb e2 rb => ?_
  exact cmp_sound hb (ra.ext e2) rb fun c hc => hK _ _ h2 t2 hc (e1.trans e2) (.bool c)

/-- the conditional expression -/
theorem SE.ifexp {test body orelse : Expr} {pos : Pos} (h : ST X σ test (fun c => if c then SE X σ sf body P else SE X σ sf orelse P)) : SE X σ sf (.IfExp test body orelse pos) P := by
  intro A s m K R S hK
  refine wpAny_IfExp (h A s m _ R S fun c h1 t1 hc e1 => ?_)
  cases c with
  | true => exact hc A _ m _ R (S.ext e1) fun d v h' tk hp e2 r => hK d v h' tk hp (e1.trans e2) r
  | false => exact hc A _ m _ R (S.ext e1) fun d v h' tk hp e2 r => hK d v h' tk hp (e1.trans e2) r

/-- tests -/
theorem ST.cmp {l r : Expr} {op : CmpOp} {pos : Pos} {Q : Bool → Prop} (h : SE X σ false l (fun a => SE X σ false r (fun b => cmpW op a b Q))) (hm : behindInMarks op r = false := by with_unfolding_all rfl) : ST X σ (.Compare l [op] [r] pos) Q := by
  intro A s m K R S hK
  refine wpAny_isTrue_Compare1 (h A s m _ R S fun a va h1 t1 ha e1 ra => ?_) hm
  refine ha A _ m _ R (S.ext e1) fun b vb h2 t2 hb e2 rb => ?_
  exact cmp_sound hb (ra.ext e2) rb fun c hc => wpAny_truthy_bool (hK _ h2 t2 hc (e1.trans e2))
theorem ST.not {x : Expr} {pos : Pos} {Q : Bool → Prop} (h : ST X σ x (fun b => Q (!b))) : ST X σ (.UnaryOp .Not x pos) Q := fun A s m _ R S hK =>
  isTrue_not (h A s m _ R S fun _ h' tk hb e => hK _ h' tk hb e)
/-- a value's truth -/
def truW (d : D) (Q : Bool → Prop) : Prop := match d with
  | .bool b => Q b
  | .int i => Q (i != 0)
  | _ => False
theorem tru_sound {A : Around} {s : Shared} {ok : Addr → Prop} {K : Bool → Shared → Prop} {Q : Bool → Prop} {a : D} {va : Value} (H : truW a Q) (ra : Rep s.heap ok va a) (hK : ∀ b, Q b → K b s) : wpAny (model X.G.prog X.G.w) A (truthy va) K NoE s := by
  unfold truW at H
  split at H
  · cases ra.bool_inv; exact wpAny_truthy_bool (hK _ H)
  · obtain ⟨t, rfl⟩ := ra.int_inv; exact PySem.P.truthy_int (hK _ H)
  · exact H.elim
theorem ST.plain {e : Expr} {Q : Bool → Prop} (h : SE X σ false e (fun d => truW d Q))
    (hp : ∀ (env : Env) (whole : Sem Value), isTrue e env whole = (do let v ← whole; standAt e.pos; holding [v] (truthy v)) := by intro _ _; rfl) : ST X σ e Q := by
  intro A s m K R S hK
  refine isTrue_plain (h A s m _ R S fun d v h1 t1 hd e1 r => ?_) (hp _ _)
  exact tru_sound hd r fun b hb => hK b h1 t1 hb e1
/-- two comparisons in a chain -/
theorem ST.chain {l r₁ r₂ : Expr} {o₁ o₂ : CmpOp} {pos : Pos} {Q : Bool → Prop} (h : SE X σ false l (fun a => SE X σ false r₁ (fun b => cmpW o₁ a b fun c => if c then SE X σ false r₂ (fun d => cmpW o₂ b d Q) else Q false)))
    (hm : lastMarks [o₁, o₂] [r₁, r₂] = false := by with_unfolding_all rfl) : ST X σ (.Compare l [o₁, o₂] [r₁, r₂] pos) Q := by
  intro A s m K R S hK
  refine isTrue_chain (h A s m _ R S fun a va h1 t1 ha e1 ra => ?_) hm
  refine test_link (ha A _ m _ R (S.ext e1) fun b vb h2 t2 hb e2 rb => ?_)
  refine cmp_sound hb (ra.ext e2) rb fun c hc => wpAny_truthy_bool ?_
  cases c with
  | false => exact hK _ h2 t2 hc (e1.trans e2)
  | true =>
    refine test_last (hc A _ m _ R ((S.ext e1).ext e2) fun d vd h3 t3 hd e3 rd => ?_)
    exact cmp_sound hd (rb.ext e3) rd fun c hc => wpAny_truthy_bool (hK _ h3 t3 hc ((e1.trans e2).trans e3))
/-- lists of expressions -/
theorem SEs.nil {Q : List D → Prop} (h : Q []) : SEs X σ sf [] Q := fun _ s _ _ _ _ _ hK => spliced_none (hK _ _ s.heap s.toks h (.refl _) .nil)
theorem SEs.cons {e : Expr} {rest : List Expr} {Q : List D → Prop} (h : SE X σ sf e (fun d => SEs X σ sf rest (fun ds => Q (d :: ds)))) (he : ∀ env, starEach (e :: rest) env = (false, eval e env) :: starEach rest env := by intro _; rfl) : SEs X σ sf (e :: rest) Q := by
  intro A s m pos K R S hK
  refine spliced_more (h A s m _ R S fun d v h1 t1 hd e1 r => ?_) (he _)
  exact hd A _ m pos _ R (S.ext e1) fun ds vs h2 t2 hq e2 rs => hK _ _ h2 t2 hq (e1.trans e2) (.cons (r.ext e2) rs)
theorem SE.tuple {es : List Expr} {k : Nat} {pos : Pos} (h : SEs X σ sf es (fun ds => ds.length ≤ 1000 ∧ P (.tup ds))) : SE X σ sf (.Tuple es k pos) P := by
  intro A s m K R S hK
  refine Tuple_ (h A s m pos _ R S fun ds vs h1 t1 hd e1 rs => ?_)
  refine wpAny_newObj_type ?_ (by show vs.toArray.size ≤ sizeLine; rw [List.size_toArray, rs.length]; exact Nat.le_trans hd.1 (by decide))
  exact hK _ _ _ t1 hd.2 (e1.trans (Ext.push _ _)) (.tup isTuple_new (rs.ext (Ext.push (N := X.G.n) _ _)))
theorem SE.list (O : X.Ok) {es : List Expr} {pos : Pos} (h : SEs X σ sf es (fun ds => ds.length ≤ 1000 ∧ P (.lst ds))) : SE X σ sf (.List es pos) P := by
  intro A s m K R S hK
  refine List_ (h A s m pos _ R S fun ds vs h1 t1 hd e1 rs => ?_)
  refine wpAny_newObj_type ?_ (by show vs.toArray.size ≤ sizeLine; rw [List.size_toArray, rs.length]; exact Nat.le_trans hd.1 (by decide))
  exact hK _ _ _ t1 hd.2 (e1.trans (Ext.push _ _)) (.lst (okE_fresh O (S.ext e1) (Nat.le_refl _)) isList_new (rs.ext (Ext.push (N := X.G.n) _ _)))

end
end Mine
end
section
set_option maxRecDepth 100000
open PySem PySem.W PyProof.Rows PySem.Calls
namespace Mine

/-- an item -/
def subW (a b : D) (P : D → Prop) : Prop := match a, b with
  | .lst ds, .int i => (0 ≤ i ∧ i < 2 ^ 63 ∧ ∃ d, ds[i.toNat]? = some d ∧ P d) ∨ (i = -1 ∧ ∃ d, ds.getLast? = some d ∧ P d)
  | .tup ds, .int i => 0 ≤ i ∧ i < 2 ^ 63 ∧ ∃ d, ds[i.toNat]? = some d ∧ P d
  | .bytes b, .int i => 0 ≤ i ∧ i < b.size ∧ b.size ≤ 1099511627776 ∧ P (.int (b.toList.getD i.toNat 0).toNat)
  | _, _ => False

section
variable {X : Cx} {σ : Loc} {sf : Bool} {P : D → Prop}

theorem sub_sound {A : Around} {s : Shared} {ok : Addr → Prop} {K : Value → Shared → Prop} {value slice : Expr} {a b : D} {va vb : Value} (H : subW a b P) (ra : Rep s.heap ok va a) (rb : Rep s.heap ok vb b)
    (hs : subscripted slice false va vb = operate [va, vb] (getItem va vb))
    (hK : ∀ d v tk, P d → Rep s.heap ok v d → K v { s with toks := tk }) : wpAny (model X.G.prog X.G.w) A (subscriptTail value slice va vb) K NoE s := by
  unfold subW at H
  split at H
  · rename_i ds i
    obtain ⟨l, vs, rfl, hok, hl, rs⟩ := ra.lst_inv
    obtain ⟨t, rfl⟩ := rb.int_inv
    rcases H with ⟨h0, h1, d, hd, hp⟩ | ⟨rfl, d, hd, hp⟩
    · obtain ⟨v, hv, rv⟩ := rs.get hd
      exact tail_any hl.typeIs slot_list_getitem.lookup (wpAny_getItem_list hl h0 h1 (by simpa using hv) (hK d v s.toks hp rv)) hs
    · have hne : 0 < ds.length := by
        cases ds with
        | nil => cases hd
        | cons _ _ => exact Nat.succ_pos _
      have hd' : ds[ds.length - 1]? = some d := by rw [← hd, List.getLast?_eq_getElem?]
      obtain ⟨v, hv, rv⟩ := rs.get hd'
      have hlen := rs.length
      refine tail_any hl.typeIs slot_list_getitem.lookup (wpAny_getItem_list_neg hl (by omega) (by simp only [List.size_toArray]; omega) (by omega) (x := v) ?_ (hK d v s.toks hp rv)) hs
      have : (-1 + ((vs.toArray.size : Nat) : Int)).toNat = ds.length - 1 := by simp only [List.size_toArray]; omega
      rw [this]
      simpa using hv
  · rename_i ds i
    obtain ⟨l, vs, rfl, hl, rs⟩ := ra.tup_inv
    obtain ⟨t, rfl⟩ := rb.int_inv
    obtain ⟨h0, h1, d, hd, hp⟩ := H
    obtain ⟨v, hv, rv⟩ := rs.get hd
    have hlt : i.toNat < vs.length := by
      rcases Nat.lt_or_ge i.toNat vs.length with h | h
      · exact h
      · rw [List.getElem?_eq_none h] at hv; cases hv
    exact item_tupleT hl (by omega) h1 (seqIndex_of h0 (by omega)) hv (hK d v s.toks hp rv) hs
  · rename_i b i
    obtain ⟨t, rfl⟩ := ra.bytes_inv
    obtain ⟨u, rfl⟩ := rb.int_inv
    obtain ⟨h0, h1, h2, hp⟩ := H
    have e : b = b.toList.toArray := by simp
    rw [e]
    rw [e] at hs
    refine tail_any (typeIs_bytes _ _ _) FB.slot_bytes_getitem.lookup (getItem_bytes (by simpa using h2) h0 (by simpa using h1) (hK _ _ _ hp (.int _ _))) hs
  · exact H.elim

theorem SE.sub {value slice : Expr} {pos : Pos} (h : SE X σ sf value (fun a => SE X σ sf slice (fun b => subW a b P)))
    (hs : ∀ o i, subscripted slice false o i = operate [o, i] (getItem o i) := by intro _ _; rfl) : SE X σ sf (.Subscript value slice pos) P := by
  intro A s m K R S hK
  refine Subscript_ (h A s m _ R S fun a va h1 t1 ha e1 ra => ?_)
  refine ha A _ m _ R (S.ext e1) fun b vb h2 t2 hb e2 rb => ?_
  exact sub_sound hb (ra.ext e2) rb (hs _ _) fun d v tk hp r => hK d v h2 tk hp (e1.trans e2) r

/-- bit_length -/
theorem SE.bitlen {o : Expr} {apos pos : Pos} (h : SE X σ sf o (fun a => match a with | .int i => P (.int (Builtin.Int.intBits i : Nat)) | _ => False))
    (hb : ∀ env, attributeBase o (Str.ofString "bit_length") env (eval o env) = eval o env := by intro _; rfl) (hl : (apos.endLine == pos.line) = true := by rfl) :
    SE X σ sf (.Call (.Attribute o (Str.ofString "bit_length") apos) [] [] pos) P := by
  intro A s m K R S hK
  refine wpAny_Call_method0_late (hb _) hl (h A s m _ R S fun a va h1 t1 ha e1 ra => ?_)
  cases a with
  | int i =>
    obtain ⟨t, rfl⟩ := ra.int_inv
    refine ⟨"int", "int.bit_length", PySem.F.plainAttrs_int, PyProof.Rows.slot_int_bit_length, PyProof.Rows.type_int_bit_length, typeIs_int _ i t, (fun _ e => nomatch e), ?_⟩
    refine callWith_builtin rfl ?_
    refine PyProof.Rows.evalArgs_none ?_
    exact PyProof.Rows.call_int_bit_length (hK _ _ h1 _ ha e1 (.int _ _))
  | _ => exact ha.elim

/-- a call of a built-in function or type, or of the text's own def -/
theorem spliced_args {A : Around} {s : Shared} {env : Env} {e : Expr} {rest : List Expr} {pos : Pos} {f : Value} {M : Model} {Q : Args → Shared → Prop} {E : Value → Shared → Prop} (he : starEach (e :: rest) env = (false, eval e env) :: starEach rest env)
    (h : wpAny M A (spliced (backTo pos (starEach (e :: rest) env))) (fun vs s' => Q ⟨vs, []⟩ s') E s) : wpAny M A (evalArgs f true (backTo pos (starEach (e :: rest) env)) []) Q E s := by
  have e1 : backTo pos (starEach (e :: rest) env) = (false, eval e env) :: backTo pos (starEach rest env) := by
    rw [he]; simp [backTo]
  rw [e1] at h ⊢
  exact evalArgs_plain h

theorem SE.butlast (O : X.Ok) {value : Expr} {n : Int} {k : Nat} {u up p pos : Pos}
    (h : SE X σ sf value (fun a => match a with | .lst ds => ds.length ≤ sizeLine ∧ 1 ≤ n ∧ P (.lst (ds.take (ds.length - n.toNat))) | _ => False))
    (ht : ∀ o r, letTemporaryGo value o r = pure () := by intro _ _; rfl) :
    SE X σ sf (.Subscript value (.Slice none (some (.UnaryOp .USub (.Constant (.int n) k u) up)) none p) pos) P := by
  intro A s m K R S hK
  refine wpAny_Subscript_list_slice (h A s m _ R S fun a va h1 t1 ha e1 ra => ?_) ht
  rw [evalPart_none, evalPart_some]
  refine wpAny_pure ?_
  refine wpAny_UnaryOp (wpAny_Constant_int (PyProof.Rows.neg_int ?_))
  cases a with
  | lst ds =>
    obtain ⟨l, vs, rfl, hok, hl, rs⟩ := ra.lst_inv
    obtain ⟨h4, h5, hp⟩ := ha
    refine ⟨l, vs.toArray, none, some (-n), rfl, hl, by rw [List.size_toArray, rs.length]; exact h4, .none, .int _ _, ?_⟩
    obtain ⟨x, rfl⟩ := Int.eq_ofNat_of_zero_le (show 0 ≤ n by omega)
    dsimp only
    have e : (vs.toArray.toList.take (vs.toArray.size - x)) = vs.take (ds.length - x) := by rw [List.size_toArray, rs.length]
    rw [slicePick_butLast vs.toArray x (by omega), e]
    refine hK _ _ _ _ hp ((e1.trans (Ext.push _ _)).trans (Ext.push _ _)) ?_
    rw [← Heap.size_push h1]
    refine .lst (okE_fresh O ((S.ext e1).ext (Ext.push _ _)) (Nat.le_refl _)) isList_new ?_
    exact (rs.take _).ext ((Ext.push (N := X.G.n) _ _).trans (Ext.push _ _))
  | _ => exact ha.elim
end
end Mine
end
section
set_option maxRecDepth 100000
open PySem PySem.W PyProof.Rows PySem.Calls
namespace Mine
variable {N : Nat}

/-- a def of the text stands under a global name -/
def HasDef (G : GG) (d : DefRec) : Prop :=
  ∃ f o pm code doc, G.mg d.name = some (.ref f) ∧ G.top.get? f = some o ∧ o.data = .func (docDef d.name d.params d.body d.scope pm code doc) ∧ G.top.CodeRec code d.name
def IsFn (G : GG) (name : Str) : Prop := ∃ f o fd, G.mg name = some (.ref f) ∧ G.top.get? f = some o ∧ o.data = .func fd
theorem HasDef.fn {G : GG} {d : DefRec} (h : HasDef G d) : IsFn G d.name := by
  obtain ⟨f, o, pm, code, doc, h1, h2, h3, _⟩ := h
  exact ⟨f, o, _, h1, h2, h3⟩

/-- what a def of the text does, for these data -/
def Spec (G : GG) (k : Nat) (nh : Prop) (name : Str) (ds : List D) (P : D → Prop) : Prop :=
  ∀ f, G.mg name = some (.ref f) →
    ∀ (A : Around) (s : Shared) (vs : List Value) (ok : Addr → Prop) (K : Value → Shared → Prop) (fs : List Env), A.frames = some fs → (∀ env ∈ fs, FrE G.n s.heap env) → Ext G.n G.top s.heap → G.n ≤ s.heap.objs.size → A.depth + k < recursionLimit → A.units + 20 * k + 100 < cLine → (nh → A.handled = none) →
      (∀ a, s.heap.objs.size ≤ a → ok a) → Reps s.heap ok vs ds →
      (∀ d v h' tk, P d → Ext G.n s.heap h' → Rep h' ok v d → K v { s with heap := h', toks := tk }) → wpAny (model G.prog G.w) A (call (.ref f) vs) K NoE s

theorem Spec.mono {G : GG} {k : Nat} {nh : Prop} {name : Str} {ds : List D} {P P' : D → Prop} (h : Spec G k nh name ds P) (hp : ∀ d, P d → P' d) : Spec G k nh name ds P' :=
  fun f hf A s vs ok K fs hfs hfe e ez hd hu hh ho hr hK => h f hf A s vs ok K fs hfs hfe e ez hd hu hh ho hr fun d v h' tk hp' => hK d v h' tk (hp d hp')

theorem St.topExt {X : Cx} (O : X.Ok) {σ : Loc} {h : Heap} {m : Str → Option Value} (S : X.St σ h m) : Ext X.G.n X.G.top h := O.tp.trans S.F.keep
theorem St.topSize {X : Cx} (O : X.Ok) {σ : Loc} {h : Heap} {m : Str → Option Value} (S : X.St σ h m) : X.G.n ≤ h.objs.size := Nat.le_trans O.tz S.base_lt
theorem St.frames {X : Cx} (O : X.Ok) {σ : Loc} {h : Heap} {m : Str → Option Value} (S : X.St σ h m) : ∀ env ∈ X.frames, FrE X.G.n h env := by
  intro env he
  rcases O.fo env he with f | ⟨h1, h2⟩
  · exact f.ext S.F.keep
  · obtain ⟨o, es, ep, ho, hd, _⟩ := S.F.ns
    exact ⟨h2, _, o, es, _, h1, ho, hd, Nat.le_trans O.tz S.F.above⟩
theorem St.gNs {X : Cx} (O : X.Ok) {σ : Loc} {h : Heap} {m : Str → Option Value} (S : X.St σ h m) : h.Ns X.env.globals X.G.mg := O.hg ▸ (St.topExt O S).ns O.GO.g
theorem St.bNs {X : Cx} (O : X.Ok) {σ : Loc} {h : Heap} {m : Str → Option Value} (S : X.St σ h m) : h.Ns X.env.builtins X.G.mb := O.hb ▸ (St.topExt O S).ns O.GO.b

section
variable {X : Cx} {σ : Loc} {sf : Bool} {P : D → Prop}

/-- a call of a def -/
theorem SE.call (O : X.Ok) {k : Nat} {nh : Prop} {f : Str} {e : Expr} {rest : List Expr} {np pos : Pos} (h : SEs X σ sf (e :: rest) (fun ds => Spec X.G k nh f ds P)) (hf : IsFn X.G f) (hk : k ≤ X.k) (hn : nh → X.nh)
    (hx : X.scope.names.lookup f = some .globalImplicit) (he : ∀ env, starEach (e :: rest) env = (false, eval e env) :: starEach rest env := by intro _; rfl) (hd : (f == ("__debug__" : Str)) = false := by decide) :
    SE X σ sf (.Call (.Name f np) (e :: rest) [] pos) P := by
  intro A s m K R S hK
  obtain ⟨fa, o, fd, hfa, hto, hdat⟩ := hf
  refine wpAny_Call_NameR (Name_function_global O.hk hx (loadGlobal_global (St.gNs O S) hfa ?_) hd)
  refine callWith_function (o := o) (fd := fd) (spliced_args (he _) (h A s m pos _ R S fun ds vs h1 t1 hs e1 rs => ?_))
  refine ⟨⟨(((St.topExt O S).trans e1).nd _ _ hto fun _ _ q => by rw [hdat] at q; cases q), hdat⟩, ?_⟩
  have S1 := S.ext e1
  refine hs fa hfa A _ vs (okE X m σ sf) K X.frames R.fr (St.frames O S1) (S1.topExt O) (S1.topSize O) ?_ ?_ (fun x => R.h (hn x)) (fun _ H => okE_fresh O S1 H) rs fun d v h' tk hp e2 r => hK d v h' tk hp (e1.trans e2) r
  · have := R.d; omega
  · have := R.u; omega

/-- a call of a built-in thing -/
def BSpec (X : Cx) (sf : Bool) (σ : Loc) (b : Value) (ds : List D) (P : D → Prop) : Prop :=
  ∀ (A : Around) (s : Shared) (m : Str → Option Value) (vs : List Value) (K : Value → Shared → Prop), Room X A → X.St σ s.heap m → Reps s.heap (okE X m σ sf) vs ds →
    (∀ d v h' tk, P d → Ext X.G.n s.heap h' → Rep h' (okE X m σ sf) v d → K v { s with heap := h', toks := tk }) → wpAny (model X.G.prog X.G.w) A (call b vs) K NoE s

theorem SE.bcall (O : X.Ok) {f : Str} {b : Value} {e : Expr} {rest : List Expr} {np pos : Pos} (h : SEs X σ sf (e :: rest) (fun ds => BSpec X sf σ b ds P))
    (hb : (∃ id, b = .builtin id) ∨ ∃ T, b = .type T)
    (hm : X.G.mg f = none) (hv : X.G.mb f = some b) (hx : X.scope.names.lookup f = some .globalImplicit) (he : ∀ env, starEach (e :: rest) env = (false, eval e env) :: starEach rest env := by intro _; rfl)
    (hr : ∀ env pos, (backTo pos (starEach (e :: rest) env)).any (·.1) = false := by intro _ _; rfl) (hd : (f == ("__debug__" : Str)) = false := by decide) :
    SE X σ sf (.Call (.Name f np) (e :: rest) [] pos) P := by
  intro A s m K R S hK
  refine wpAny_Call_NameR (Name_function_global O.hk hx (loadGlobal_builtin (St.gNs O S) hm (St.bNs O S) hv ?_) hd)
  have go : ∀ fv, wpAny (model X.G.prog X.G.w) A (evalArgs fv true (backTo pos (starEach (e :: rest) X.env)) []) (fun a s₁ => wpAny (model X.G.prog X.G.w) A (PySem.call b ([] ++ a.pos) a.kw) K NoE s₁) NoE s := fun fv =>
    spliced_args (he _) (h A s m pos _ R S fun ds vs h1 t1 hs e1 rs => hs A _ m vs K R (S.ext e1) rs fun d v h' tk hp e2 r => hK d v h' tk hp (e1.trans e2) r)
  rcases hb with ⟨id, rfl⟩ | ⟨T, rfl⟩
  · exact callWith_builtin (hr _ _) (go _)
  · exact PySem.callWith_type (hr _ _) (go _)

theorem BSpec.len {d : D} (h : match d with | .lst ds => ds.length ≤ 2 ^ 40 ∧ P (.int ds.length) | .bytes b => b.size ≤ 2 ^ 40 ∧ P (.int b.size) | _ => False) : BSpec X sf σ (.builtin "len") [d] P := by
  intro A s m vs K R S rs hK
  cases rs with
  | cons r rs =>
    cases rs
    cases d with
    | lst ds =>
      obtain ⟨l, us, rfl, hok, hl, ra⟩ := r.lst_inv
      have e : (us.toArray.size : Int) = ds.length := by rw [List.size_toArray, ra.length]
      refine call_len_list hl (by rw [e]; have := h.1; omega) ?_
      rw [e]; exact hK _ _ _ _ h.2 (.refl _) (.int _ _)
    | bytes b =>
      obtain ⟨t, rfl⟩ := r.bytes_inv
      exact len_bytes (by have := h.1; omega) (hK _ _ _ _ h.2 (.refl _) (.int _ _))
    | _ => exact h.elim
theorem BSpec.max {a b : Int} (hn : X.nh) (h : P (.int (if b > a then b else a))) : BSpec X sf σ (.builtin "max") [.int a, .int b] P := by
  intro A s m vs K R S rs hK
  cases rs with
  | cons r rs =>
    cases rs with
    | cons r2 rs =>
      cases rs
      obtain ⟨t, rfl⟩ := r.int_inv
      obtain ⟨u, rfl⟩ := r2.int_inv
      refine max_two_ints (R.h hn) fun h' tk e => ?_
      by_cases c : b > a
      · rw [if_pos c] at h ⊢; exact hK _ _ _ _ h (.of e) (.int _ _)
      · rw [if_neg c] at h ⊢; exact hK _ _ _ _ h (.of e) (.int _ _)
theorem BSpec.min {a b : Int} (hn : X.nh) (h : P (.int (if b < a then b else a))) : BSpec X sf σ (.builtin "min") [.int a, .int b] P := by
  intro A s m vs K R S rs hK
  cases rs with
  | cons r rs =>
    cases rs with
    | cons r2 rs =>
      cases rs
      obtain ⟨t, rfl⟩ := r.int_inv
      obtain ⟨u, rfl⟩ := r2.int_inv
      refine min_two_ints (R.h hn) fun h' tk e => ?_
      by_cases c : b < a
      · rw [if_pos c] at h ⊢; exact hK _ _ _ _ h (.of e) (.int _ _)
      · rw [if_neg c] at h ⊢; exact hK _ _ _ _ h (.of e) (.int _ _)
theorem BSpec.range {n : Int} (h : P (.rng n.toNat)) (h0 : 0 ≤ n) : BSpec X sf σ (.type "range") [.int n] P := by
  intro A s m vs K R S rs hK
  cases rs with
  | cons r rs =>
    cases rs
    obtain ⟨t, rfl⟩ := r.int_inv
    refine call_range_1 (hK _ _ _ _ h (Ext.push _ _) (.rng (t := s.toks) (u := t) (v := s.toks + 1) ?_))
    rw [Int.toNat_of_nonneg h0]
    exact Heap.get?_push_size _ rfl
theorem Reps.ints {h : Heap} {ok : Addr → Prop} : ∀ {vs : List Value} {ns : List Int}, Reps h ok vs (ns.map D.int) → IntsAre vs ns
  | [], [], _ => by first | exact .nil | constructor
  | _ :: _, n :: ns, .cons r rs => by
    obtain ⟨t, rfl⟩ := r.int_inv
    first | exact .cons _ _ (Reps.ints rs) | exact .cons (Reps.ints rs)
theorem BSpec.bytes {ns : List Int} (hn : X.nh) (hr : ∀ n ∈ ns, 0 ≤ n ∧ n < 256) (hz : ns.length ≤ sizeLine) (h : P (.bytes (byteArr ns))) : BSpec X sf σ (.type "bytes") [.lst (ns.map D.int)] P := by
  intro A s m vs K R S rs hK
  cases rs with
  | cons r rs =>
    cases rs
    obtain ⟨l, us, rfl, hok, hl, ra⟩ := r.lst_inv
    exact call_bytes_ints hl ra.ints hr (by rw [ra.length, List.length_map]; exact hz) (R.h hn) fun h' t k e => hK _ _ _ _ h (.of e) (.bytes _ _)
end
end Mine
end
section
set_option maxRecDepth 100000
open PySem PySem.W PyProof.Rows PySem.Calls
namespace Mine
variable {N : Nat}

/-- parameters and their data -/
inductive Al (h : Heap) (ok : Addr → Prop) : List (Str × Sl) → List (Str × Value) → Prop
  | nil : Al h ok [] []
  | cons {x : Str} {d : D} {v : Value} {σ : List (Str × Sl)} {b : List (Str × Value)} : Rep h ok v d → Al h ok σ b → Al h ok ((x, .fr d) :: σ) ((x, v) :: b)
section
variable {h : Heap} {ok : Addr → Prop}
theorem Al.append {σ σ' : List (Str × Sl)} {b b' : List (Str × Value)} (a : Al h ok σ b) (c : Al h ok σ' b') : Al h ok (σ ++ σ') (b ++ b') := by
  induction a with
  | nil => exact c
  | cons r _ ih => exact .cons r ih
theorem Al.reverse {σ : List (Str × Sl)} {b : List (Str × Value)} (a : Al h ok σ b) : Al h ok σ.reverse b.reverse := by
  induction a with
  | nil => exact .nil
  | cons r _ ih => rw [List.reverse_cons, List.reverse_cons]; exact ih.append (.cons r .nil)
theorem Al.lookup {σ : List (Str × Sl)} {b : List (Str × Value)} (a : Al h ok σ b) {x : Str} {sl : Sl} (e : σ.lookup x = some sl) : ∃ d v, sl = .fr d ∧ b.lookup x = some v ∧ Rep h ok v d := by
  induction a with
  | nil => cases e
  | @cons y d v σ b r _ ih =>
    simp only [List.lookup] at e ⊢
    split at e
    · cases e; exact ⟨d, v, rfl, rfl, r⟩
    · exact ih e
theorem Al.zip {names : List Str} {ds : List D} {vs : List Value} (hr : Reps h ok vs ds) : Al h ok (names.zip (ds.map Sl.fr)) (names.zip vs) := by
  induction names generalizing ds vs with
  | nil => simpa using Al.nil
  | cons x names ih =>
    cases hr with
    | nil => simpa using Al.nil
    | cons a r => exact .cons a (ih r)
end

/-- a def's body answers for the def -/
theorem Spec.intro {G : GG} (GO : G.Ok) {d : DefRec} (hd : HasDef G d) {k : Nat} {nh : Prop} {ds : List D} {P : D → Prop} {σ : Loc}
    (h : ∀ (h₀ : Heap) (L a : Addr) (cd : Value) (ok : Addr → Prop) (fs : List Env), Cx.Ok ⟨G, h₀, envOf d.name d.scope L a cd, ok, k, nh, envOf d.name d.scope L a cd :: fs⟩ →
      SS ⟨G, h₀, envOf d.name d.scope L a cd, ok, k, nh, envOf d.name d.scope L a cd :: fs⟩ σ d.body (fun fl _ => match fl with | .ret d => P d | _ => False))
    (hbind : ∀ pm code doc (vs : List Value), vs.length = ds.length → bindArgs (docDef d.name d.params d.body d.scope pm code doc) ⟨vs, []⟩ = pure ((d.params.args.map (·.arg)).zip vs))
    (hσ : ((d.params.args.map (·.arg)).zip (ds.map Sl.fr)).reverse = σ)
    (hloc : ∀ x ∈ d.params.args.map (·.arg), d.scope.names.lookup x = some .local)
    (hco : d.scope.isCoroutine = false) (hgen : d.scope.isGenerator = false) (hk : d.scope.kind = .function)
    (hcell : ∀ x ∈ d.scope.names, x.2 ≠ .cell) : Spec G (k + 1) nh d.name ds P := by
  intro f hf A s vs ok K fs hfs hfe hE hez hdp hun hnh hok hr hK
  obtain ⟨f', o, pm, code, doc, h1, h2, h3, h4⟩ := hd
  rw [hf] at h1; cases h1
  refine wpAny_call (call_plain (by omega) (hE.nd _ _ h2 fun _ _ q => by rw [h3] at q; cases q) h3 (Ext.noLimit hE GO.nl) (Ext.codeRec hE h4) (hbind pm code doc vs hr.length) ?_ ?_ hco hgen hk hcell)
  · intro x hx
    exact hloc _ (List.of_mem_zip hx).1
  · intro h₁ F
    have hX : Cx.Ok ⟨G, s.heap, envOf d.name d.scope s.heap.objs.size f code, ok, k, nh, envOf d.name d.scope s.heap.objs.size f code :: fs⟩ := ⟨GO, hk, rfl, rfl, hE, hez, hok, fun env he => by
      rcases List.mem_cons.mp he with rfl | he
      · exact .inr ⟨rfl, by show d.scope.kind ≠ _; rw [hk]; decide⟩
      · exact .inl (hfe env he)⟩
    have al : Al s.heap ok σ ((d.params.args.map (·.arg)).zip vs).reverse := hσ ▸ (Al.zip hr).reverse
    have S : Cx.St ⟨G, s.heap, envOf d.name d.scope s.heap.objs.size f code, ok, k, nh, envOf d.name d.scope s.heap.objs.size f code :: fs⟩ σ h₁ (fun x => ((d.params.args.map (·.arg)).zip vs).reverse.lookup x) := by
      refine ⟨⟨F.ns, .of F.keep, F.above⟩, fun x sl hx => ?_, fun x y ds es hx _ _ => ?_⟩
      · obtain ⟨d', v, rfl, hv, r⟩ := al.lookup hx
        refine ⟨v, hv, (r.ext (Ext.of (N := G.n) F.keep)).weak fun b hb => ⟨hb, fun y es hy => ?_⟩⟩
        obtain ⟨_, _, e, _⟩ := al.lookup hy
        cases e
      · obtain ⟨_, _, e, _⟩ := al.lookup hx
        cases e
    have R : Room ⟨G, s.heap, envOf d.name d.scope s.heap.objs.size f code, ok, k, nh, envOf d.name d.scope s.heap.objs.size f code :: fs⟩ (A.deeper (envOf d.name d.scope s.heap.objs.size f code)) := by
      refine ⟨?_, ?_, fun x => hnh x, by show A.frames.map _ = _; rw [hfs]; rfl⟩
      · show A.depth + 1 + k < recursionLimit; omega
      · show A.units + 3 + 20 * k + 100 < cLine; omega
    refine wpAny_mono (h s.heap s.heap.objs.size f code ok fs hX (A.deeper (envOf d.name d.scope s.heap.objs.size f code)) { s with heap := h₁, toks := s.toks + ((d.params.args.map (·.arg)).zip vs).length } _
      (fun fl s' => ∃ v, fl = .ret v ∧ K v s') R S ?_) ?_ ?_
    · intro fl fl' σ' m' h' tk hP hf S' hs
      cases hf with
      | ret r => exact ⟨_, rfl, hK _ _ h' tk hP S'.F.keep r⟩
      | _ => exact hP.elim
    · intro fl s' H
      obtain ⟨v, rfl, hv⟩ := H
      exact hv
    · exact fun _ _ x => x.elim

/-- stores -/
def upd : Loc → Str → Sl → Loc
  | [], x, sl => [(x, sl)]
  | (y, s) :: r, x, sl => if x == y then (x, sl) :: r else (y, s) :: upd r x sl
theorem upd_lookup (σ : Loc) (x : Str) (sl : Sl) (y : Str) : (upd σ x sl).lookup y = if y = x then some sl else σ.lookup y := by
  induction σ with
  | nil =>
    simp only [upd, List.lookup]
    by_cases h : y = x
    · simp [h]
    · have : (y == x) = false := by simpa using h
      simp [this, h]
  | cons p r ih =>
    obtain ⟨z, s⟩ := p
    unfold upd
    by_cases hxz : x = z
    · subst hxz
      simp only [beq_self_eq_true, if_true, List.lookup]
      by_cases h : y = x
      · simp [h]
      · have : (y == x) = false := by simpa using h
        simp [this, h]
    · have e : (x == z) = false := by simpa using hxz
      simp only [e, Bool.false_eq_true, if_false, List.lookup]
      by_cases h : y = z
      · subst h
        simp [Ne.symm hxz]
      · have : (y == z) = false := by simpa using h
        simp only [this, ih]

theorem Ns.notData {h : Heap} {L : Addr} {m : Str → Option Value} (N : h.Ns L m) {ok : Addr → Prop} {o : Obj} (e : h.get? L = some o) : ¬ DataObj ok L o := by
  obtain ⟨o', es, ep, h1, h2, _⟩ := N
  rw [e] at h1; cases h1
  rintro (⟨_, ⟨vs, n, h3⟩, _⟩ | ⟨_, vs, n, h3⟩ | ⟨_, vs, h3⟩) <;> rw [h2] at h3 <;> cases h3
theorem Ns.notList {h : Heap} {L : Addr} {m : Str → Option Value} (N : h.Ns L m) {vs : Array Value} {n : Nat} : h.get? L ≠ some (listOf vs n) := by
  intro e
  obtain ⟨o', es, ep, h1, h2, _⟩ := N
  rw [e] at h1; cases h1; cases h2

theorem Rep.store {h h' : Heap} {ok ok' : Addr → Prop} {L : Addr} {m : Str → Option Value} {v : Value} {d : D} (r : Rep h ok v d) (N : h.Ns L m) (hs : Heap.SameBut L h h') (hk : ∀ b, ok b → ok' b) : Rep h' ok' v d :=
  r.move (fun b o e hd => (hs.2 b (fun q => by subst q; exact Ns.notData N e hd)).trans e) hk
theorem Reps.store {h h' : Heap} {ok ok' : Addr → Prop} {L : Addr} {m : Str → Option Value} {v : List Value} {d : List D} (r : Reps h ok v d) (N : h.Ns L m) (hs : Heap.SameBut L h h') (hk : ∀ b, ok b → ok' b) : Reps h' ok' v d :=
  r.move (fun b o e hd => (hs.2 b (fun q => by subst q; exact Ns.notData N e hd)).trans e) hk

def mset (m : Str → Option Value) (x : Str) (v : Value) : Str → Option Value := fun y => if y = x then some v else m y

section
variable {h₀ h h' : Heap} {ok : Addr → Prop} {L : Addr} {σ : Loc} {m : Str → Option Value} {x : Str}

theorem NotOwn.store {sl : Sl} {v : Value} {a : Addr} (H : NotOwn m σ a) (hv : ∀ ds, sl = .ow ds → v ≠ .ref a) : NotOwn (mset m x v) (upd σ x sl) a := by
  intro y ds hy e
  rw [upd_lookup] at hy
  unfold mset at e
  by_cases hyx : y = x
  · rw [if_pos hyx] at hy e
    cases e; cases hy
    exact hv _ rfl rfl
  · rw [if_neg hyx] at hy e
    exact H y ds hy e

/-- a datum under a name -/
theorem St.storeFr (S : St N h₀ ok L σ h m) {d : D} {v : Value} (r : Rep h (fun a => ok a ∧ NotOwn m σ a) v d) (hn : h'.Ns L (mset m x v)) (hs : Heap.SameBut L h h') : St N h₀ ok L (upd σ x (.fr d)) h' (mset m x v) := by
  have w : ∀ b, (ok b ∧ NotOwn m σ b) → (ok b ∧ NotOwn (mset m x v) (upd σ x (.fr d)) b) := fun b hb => ⟨hb.1, hb.2.store (fun _ e => nomatch e)⟩
  refine ⟨S.F.set hn hs, fun y sl hy => ?_, fun y z ds es hy hz e => ?_⟩
  · rw [upd_lookup] at hy
    by_cases hyx : y = x
    · rw [if_pos hyx] at hy; cases hy
      exact ⟨v, by simp [mset, hyx], r.store S.F.ns hs w⟩
    · rw [if_neg hyx] at hy
      have q := S.sl y sl hy
      cases sl with
      | fr d => obtain ⟨u, h1, h2⟩ := q; exact ⟨u, by simp only [mset, if_neg hyx]; exact h1, h2.store S.F.ns hs w⟩
      | ow ds =>
        obtain ⟨a, vs, n, h1, h0, h2, h3⟩ := q
        refine ⟨a, vs, n, by simp only [mset, if_neg hyx]; exact h1, h0, ?_, h3.store S.F.ns hs w⟩
        exact (hs.2 a fun q => by subst q; exact Ns.notList S.F.ns h2).trans h2
  · rw [upd_lookup] at hy hz
    by_cases hyx : y = x
    · rw [if_pos hyx] at hy; cases hy
    · by_cases hzx : z = x
      · rw [if_pos hzx] at hz; cases hz
      · rw [if_neg hyx] at hy; rw [if_neg hzx] at hz
        simp only [mset, if_neg hyx, if_neg hzx] at e
        exact S.ap y z ds es hy hz e

/-- a list of the frame's own under a name -/
theorem St.storeOw {pend : List Addr} {a : Addr} {ds : List D} {vs : List Value} {n : Nat} (S : St N h₀ (fun b => ok b ∧ b ∉ a :: pend) L σ h m) (hok : ok a) (hap : a ∉ pend) (h0 : h₀.objs.size ≤ a) (hl : h.get? a = some (listOf vs.toArray n))
    (r : Reps h (fun b => (ok b ∧ b ∉ a :: pend) ∧ NotOwn m σ b) vs ds) (hn : h'.Ns L (mset m x (.ref a))) (hs : Heap.SameBut L h h') : St N h₀ (fun b => ok b ∧ b ∉ pend) L (upd σ x (.ow ds)) h' (mset m x (.ref a)) := by
  have w : ∀ b, ((ok b ∧ b ∉ a :: pend) ∧ NotOwn m σ b) → ((ok b ∧ b ∉ pend) ∧ NotOwn (mset m x (.ref a)) (upd σ x (.ow ds)) b) := fun b hb =>
    ⟨⟨hb.1.1, fun q => hb.1.2 (List.mem_cons_of_mem _ q)⟩, hb.2.store fun _ _ e => by cases e; exact hb.1.2 (List.mem_cons_self ..)⟩
  have at' : ∀ c ws n, h.get? c = some (listOf ws n) → h'.get? c = some (listOf ws n) := fun c ws n e => (hs.2 c fun q => by subst q; exact Ns.notList S.F.ns e).trans e
  refine ⟨S.F.set hn hs, fun y sl hy => ?_, fun y z ds es hy hz e => ?_⟩
  · rw [upd_lookup] at hy
    by_cases hyx : y = x
    · rw [if_pos hyx] at hy; cases hy
      exact ⟨a, vs, n, by simp [mset, hyx], ⟨h0, hok, hap⟩, at' _ _ _ hl, r.store S.F.ns hs w⟩
    · rw [if_neg hyx] at hy
      have q := S.sl y sl hy
      cases sl with
      | fr d => obtain ⟨u, h1, h2⟩ := q; exact ⟨u, by simp only [mset, if_neg hyx]; exact h1, h2.store S.F.ns hs w⟩
      | ow ds =>
        obtain ⟨c, ws, n, h1, h0, h2, h3⟩ := q
        exact ⟨c, ws, n, by simp only [mset, if_neg hyx]; exact h1, ⟨h0.1, h0.2.1, fun q => h0.2.2 (List.mem_cons_of_mem _ q)⟩, at' _ _ _ h2, h3.store S.F.ns hs w⟩
  · have key : ∀ (u : Str) (us : List D), u ≠ x → σ.lookup u = some (.ow us) → m u ≠ some (.ref a) := fun u us _ hu e => by
      obtain ⟨h1, _⟩ := S.owned_at hu e
      exact h1.2.2 (List.mem_cons_self ..)
    rw [upd_lookup] at hy hz
    unfold mset at e
    by_cases hyx : y = x
    · by_cases hzx : z = x
      · rw [hyx, hzx]
      · rw [if_neg hzx] at hz e; rw [if_pos hyx] at e
        exact absurd e.symm (key z _ hzx hz)
    · by_cases hzx : z = x
      · rw [if_neg hyx] at hy e; rw [if_pos hzx] at e
        exact absurd e (key y _ hyx hy)
      · rw [if_neg hyx] at hy; rw [if_neg hzx] at hz
        rw [if_neg hyx, if_neg hzx] at e
        exact S.ap y z _ _ hy hz e
end
end Mine
end
section
set_option maxRecDepth 100000
open PySem PySem.W PyProof.Rows PySem.Calls
namespace Mine
variable {N : Nat}

theorem envp {X : Cx} (O : X.Ok) : (X.env.scope.kind == .class || (X.env.scope.kind == .module && X.env.locals != X.env.globals)) = false := by
  rw [O.hk]; rfl

theorem Ext.ofBut {h h' : Heap} (e : Heap.ExtBut h.objs.size h h') : Ext N h h' := .of fun b o x => e b o (Nat.ne_of_lt (Heap.lt_size x)) x

section
variable {X : Cx} {σ : Loc} {A : Around} {E : Value → Shared → Prop} {s : Shared} {m : Str → Option Value}

theorem Step.store {sl : Sl} {x : Str} {v : Value} {h h' : Heap} {L : Addr} (hs : Heap.SameBut L h h') (hv : ∀ ds, sl = .ow ds → ∀ a, v = .ref a → h.get? a = none) : Step L σ h m (upd σ x sl) h' (mset m x v) :=
  ⟨fun b o e _ n _ => (hs.2 b n).trans e, fun b o e _ _ q => q.store fun ds e' e'' => by subst e''; rw [hv ds e' b rfl] at e; cases e⟩

theorem storeFr (O : X.Ok) (S : X.St σ s.heap m) {x : Str} {v : Value} {d : D} (r : Rep s.heap (fun a => X.ok a ∧ NotOwn m σ a) v d) (hl : X.scope.names.lookup x = some .local) {Q : Unit → Shared → Prop}
    (hQ : ∀ h' tk, X.St (upd σ x (.fr d)) h' (mset m x v) → Heap.SameBut X.L s.heap h' → Step X.L σ s.heap m (upd σ x (.fr d)) h' (mset m x v) → Q () { s with heap := h', toks := tk }) :
    wpAny (model X.G.prog X.G.w) A (storeName X.env x v) Q E s :=
  wpAny_storeName_local hl S.F.ns (fun h' hn hs => hQ h' _ (S.storeFr r hn hs) hs (.store hs fun _ e => nomatch e)) (envp O)

/-- one name, one datum -/
theorem S1.assign (O : X.Ok) {x : Str} {e : Expr} {p pos : Pos} {P : Fl → Loc → Prop} (h : SE X σ true e (fun d => P .next (upd σ x (.fr d)))) (hl : X.scope.names.lookup x = some .local)
    (hsw : ∀ env, swapsWith e (some (.Name x p)) pos.line env = pure false := by intro _; rfl) : S1 X σ (.Assign [.Name x p] e pos) P := by
  intro A s m K R S hK
  refine wpAny_Assign_Name (h A s m _ R S fun d v h1 t1 hd e1 r => ?_) (hsw _)
  exact storeFr O (S.ext e1) (r.weak fun b hb => ⟨hb.1, hb.2 rfl⟩) hl fun h' tk S' _ hs => hK _ _ _ _ h' tk hd .next S' ((Step.ofExt e1).trans hs)

theorem newList_any {vs : List Value} {Q : Value → Shared → Prop} (hz : vs.length ≤ sizeLine) (h : Q (.ref s.heap.objs.size) { s with heap := s.heap.push { cls := .type "list", data := .seq vs.toArray } }) : wpAny (model X.G.prog X.G.w) A (newList vs) Q E s :=
  wpAny_newObj_type h (by show vs.toArray.size ≤ sizeLine; rw [List.size_toArray]; exact hz)

theorem St.pending {h₀ h : Heap} {ok : Addr → Prop} {L : Addr} (S : St N h₀ ok L σ h m) (pend : List Addr) (hp : ∀ a ∈ pend, h.get? a = none) : St N h₀ (fun b => ok b ∧ b ∉ pend) L σ h m := by
  have off : ∀ b o, h.get? b = some o → b ∉ pend := fun b o e q => by rw [hp b q] at e; cases e
  have w : ∀ b o, h.get? b = some o → (ok b ∧ NotOwn m σ b) → ((ok b ∧ b ∉ pend) ∧ NotOwn m σ b) := fun b o e q => ⟨⟨q.1, off b o e⟩, q.2⟩
  refine ⟨S.F, fun x sl hx => ?_, S.ap⟩
  have q := S.sl x sl hx
  cases sl with
  | fr d => obtain ⟨v, h1, h2⟩ := q; exact ⟨v, h1, h2.weakA w⟩
  | ow ds => obtain ⟨a, vs, n, h1, h0, h2, h3⟩ := q; exact ⟨a, vs, n, h1, ⟨h0.1, h0.2, off _ _ h2⟩, h2, h3.weakA w⟩
theorem St.okWeak {h₀ h : Heap} {ok ok' : Addr → Prop} {L : Addr} (S : St N h₀ ok L σ h m) (w : ∀ b, ok b → ok' b) : St N h₀ ok' L σ h m := by
  refine ⟨S.F, fun x sl hx => ?_, S.ap⟩
  have q := S.sl x sl hx
  cases sl with
  | fr d => obtain ⟨v, h1, h2⟩ := q; exact ⟨v, h1, h2.weak fun b hb => ⟨w b hb.1, hb.2⟩⟩
  | ow ds => obtain ⟨a, vs, n, h1, h0, h2, h3⟩ := q; exact ⟨a, vs, n, h1, ⟨h0.1, w _ h0.2⟩, h2, h3.weak fun b hb => ⟨w b hb.1, hb.2⟩⟩

/-- a new list under a name -/
theorem S1.assignL (O : X.Ok) {x : Str} {es : List Expr} {lp p pos : Pos} {P : Fl → Loc → Prop} (h : SEs X σ true es (fun ds => ds.length ≤ 1000 ∧ P .next (upd σ x (.ow ds)))) (hl : X.scope.names.lookup x = some .local) :
    S1 X σ (.Assign [.Name x p] (.List es lp) pos) P := by
  intro A s m K R S hK
  refine wpAny_Assign_Name (List_ (h A s m lp _ R S fun ds vs h1 t1 hd e1 rs => ?_)) rfl
  have S1 : X.St σ h1 m := S.ext e1
  refine newList_any (by rw [rs.length]; exact Nat.le_trans hd.1 (by decide)) ?_
  have fr1 : h1.get? h1.objs.size = none := by
    cases e : h1.get? h1.objs.size with
    | none => rfl
    | some o => exact absurd (Heap.lt_size e) (Nat.lt_irrefl _)
  have S2 : St X.G.n X.h₀ (fun b => X.ok b ∧ b ∉ [h1.objs.size]) X.L σ h1 m := S1.pending [h1.objs.size] fun a ha => by rw [List.mem_singleton.mp ha]; exact fr1
  have S3 := S2.ext (Ext.push h1 { cls := .type "list", data := .seq vs.toArray })
  have r3 : Reps (h1.push { cls := .type "list", data := .seq vs.toArray }) (fun b => (X.ok b ∧ b ∉ [h1.objs.size]) ∧ NotOwn m σ b) vs ds :=
    (rs.weakA fun b o e q => ⟨⟨q.1, fun hm => by rw [List.mem_singleton.mp hm] at e; rw [fr1] at e; cases e⟩, q.2 rfl⟩).ext (Ext.push (N := X.G.n) _ _)
  refine wpAny_storeName_local hl S3.F.ns (fun h' hn hs => ?_) (envp O)
  have S4 := St.storeOw (x := x) (n := 0) S3 (O.okb _ S1.base_lt) (fun q => nomatch q) S1.base_lt (Heap.get?_push_size _ rfl) r3 hn hs
  refine hK _ _ _ _ h' _ hd.2 .next (S4.okWeak fun b hb => hb.1) ?_
  exact (Step.ofExt e1).trans ((⟨fun b o e d n q => (hs.2 b n).trans ((Ext.push (N := X.G.n) _ _).nd b o e d), fun b o e _ _ q => q.store fun _ _ e'' => by cases e''; rw [fr1] at e; cases e⟩ : Step X.L σ h1 m _ _ _))

/-- a word of an operator in its place -/
def iopW (op : Operator) (a : Int) (b : D) (P : Int → Prop) : Prop := match op with
  | .Add => int2 (.int a) b fun a b => P (a + b)
  | .Sub => int2 (.int a) b fun a b => P (a - b)
  | .BitAnd => int2 (.int a) b fun a b => P (Builtin.bitAnd a b)
  | .BitOr => int2 (.int a) b fun a b => P (Builtin.bitOr a b)
  | .BitXor => int2 (.int a) b fun a b => P (Builtin.bitXor a b)
  | .RShift => int2 (.int a) b fun a b => 0 ≤ b ∧ P (a.fdiv (2 ^ b.toNat))
  | _ => False
theorem iop_sound {ok : Addr → Prop} {K : Value → Shared → Prop} {Pi : Int → Prop} {op : Operator} {a : Int} {t : Tok} {b : D} {vb : Value} (H : iopW op a b Pi) (rb : Rep s.heap ok vb b)
    (hK : ∀ c, Pi c → K (.int c s.toks) { s with toks := s.toks + 1 }) : wpAny (model X.G.prog X.G.w) A (inplaceOp op (.int a t) vb) K NoE s := by
  have I : ∀ {Pj : Int → Int → Prop}, int2 (.int a) b Pj → ∃ j u, vb = .int j u ∧ Pj a j := fun h => by
    obtain ⟨i, j, e, rfl, hp⟩ := int2_inv h
    cases e
    obtain ⟨u, rfl⟩ := rb.int_inv
    exact ⟨j, u, rfl, hp⟩
  cases op with
  | Add => obtain ⟨j, u, rfl, H⟩ := I (Pj := fun a b => Pi (a + b)) H; exact wpAny_iadd_int (hK _ H)
  | Sub => obtain ⟨j, u, rfl, H⟩ := I (Pj := fun a b => Pi (a - b)) H; exact PyProof.Rows.isub_int (hK _ H)
  | BitAnd => obtain ⟨j, u, rfl, H⟩ := I (Pj := fun a b => Pi (Builtin.bitAnd a b)) H; exact PyProof.Rows.iand_int (hK _ H)
  | BitOr => obtain ⟨j, u, rfl, H⟩ := I (Pj := fun a b => Pi (Builtin.bitOr a b)) H; exact PyProof.Rows.ior_int (hK _ H)
  | BitXor => obtain ⟨j, u, rfl, H⟩ := I (Pj := fun a b => Pi (Builtin.bitXor a b)) H; exact PyProof.Rows.ixor_int (hK _ H)
  | RShift => obtain ⟨j, u, rfl, H⟩ := I (Pj := fun a b => 0 ≤ b ∧ Pi (a.fdiv (2 ^ b.toNat))) H; exact PyProof.Rows.irshift_int H.1 (hK _ H.2)
  | _ => exact False.elim H
theorem S1.aug (O : X.Ok) {x : Str} {e : Expr} {op : Operator} {p pos : Pos} {P : Fl → Loc → Prop} {a : Int} (hx : σ.lookup x = some (.fr (.int a))) (h : SE X σ true e (fun b => iopW op a b fun c => P .next (upd σ x (.fr (.int c)))))
    (hl : X.scope.names.lookup x = some .local) : S1 X σ (.AugAssign (.Name x p) op e pos) P := by
  intro A s m K R S hK
  obtain ⟨v, h1, h2⟩ := S.sl x _ hx
  obtain ⟨t, rfl⟩ := h2.int_inv
  refine wpAny_AugAssign_Name (wpAny_loadName_local O.hk hl S.F.ns h1 ?_)
  refine h A s m _ R S fun d v h1 t1 hd e1 r => ?_
  refine iop_sound hd r fun c hc => ?_
  exact storeFr O (S.ext e1) (.int c _) hl fun h' tk S' _ hs => hK _ _ _ _ h' tk hc .next S' ((Step.ofExt e1).trans hs)

/-- plain statements -/
theorem S1.ret {e : Expr} {pos : Pos} {P : Fl → Loc → Prop} (h : SE X σ false e (fun d => P (.ret d) σ)) : S1 X σ (.Return (some e) pos) P := by
  intro A s m K R S hK
  exact wpAny_Return_some (h A s m _ R S fun d v h1 t1 hd e1 r => hK _ _ _ m h1 t1 hd (.ret (r.weak fun _ q => q.1)) (S.ext e1) (.ofExt e1))
theorem S1.ife {t : Expr} {body orelse : List Stmt} {pos : Pos} {P : Fl → Loc → Prop} (h : ST X σ t (fun c => if c then SS X σ body P else SS X σ orelse P)) : S1 X σ (.If t body orelse pos) P := by
  intro A s m K R S hK
  refine wpAny_If (h A s m _ R S fun c h1 t1 hc e1 => ?_)
  cases c with
  | true => exact hc A _ m K R (S.ext e1) fun fl fl' σ' m' h' tk hp hf S' hs => hK fl fl' σ' m' h' tk hp hf S' ((Step.ofExt e1).trans hs)
  | false => exact hc A _ m K R (S.ext e1) fun fl fl' σ' m' h' tk hp hf S' hs => hK fl fl' σ' m' h' tk hp hf S' ((Step.ofExt e1).trans hs)

/-- a while, by a word and a measure -/
theorem S1.while {t : Expr} {body : List Stmt} {pos : Pos} {P : Fl → Loc → Prop} (I : Nat → Loc → Prop) (h0 : ∃ n σ', Sub σ' σ ∧ I n σ')
    (turn : ∀ n σ', I n σ' → ST X σ' t (fun c => if c then SS X σ' body (fun fl σ'' => match fl with
      | .next | .cont => ∃ n', n' < n ∧ ∃ σ₃, Sub σ₃ σ'' ∧ I n' σ₃
      | .brk => P .next σ''
      | .ret d => P (.ret d) σ'') else P .next σ')) : S1 X σ (.While t body [] pos) P := by
  intro A s m K R S hK
  obtain ⟨n, σ₁, hsub, hI⟩ := h0
  refine wpAny_While (codeAny_whileLoop (fun n s' => ∃ σ' m' h' tk, s' = { s with heap := h', toks := tk } ∧ I n σ' ∧ X.St σ' h' m' ∧ Step X.L σ s.heap m σ' h' m') ?_ n
    ⟨σ₁, m, s.heap, s.toks, rfl, hI, S.sub hsub, Step.refl.sub hsub⟩)
  rintro n s' ⟨σ', m', h', tk, rfl, hI, S', hs⟩
  refine wpAny_mono (turn n σ' hI A { s with heap := h', toks := tk } m' _ R S' fun c h1 t1 hc e1 => ?_) (fun _ _ x => x) (fun _ _ x => x.elim)
  cases c with
  | false => exact wpAny_execs_nil (hK _ _ _ _ h1 t1 hc .next (S'.ext e1) (hs.trans (.ofExt e1)))
  | true =>
    refine wpAny_mono (hc A { s with heap := h1, toks := t1 } m' _ R (S'.ext e1) fun fl fl' σ'' m'' h'' tk'' hp hf S'' hs' => ?_) (fun _ _ x => x) (fun _ _ x => x.elim)
    have hs'' := (hs.trans (.ofExt e1)).trans hs'
    cases hf with
    | next =>
      obtain ⟨n', hlt, σ₃, hsub', hI'⟩ := hp
      exact ⟨n', hlt, σ₃, m'', h'', tk'', rfl, hI', S''.sub hsub', hs''.sub hsub'⟩
    | cont =>
      obtain ⟨n', hlt, σ₃, hsub', hI'⟩ := hp
      exact ⟨n', hlt, σ₃, m'', h'', tk'', rfl, hI', S''.sub hsub', hs''.sub hsub'⟩
    | brk => exact hK _ _ _ _ _ _ hp .next S'' hs''
    | ret r => exact hK _ _ _ _ _ _ hp (.ret r) S'' hs''
end
end Mine
end
section
set_option maxRecDepth 100000
open PySem PySem.W PyProof.Rows PySem.Calls
namespace Mine
variable {N : Nat}

section
variable {X : Cx} {σ : Loc} {A : Around} {E : Value → Shared → Prop} {s : Shared} {m : Str → Option Value}

/-- an own list is turned -/
theorem St.turn {h₀ h h' : Heap} {ok : Addr → Prop} {L : Addr} (S : St N h₀ ok L σ h m) {x : Str} {ds ds' : List D} {a : Addr} {vs' : List Value} {n : Nat} (hx : σ.lookup x = some (.ow ds)) (hm : m x = some (.ref a))
    (hl : h'.get? a = some (listOf vs'.toArray n)) (hs : Heap.SameBut a h h') (r : Reps h (fun b => ok b ∧ NotOwn m σ b) vs' ds') :
    St N h₀ ok L (upd σ x (.ow ds')) h' m ∧ Step L σ h m (upd σ x (.ow ds')) h' m := by
  obtain ⟨⟨h0, hok⟩, vs, n0, hg, _⟩ := S.owned_at hx hm
  have no : ∀ b, NotOwn m σ b → NotOwn m (upd σ x (.ow ds')) b := fun b q y es hy e => by
    rw [upd_lookup] at hy
    by_cases hyx : y = x
    · subst hyx; exact q y ds hx e
    · rw [if_neg hyx] at hy; exact q y es hy e
  have away : ∀ b, NotOwn m σ b → b ≠ a := fun b q e => by subst e; exact q x ds hx hm
  have w : ∀ b, (ok b ∧ NotOwn m σ b) → (ok b ∧ NotOwn m (upd σ x (.ow ds')) b) := fun b q => ⟨q.1, no b q.2⟩
  have mv : ∀ {v : Value} {d : D}, Rep h (fun b => ok b ∧ NotOwn m σ b) v d → Rep h' (fun b => ok b ∧ NotOwn m (upd σ x (.ow ds')) b) v d := fun r =>
    r.move (fun b o e hd => by
      refine (hs.2 b fun q => ?_).trans e
      subst q
      rw [hg] at e; cases e
      rcases hd with ⟨_, _, hk⟩ | ⟨hc, _⟩ | ⟨hc, _⟩
      · exact away _ hk.2 rfl
      · exact absurd hc (by intro q; injection q with q; exact absurd q (by decide))
      · exact absurd hc (by intro q; injection q with q; exact absurd q (by decide))) w
  have mvs : ∀ {v : List Value} {d : List D}, Reps h (fun b => ok b ∧ NotOwn m σ b) v d → Reps h' (fun b => ok b ∧ NotOwn m (upd σ x (.ow ds')) b) v d := fun r =>
    r.move (fun b o e hd => by
      refine (hs.2 b fun q => ?_).trans e
      subst q
      rw [hg] at e; cases e
      rcases hd with ⟨_, _, hk⟩ | ⟨hc, _⟩ | ⟨hc, _⟩
      · exact away _ hk.2 rfl
      · exact absurd hc (by intro q; injection q with q; exact absurd q (by decide))
      · exact absurd hc (by intro q; injection q with q; exact absurd q (by decide))) w
  have hLa : L ≠ a := fun q => by subst q; exact Ns.notList S.F.ns hg
  have base : ∀ b o, h₀.get? b = some o → b ≠ a := fun b o e q => by subst q; exact absurd (Heap.lt_size e) (Nat.not_lt.mpr h0)
  refine ⟨⟨⟨S.F.ns.at' fun o e => (hs.2 L hLa).trans e, ⟨fun b o e n => (hs.2 b (base b o e)).trans (S.F.keep.nd b o e n), fun b o e n => let ⟨sl, q⟩ := S.F.keep.dc b o e n; ⟨sl, (hs.2 b (base b o e)).trans q⟩, fun b o l e => (hs.2 b (base b o e)).trans (S.F.keep.lo b o l e)⟩, S.F.above⟩, fun y sl hy => ?_, fun y z es fs hy hz e => ?_⟩, ⟨fun b o e _ _ q => (hs.2 b (away b q)).trans e, fun b _ _ _ _ q => no b q⟩⟩
  · rw [upd_lookup] at hy
    by_cases hyx : y = x
    · rw [if_pos hyx] at hy; cases hy
      exact ⟨a, vs', n, by rw [hyx]; exact hm, ⟨h0, hok⟩, hl, mvs r⟩
    · rw [if_neg hyx] at hy
      have q := S.sl y sl hy
      cases sl with
      | fr d => obtain ⟨u, h1, h2⟩ := q; exact ⟨u, h1, mv h2⟩
      | ow es =>
        obtain ⟨c, ws, n1, h1, h2, h3, h4⟩ := q
        have hca : c ≠ a := fun q => hyx (S.ap y x es ds hy hx (by rw [h1, hm, q]))
        exact ⟨c, ws, n1, h1, h2, (hs.2 c hca).trans h3, mvs h4⟩
  · have key : ∀ u us, (upd σ x (.ow ds')).lookup u = some (.ow us) → ∃ us', σ.lookup u = some (.ow us') := fun u us hu => by
      rw [upd_lookup] at hu
      by_cases hux : u = x
      · exact ⟨ds, by rw [hux]; exact hx⟩
      · rw [if_neg hux] at hu; exact ⟨us, hu⟩
    obtain ⟨es', hy'⟩ := key y es hy
    obtain ⟨fs', hz'⟩ := key z fs hz
    exact S.ap y z es' fs' hy' hz' e

/-- append -/
theorem S1.append (O : X.Ok) {x : Str} {e : Expr} {np ap cp pos : Pos} {P : Fl → Loc → Prop} {ds : List D} (hx : σ.lookup x = some (.ow ds)) (hz : ds.length ≤ 1000000)
    (h : SE X σ true e (fun d => P .next (upd σ x (.ow (ds ++ [d]))))) (hl : X.scope.names.lookup x = some .local)
    (hline : (ap.endLine == cp.line) = true) (htr : ∀ env, backTo cp (starEach [e] env) = [(false, eval e env)] := by intro _; rfl) (hd : (x == ("__debug__" : Str)) = false := by decide) :
    S1 X σ (.Expr (.Call (.Attribute (.Name x np) (Str.ofString "append") ap) [e] [] cp) pos) P := by
  intro A s m K R S hK
  obtain ⟨a, vs, n, h1, h0, h2, h3⟩ := S.sl x _ hx
  have hi : interactive X.env = false := by
    unfold interactive
    rw [O.hk]; rfl
  refine wpAny_Expr_any ?_ hi rfl
  refine wpAny_Call_append rfl (by rw [htr]; rfl) hline (htr _) ?_
  refine wpAny_Name (wpAny_loadName_local O.hk hl S.F.ns h1 ?_) hd
  refine ⟨a, vs.toArray, rfl, ⟨_, n, h2, rfl, rfl, rfl⟩, ?_⟩
  refine h A s m _ R S fun d v h4 t4 hp e4 r => ?_
  have hl4 : h4.get? a = some (listOf vs.toArray n) := e4.list h2
  have hlen : vs.toArray.size ≤ sizeLine := by rw [List.size_toArray, h3.length]; exact Nat.le_trans hz (by decide)
  refine call_meets PySem.F.slot_list_append ⟨_, hl4, rfl⟩ PySem.F.entry_list_append (PySem.F.args_list_append_2 _ _) (PySem.list_append a vs.toArray n v hlen) ⟨hl4, ?_⟩
  have S4 := S.ext e4
  obtain ⟨n', hl'⟩ : ∃ n', (h4.update a (Obj.mapSeq fun x => x.push v)).get? a = some (listOf (vs ++ [v]).toArray n') := by
    have := PySem.IsL.update (n := n) hl4 (fun x => x.push v)
    exact ⟨_, by rw [List.push_toArray] at this; exact this⟩
  have hs : Heap.SameBut a h4 (h4.update a (Obj.mapSeq fun x => x.push v)) := Heap.SameBut.update ..
  obtain ⟨S5, st5⟩ := S4.turn hx h1 hl' hs (((h3.ext e4).append (.cons (r.weak fun b q => ⟨q.1, q.2 rfl⟩) .nil)))
  exact hK _ _ _ m _ _ hp .next S5 ((Step.ofExt e4).trans st5)
end
end Mine
end
section
set_option maxRecDepth 100000
open PySem PySem.W PyProof.Rows PySem.Calls
namespace Mine
variable {N : Nat}

/-- names alone -/
def tnames : List Expr → Option (List Str)
  | [] => some []
  | .Name x _ :: r => (tnames r).map (x :: ·)
  | _ :: _ => none

def Stores (X : Cx) (f : Value → Sem Unit) (x : Str) : Prop := ∀ (A : Around) (E : Value → Shared → Prop) (s : Shared) (v : Value) (Q : Unit → Shared → Prop),
  wpAny (model X.G.prog X.G.w) A (storeName X.env x v) Q E s → wpAny (model X.G.prog X.G.w) A (f v) Q E s
inductive All2 {α β : Type} (R : α → β → Prop) : List α → List β → Prop
  | nil : All2 R [] []
  | cons {a : α} {b : β} {as : List α} {bs : List β} : R a b → All2 R as bs → All2 R (a :: as) (b :: bs)
theorem targets_of {X : Cx} : ∀ {elts : List Expr} {xs : List Str}, tnames elts = some xs → All2 (Stores X) ((assignEach elts X.env).map (·.2)) xs ∧ (assignEach elts X.env).findIdx? (·.1) = none ∧ (assignEach elts X.env).length = xs.length
  | [], xs, h => by cases h; exact ⟨.nil, rfl, rfl⟩
  | e :: r, xs, h => by
    cases e with
    | Name x p =>
      simp only [tnames, Option.map_eq_some_iff] at h
      obtain ⟨ys, hy, rfl⟩ := h
      obtain ⟨h1, h2, h3⟩ := targets_of (X := X) hy
      have e : assignEach (.Name x p :: r) X.env = (false, assign (.Name x p) X.env) :: assignEach r X.env := rfl
      rw [e]
      refine ⟨.cons (fun A E s v Q hq => wpAny_assign_Name hq) h1, ?_, by simp [h3]⟩
      rw [List.findIdx?_cons]
      simp [h2]
    | _ => cases h
theorem binds_of {X : Cx} (xs : List Str) : All2 (Stores X) (xs.map fun n => bindName X.env n) xs := by
  induction xs with
  | nil => exact .nil
  | cons x xs ih => exact .cons (fun A E s v Q hq => wpAny_bindName hq) ih

def updAll : Loc → List Str → List D → Loc
  | σ, x :: xs, d :: ds => updAll (upd σ x (.fr d)) xs ds
  | σ, _, _ => σ
def updSl : Loc → List Str → List Sl → Loc
  | σ, x :: xs, d :: ds => updSl (upd σ x d) xs ds
  | σ, _, _ => σ

section
variable {X : Cx} {σ : Loc} {A : Around} {s : Shared} {m : Str → Option Value}

theorem NotOwn.storeFr {x : Str} {d : D} {v : Value} {b : Addr} (q : NotOwn m σ b) : NotOwn (mset m x v) (upd σ x (.fr d)) b := q.store fun _ e => nomatch e

theorem storeAll (O : X.Ok) : ∀ {fs : List (Value → Sem Unit)} {xs : List Str} {vs : List Value} {ds : List D} {σ : Loc} {m : Str → Option Value} {s : Shared} {Q : Unit → Shared → Prop},
    All2 (Stores X) fs xs → (∀ x ∈ xs, X.scope.names.lookup x = some .local) → ds.length = xs.length → X.St σ s.heap m → Reps s.heap (fun a => X.ok a ∧ NotOwn m σ a) vs ds →
    (∀ h' m' tk, X.St (updAll σ xs ds) h' m' → Step X.L σ s.heap m (updAll σ xs ds) h' m' → Q () { s with heap := h', toks := tk }) →
    wpAny (model X.G.prog X.G.w) A (assignInOrder fs vs) Q NoE s := by
  intro fs xs vs ds σ m s Q hf
  induction hf generalizing vs ds σ m s with
  | nil =>
    intro _ hlen S rs hQ
    cases ds with
    | cons _ _ => cases hlen
    | nil =>
      cases rs
      exact assignInOrder_nil (hQ s.heap m s.toks S .refl)
  | @cons f x fs xs hfx _ ih =>
    intro hl hlen S rs hQ
    cases rs with
    | nil => cases hlen
    | cons r rs =>
      refine assignInOrder_cons (hfx _ _ _ _ _ (storeFr O S r (hl _ (List.mem_cons_self ..)) fun h' tk S' hs st => ?_))
      refine ih (fun y hy => hl y (List.mem_cons_of_mem _ hy)) (by simpa using hlen) S' (rs.store S.F.ns hs fun b q => ⟨q.1, q.2.storeFr⟩) fun h'' m' tk' S'' st' => ?_
      exact hQ h'' m' tk' S'' (st.trans st')

/-- the items of a tuple or a list -/
def itemsW (d : D) (P : List D → Prop) : Prop := match d with
  | .tup ds => P ds
  | .lst ds => P ds
  | _ => False
theorem unpack_sound {ok : Addr → Prop} {n : Nat} {d : D} {v : Value} {Q : List Value → Shared → Prop} {E : Value → Shared → Prop} {Pd : List D → Prop} (hh : A.handled = none) (H : itemsW d fun ds => ds.length = n ∧ Pd ds) (r : Rep s.heap ok v d)
    (hQ : ∀ us ds h', ds.length = n → Pd ds → Ext X.G.n s.heap h' → Reps h' ok us ds → Q us { s with heap := h' }) : wpAny (model X.G.prog X.G.w) A (unpackItems v n none) Q E s := by
  cases d with
  | tup ds =>
    obtain ⟨t, vs, rfl, ht, rs⟩ := r.tup_inv
    have e : n = vs.toArray.size := by rw [List.size_toArray, rs.length]; exact H.1.symm
    rw [e]
    exact wpAny_unpackItems_tuple hh ht fun h' he => hQ _ ds h' H.1 H.2 (Ext.ofBut he) (rs.ext (Ext.ofBut (N := X.G.n) he))
  | lst ds =>
    obtain ⟨t, vs, rfl, _, ht, rs⟩ := r.lst_inv
    have e : n = vs.toArray.size := by rw [List.size_toArray, rs.length]; exact H.1.symm
    rw [e]
    exact kun_itemsOf hh ht fun h' he => hQ _ ds h' H.1 H.2 (Ext.ofBut he) (rs.ext (Ext.ofBut (N := X.G.n) he))
  | _ => exact H.elim

/-- a target bound to a datum -/
theorem assign_target (O : X.Ok) (hh : A.handled = none) {elts : List Expr} {k : Nat} {tp : Pos} {xs : List Str} (ht : tnames elts = some xs) (hl : ∀ x ∈ xs, X.scope.names.lookup x = some .local) (S : X.St σ s.heap m) {v : Value} {d : D}
    (r : Rep s.heap (fun a => X.ok a ∧ NotOwn m σ a) v d) {Q : Unit → Shared → Prop} {Pd : List D → Prop} (H : itemsW d fun ds => ds.length = xs.length ∧ Pd ds)
    (hQ : ∀ ds h' m' tk, Pd ds → X.St (updAll σ xs ds) h' m' → Step X.L σ s.heap m (updAll σ xs ds) h' m' → Q () { s with heap := h', toks := tk }) :
    wpAny (model X.G.prog X.G.w) A (assign (.Tuple elts k tp) X.env v) Q NoE s := by
  obtain ⟨h1, h2, h3⟩ := targets_of (X := X) ht
  show wpAny _ A (do standAt tp; unpack v (assignEach elts X.env)) Q NoE s
  refine wpAny_bind (wpAny_standAt ?_)
  unfold unpack
  refine wpAny_bind (wpAny_holding ?_)
  rw [h2, h3]
  refine unpack_sound hh H r fun us ds h' hlen hp e rs => ?_
  exact storeAll O h1 hl hlen (S.ext e) rs fun h'' m' tk S' st => hQ ds h'' m' tk hp S' ((Step.ofExt e).trans st)

theorem S1.tup (O : X.Ok) (hn : X.nh) {elts : List Expr} {k : Nat} {tp pos : Pos} {e : Expr} {xs : List Str} {P : Fl → Loc → Prop} (ht : tnames elts = some xs) (hl : ∀ x ∈ xs, X.scope.names.lookup x = some .local)
    (h : SE X σ true e (fun d => itemsW d fun ds => ds.length = xs.length ∧ P .next (updAll σ xs ds)))
    (hs : swapsWithSole [.Tuple elts k tp] e pos.line X.env = pure false) (hw : swappedStores [.Tuple elts k tp] e X.env = pure none) : S1 X σ (.Assign [.Tuple elts k tp] e pos) P := by
  intro A s m K R S hK
  refine Assign_Tuple (h A s m _ R S fun d v h1 t1 hd e1 r => ?_) hs hw
  refine assign_target O (R.h hn) ht hl (S.ext e1) (r.weak fun b q => ⟨q.1, q.2 rfl⟩) hd fun ds h' m' tk hp S' st => ?_
  exact hK _ _ _ m' h' tk hp .next S' ((Step.ofExt e1).trans st)

/-- data without lists -/
def flat : D → Prop
  | .none | .bool _ | .int _ | .str _ | .bytes _ => True
  | _ => False
theorem Rep.flat {h h' : Heap} {ok ok' : Addr → Prop} {v : Value} {d : D} (hf : flat d) (r : Rep h ok v d) : Rep h' ok' v d := by
  cases r with
  | none => exact .none
  | bool b => exact .bool b
  | int i t => exact .int i t
  | str x t => exact .str x t
  | bytes b t => exact .bytes b t
  | _ => exact hf.elim

/-- values of a display: flat data and new empty lists -/
inductive SlV (h : Heap) : List Value → List Sl → List Addr → Prop
  | nil : SlV h [] [] []
  | fl {v : Value} {d : D} {vs : List Value} {sls : List Sl} {pend : List Addr} : flat d → Rep h (fun _ => True) v d → SlV h vs sls pend → SlV h (v :: vs) (.fr d :: sls) pend
  | ow {a : Addr} {vs : List Value} {sls : List Sl} {pend : List Addr} : h.get? a = some (listOf (List.toArray []) 0) → SlV h vs sls pend → SlV h (.ref a :: vs) (.ow [] :: sls) (a :: pend)
theorem SlV.move {h h' : Heap} {vs : List Value} {sls : List Sl} {pend : List Addr} (r : SlV h vs sls pend) (H : ∀ a, h.get? a = some (listOf (List.toArray []) 0) → h'.get? a = some (listOf (List.toArray []) 0)) : SlV h' vs sls pend := by
  induction r with
  | nil => exact .nil
  | fl hf r _ ih => exact .fl hf (r.flat hf) ih
  | ow e _ ih => exact .ow (H _ e) ih
theorem SlV.append {h : Heap} {vs vs' : List Value} {sls sls' : List Sl} {pend pend' : List Addr} (r : SlV h vs sls pend) (q : SlV h vs' sls' pend') : SlV h (vs ++ vs') (sls ++ sls') (pend ++ pend') := by
  induction r with
  | nil => exact q
  | fl hf r _ ih => exact .fl hf r ih
  | ow e _ ih => exact .ow e ih
theorem SlV.reverse {h : Heap} {vs : List Value} {sls : List Sl} {pend : List Addr} (r : SlV h vs sls pend) : SlV h vs.reverse sls.reverse pend.reverse := by
  induction r with
  | nil => exact .nil
  | fl hf r _ ih => rw [List.reverse_cons, List.reverse_cons]; have := ih.append (.fl hf r .nil); simpa using this
  | ow e _ ih => rw [List.reverse_cons, List.reverse_cons, List.reverse_cons]; exact ih.append (.ow e .nil)
theorem SlV.length {h : Heap} {vs : List Value} {sls : List Sl} {pend : List Addr} (r : SlV h vs sls pend) : vs.length = sls.length := by
  induction r with
  | nil => rfl
  | fl _ _ _ ih => simp [ih]
  | ow _ _ ih => simp [ih]

theorem storeSl (O : X.Ok) : ∀ {fs : List (Value → Sem Unit)} {xs : List Str} {vs : List Value} {sls : List Sl} {pend : List Addr} {σ : Loc} {m : Str → Option Value} {s : Shared} {Q : Unit → Shared → Prop},
    All2 (Stores X) fs xs → (∀ x ∈ xs, X.scope.names.lookup x = some .local) → sls.length = xs.length → St X.G.n X.h₀ (fun b => X.ok b ∧ b ∉ pend) X.L σ s.heap m → SlV s.heap vs sls pend → pend.Nodup → (∀ a ∈ pend, X.h₀.objs.size ≤ a) →
    (∀ h' m' tk, X.St (updSl σ xs sls) h' m' → (∀ b o, s.heap.get? b = some o → b ≠ X.L → b ∉ pend → NotOwn m σ b → h'.get? b = some o ∧ NotOwn m' (updSl σ xs sls) b) → Q () { s with heap := h', toks := tk }) →
    wpAny (model X.G.prog X.G.w) A (assignInOrder fs vs) Q NoE s := by
  intro fs xs vs sls pend σ m s Q hf
  induction hf generalizing vs sls pend σ m s with
  | nil =>
    intro _ hlen S rs _ _ hQ
    cases sls with
    | cons _ _ => cases hlen
    | nil =>
      cases rs
      exact assignInOrder_nil (hQ s.heap m s.toks (S.okWeak fun b q => q.1) fun b o e _ _ q => ⟨e, q⟩)
  | @cons f x fs xs hfx _ ih =>
    intro hl hlen S rs hnd hp0 hQ
    cases rs with
    | nil => cases hlen
    | fl hfl r rs =>
      refine assignInOrder_cons (hfx _ _ _ _ _ (wpAny_storeName_local (hl _ (List.mem_cons_self ..)) S.F.ns (fun h' hn hs => ?_) (envp O)))
      have S' := S.storeFr (x := x) (r.flat hfl) hn hs
      refine ih (fun y hy => hl y (List.mem_cons_of_mem _ hy)) (by simpa using hlen) S' (rs.move fun a e => (hs.2 a fun q => by subst q; exact Ns.notList S.F.ns e).trans e) hnd hp0 fun h'' m' tk' S'' st' => ?_
      exact hQ h'' m' tk' S'' fun b o e n1 n2 q => st' b o ((hs.2 b n1).trans e) n1 n2 q.storeFr
    | @ow a _ _ pend he rs =>
      refine assignInOrder_cons (hfx _ _ _ _ _ (wpAny_storeName_local (hl _ (List.mem_cons_self ..)) S.F.ns (fun h' hn hs => ?_) (envp O)))
      have hnd' := List.nodup_cons.mp hnd
      have S' := St.storeOw (x := x) (ds := []) (n := 0) S (O.okb _ (hp0 a (List.mem_cons_self ..))) hnd'.1 (hp0 a (List.mem_cons_self ..)) he .nil hn hs
      refine ih (fun y hy => hl y (List.mem_cons_of_mem _ hy)) (by simpa using hlen) S' (rs.move fun a e => (hs.2 a fun q => by subst q; exact Ns.notList S.F.ns e).trans e) hnd'.2 (fun b hb => hp0 b (List.mem_cons_of_mem _ hb)) fun h'' m' tk' S'' st' => ?_
      refine hQ h'' m' tk' S'' fun b o e n1 n2 q => ?_
      exact st' b o ((hs.2 b n1).trans e) n1 (fun w => n2 (List.mem_cons_of_mem _ w)) (q.store fun _ _ e' => by cases e'; exact n2 (List.mem_cons_self ..))

/-- a display of flat data and new empty lists -/
def SD (X : Cx) (σ : Loc) (es : List Expr) (P : List Sl → Prop) : Prop :=
  ∀ (A : Around) (s : Shared) (m : Str → Option Value) (pos : Pos) (K : List Value → Shared → Prop), Room X A → X.St σ s.heap m →
    (∀ sls vs pend h' tk, P sls → Ext X.G.n s.heap h' → SlV h' vs sls pend → pend.Nodup → (∀ a ∈ pend, s.heap.get? a = none ∧ X.h₀.objs.size ≤ a) → K vs { s with heap := h', toks := tk }) →
    wpAny (model X.G.prog X.G.w) A (spliced (backTo pos (starEach es X.env))) K NoE s
theorem SD.nil {P : List Sl → Prop} (h : P []) : SD X σ [] P := fun _ s _ _ _ _ _ hK => spliced_none (hK _ _ [] s.heap s.toks h (.refl _) .nil List.nodup_nil fun _ q => nomatch q)
theorem SD.fl {e : Expr} {rest : List Expr} {P : List Sl → Prop} (h : SE X σ false e (fun d => flat d ∧ SD X σ rest (fun sls => P (.fr d :: sls)))) (he : ∀ env, starEach (e :: rest) env = (false, eval e env) :: starEach rest env := by intro _; rfl) : SD X σ (e :: rest) P := by
  intro A s m pos K R S hK
  refine spliced_more (h A s m _ R S fun d v h1 t1 hd e1 r => ?_) (he _)
  refine hd.2 A _ m pos _ R (S.ext e1) fun sls vs pend h2 t2 hp e2 rs hn ha => ?_
  refine hK _ _ pend h2 t2 hp (e1.trans e2) (.fl hd.1 (r.flat hd.1) rs) hn fun a q => ⟨?_, (ha a q).2⟩
  cases c : s.heap.get? a with
  | none => rfl
  | some o =>
    have w : h1.get? a = none := (ha a q).1
    obtain ⟨o', c'⟩ := e1.size c
    rw [c'] at w
    cases w
theorem SD.ow {rest : List Expr} {lp : Pos} {P : List Sl → Prop} (h : SD X σ rest (fun sls => P (.ow [] :: sls))) : SD X σ (.List [] lp :: rest) P := by
  intro A s m pos K R S hK
  refine spliced_more (List_ (spliced_none (newList_any (by decide) ?_))) rfl
  have fr : s.heap.get? s.heap.objs.size = none := by
    cases e : s.heap.get? s.heap.objs.size with
    | none => rfl
    | some o => exact absurd (Heap.lt_size e) (Nat.lt_irrefl _)
  refine h A _ m pos _ R (S.ext (Ext.push _ _)) fun sls vs pend h2 t2 hp e2 rs hn ha => ?_
  have alive : h2.get? s.heap.objs.size = some (listOf (List.toArray []) 0) := e2.list (Heap.get?_push_size _ rfl)
  refine hK _ _ (s.heap.objs.size :: pend) h2 t2 hp ((Ext.push _ _).trans e2) (.ow alive rs) (List.nodup_cons.mpr ⟨fun q => ?_, hn⟩) fun a q => ?_
  · have h1 : (s.heap.push { cls := Value.type "list", data := Data.seq (List.toArray []) }).get? s.heap.objs.size = none := (ha _ q).1
    have h2 : (s.heap.push { cls := Value.type "list", data := Data.seq (List.toArray []) }).get? s.heap.objs.size = some _ := Heap.get?_push_size _ rfl
    rw [h2] at h1; cases h1
  · rcases List.mem_cons.mp q with rfl | q
    · exact ⟨fr, S.base_lt⟩
    · refine ⟨?_, (ha a q).2⟩
      cases c : s.heap.get? a with
      | none => rfl
      | some o =>
        have w : (s.heap.push { cls := Value.type "list", data := Data.seq (List.toArray []) }).get? a = none := (ha a q).1
        rw [Heap.get?_push_of_some _ c] at w
        cases w

theorem S1.slots (O : X.Ok) (hn : X.nh) {elts es : List Expr} {k k' : Nat} {tp ep pos : Pos} {xs : List Str} {P : Fl → Loc → Prop} (hl : ∀ x ∈ xs, X.scope.names.lookup x = some .local)
    (h : SD X σ es (fun sls => sls.length = xs.length ∧ P .next (updSl σ xs.reverse sls.reverse))) (hlen : xs.length ≤ 1000)
    (hs : swapsWithSole [.Tuple elts k tp] (.Tuple es k' ep) pos.line X.env = pure false) (hw : swappedStores [.Tuple elts k tp] (.Tuple es k' ep) X.env = pure (some xs)) : S1 X σ (.Assign [.Tuple elts k tp] (.Tuple es k' ep) pos) P := by
  intro A s m K R S hK
  refine Assign_Tuple_swapped (Tuple_ (h A s m ep _ R S fun sls vs pend h1 t1 hd e1 rs hnd ha => ?_)) hs hw
  have hvl : vs.length = xs.length := by rw [rs.length]; exact hd.1
  refine wpAny_newObj_type ?_ (by show vs.toArray.size ≤ sizeLine; rw [List.size_toArray, hvl]; exact Nat.le_trans hlen (by decide))
  have e : xs.length = vs.toArray.size := by rw [List.size_toArray, hvl]
  rw [e]
  refine wpAny_unpackItems_tuple (R.h hn) isTuple_new fun h' he => ?_
  have e2 : Ext X.G.n h1 h' := (Ext.push _ _).trans (Ext.ofBut he)
  have S0 := (S.pending pend fun a q => (ha a q).1).ext (e1.trans e2)
  refine storeSl O (binds_of xs.reverse) (fun x hx => hl x (List.mem_reverse.mp hx)) (sls := sls.reverse) (by rw [List.length_reverse, List.length_reverse]; exact hd.1) (pend := pend.reverse) (S0.okWeak fun b q => ⟨q.1, fun w => q.2 (List.mem_reverse.mp w)⟩) ?_ (List.pairwise_reverse.mpr (hnd.imp Ne.symm)) (fun a q => (ha a (List.mem_reverse.mp q)).2) fun h'' m' tk S' st => ?_
  · exact (rs.move (h' := h') fun a q => e2.list q).reverse
  · refine hK _ _ _ m' h'' tk hd.2 .next S' ⟨fun b o q d n1 n2 => ?_, fun b o q d n1 n2 => ?_⟩
    · exact (st b o ((e1.trans e2).nd b o q d) n1 (fun w => by have := (ha b (List.mem_reverse.mp w)).1; rw [q] at this; cases this) n2).1
    · exact (st b o ((e1.trans e2).nd b o q d) n1 (fun w => by have := (ha b (List.mem_reverse.mp w)).1; rw [q] at this; cases this) n2).2
end
end Mine
end
section
set_option maxRecDepth 100000
open PySem PySem.W PyProof.Rows PySem.Calls
namespace Mine
variable {N : Nat}

/-- a loop's target takes a datum -/
def tgtW (target : Expr) (d : D) (σ : Loc) (P : Loc → Prop) : Prop := match target with
  | .Name x _ => P (upd σ x (.fr d))
  | .Tuple elts _ _ => ∃ xs, tnames elts = some xs ∧ itemsW d fun ds => ds.length = xs.length ∧ P (updAll σ xs ds)
  | _ => False
def tgtLocal (X : Cx) (target : Expr) : Prop := match target with
  | .Name x _ => X.scope.names.lookup x = some .local
  | .Tuple elts _ _ => ∀ xs, tnames elts = some xs → ∀ x ∈ xs, X.scope.names.lookup x = some .local
  | _ => False

section
variable {X : Cx} {σ : Loc} {A : Around} {s : Shared} {m : Str → Option Value}

theorem tgt_sound (O : X.Ok) (hh : A.handled = none) {target : Expr} (hl : tgtLocal X target) (S : X.St σ s.heap m) {v : Value} {d : D} (r : Rep s.heap (fun a => X.ok a ∧ NotOwn m σ a) v d) {Q : Unit → Shared → Prop} {Pd : Loc → Prop} (H : tgtW target d σ Pd)
    (hQ : ∀ σ' h' m' tk, Pd σ' → X.St σ' h' m' → Step X.L σ s.heap m σ' h' m' → Q () { s with heap := h', toks := tk }) :
    wpAny (model X.G.prog X.G.w) A (assign target X.env v) Q NoE s := by
  cases target with
  | Name x p => exact wpAny_assign_Name (storeFr O S r hl fun h' tk S' _ st => hQ _ h' _ tk H S' st)
  | Tuple elts k tp =>
    obtain ⟨xs, hx, H⟩ := H
    exact assign_target O hh hx (hl xs hx) S r H fun ds h' m' tk hp S' st => hQ _ h' m' tk hp S' st
  | _ => exact hl.elim

theorem Rep.step {L : Addr} {h₀ h h' : Heap} {ok : Addr → Prop} {σ' : Loc} {m' : Str → Option Value} (S : St N h₀ ok L σ h m) (st : Step L σ h m σ' h' m') {v : Value} {d : D} (r : Rep h (fun a => ok a ∧ NotOwn m σ a) v d) : Rep h' (fun a => ok a ∧ NotOwn m' σ' a) v d := by
  have no : ∀ b o, h.get? b = some o → DataObj (fun a => ok a ∧ NotOwn m σ a) b o → b ≠ L ∧ NotOwn m σ b := fun b o e hd => by
    refine ⟨fun q => by subst q; exact Ns.notData S.F.ns e hd, ?_⟩
    rcases hd with ⟨_, _, hk⟩ | ⟨hc, _⟩ | ⟨hc, _⟩
    · exact hk.2
    · refine S.notOwn_of fun o' e' hl => ?_
      rw [e] at e'; cases e'
      rw [hc] at hl; injection hl with hl; exact absurd hl (by decide)
    · refine S.notOwn_of fun o' e' hl => ?_
      rw [e] at e'; cases e'
      rw [hc] at hl; injection hl with hl; exact absurd hl (by decide)
  refine r.moveD (fun b o e hd => st.pres b o e hd.nd (no b o e hd).1 (no b o e hd).2) fun b o e hd q => ⟨q.1, st.own b o e hd.nd (no b o e hd).1 q.2⟩

/-- a loop over an iterator -/
theorem for_walk (O : X.Ok) (hh : A.handled = none) (R : Room X A) {target : Expr} {body : List Stmt} {I0 : Addr} {fp wr : List Addr} {n : Nat} {Pv : Nat → Value → Prop} {Stt : Nat → Heap → Prop} (W : Walks X.G.prog X.G.w A I0 fp wr n Pv Stt)
    (hgo : ∀ i v (s : Shared) (Q : Unit → Shared → Prop) (E : Value → Shared → Prop), Stt i s.heap → Q () s → wpAny (model X.G.prog X.G.w) A (letOwnedTupleGo target (.ref I0) v) Q E s)
    (hwr : wr = [I0]) {h1 : Heap} {items : List D} (hn : n = items.length) (S : X.St σ h1 m) (hI0 : h1.objs.size ≤ I0)
    (hP : ∀ i v, i < n → Pv i v → ∃ d, items[i]? = some d ∧ Rep h1 (fun a => X.ok a ∧ NotOwn m σ a) v d)
    (hfp : ∀ b ∈ fp, b = I0 ∨ ∃ o, h1.get? b = some o ∧ b ≠ X.L ∧ NotOwn m σ b ∧ ND o)
    (hit : ∀ i h, Stt i h → ∃ o T, h.get? I0 = some o ∧ o.cls = .type T ∧ T ≠ "list" ∧ T ≠ "tuple" ∧ T ≠ "range" ∧ ND o)
    (hl : tgtLocal X target) {P : Fl → Loc → Prop} (I : Nat → Loc → Prop) (h0 : ∃ σ', Sub σ' σ ∧ I 0 σ')
    (turn : ∀ i d σ', items[i]? = some d → I i σ' → tgtW target d σ' (fun σ'' => SS X σ'' body (fun fl σ₃ => match fl with
      | .next | .cont => ∃ σ₄, Sub σ₄ σ₃ ∧ I (i + 1) σ₄
      | .brk => P .next σ₃
      | .ret d => P (.ret d) σ₃)))
    (done : ∀ σ', I items.length σ' → P .next σ') {K : Flow → Shared → Prop}
    (hK : ∀ fl fl' σ' m' h' tk, P fl' σ' → FlRep h' X.ok fl fl' → X.St σ' h' m' → Step X.L σ h1 m σ' h' m' → K fl { s with heap := h', toks := tk })
    (hst : Stt 0 s.heap) (he : Ext X.G.n h1 s.heap) :
    codeAny (model X.G.prog X.G.w) A (.forLoop target (.ref I0) body [] X.env) (fun r s' => match r with | .ok f => K f s' | .error e => cameBackBy (model X.G.prog X.G.w) A X.env NoE e s') s := by
  obtain ⟨σ₀, hsub, hI⟩ := h0
  have hLI : X.L ≠ I0 := Nat.ne_of_lt (Nat.lt_of_lt_of_le S.F.ns.lt hI0)
  have hbase : ∀ b o, X.h₀.get? b = some o → b ≠ I0 := fun b o e q => by subst q; exact absurd (Heap.lt_size e) (Nat.not_lt.mpr (Nat.le_trans S.base_lt hI0))
  -- the iterator's own change
  have chg : ∀ (σ' : Loc) (m' : Str → Option Value) (h h' : Heap) (i : Nat), X.St σ' h m' → Stt i h → (∀ b o, b ∉ wr → h.get? b = some o → h'.get? b = some o) → X.St σ' h' m' := by
    intro σ' m' h h' i S' hs' hk
    obtain ⟨o, T, ho, hc, n1, n2, n3, _⟩ := hit i h hs'
    have nd : ∀ ok : Addr → Prop, ¬ DataObj ok I0 o := by
      intro ok hd
      rcases hd with ⟨h1, _⟩ | ⟨h1, _⟩ | ⟨h1, _⟩ <;> rw [hc] at h1 <;> injection h1 with h1 <;> first | exact n1 h1 | exact n2 h1 | exact n3 h1
    have off : ∀ b, b ≠ I0 → b ∉ wr := fun b hb hm => hb (by rw [hwr] at hm; exact List.mem_singleton.mp hm)
    have mv : ∀ {ok : Addr → Prop} {v : Value} {d : D}, Rep h ok v d → Rep h' ok v d := fun r =>
      r.move (fun b o' e hd => hk b o' (off b fun q => by subst q; rw [ho] at e; cases e; exact nd _ hd) e) (fun _ x => x)
    have mvs : ∀ {ok : Addr → Prop} {v : List Value} {d : List D}, Reps h ok v d → Reps h' ok v d := fun r =>
      r.move (fun b o' e hd => hk b o' (off b fun q => by subst q; rw [ho] at e; cases e; exact nd _ hd) e) (fun _ x => x)
    refine ⟨⟨S'.F.ns.at' fun o e => hk _ o (off _ hLI) e, ⟨fun b o e n => hk b o (off b (hbase b o e)) (S'.F.keep.nd b o e n), fun b o e n => let ⟨sl, q⟩ := S'.F.keep.dc b o e n; ⟨sl, hk b _ (off b (hbase b o e)) q⟩, fun b o l e => hk b o (off b (hbase b o e)) (S'.F.keep.lo b o l e)⟩, S'.F.above⟩, fun x sl hx => ?_, S'.ap⟩
    have q := S'.sl x sl hx
    cases sl with
    | fr d => obtain ⟨v, h1, h2⟩ := q; exact ⟨v, h1, mv h2⟩
    | ow ds =>
      obtain ⟨a, vs, k, h1, h0, h2, h3⟩ := q
      refine ⟨a, vs, k, h1, h0, hk a _ (off a fun q => ?_) h2, mvs h3⟩
      subst q
      rw [ho] at h2; cases h2
      injection hc with hc; exact n1 hc.symm
  refine codeAny_forLoop_any (fun k s' => ∃ i σ' m' h' tk, s' = { s with heap := h', toks := tk } ∧ I i σ' ∧ X.St σ' h' m' ∧ Step X.L σ h1 m σ' h' m' ∧ Stt i h' ∧ i ≤ n ∧ k = n - i) ?_ n
    ⟨0, σ₀, m, s.heap, s.toks, rfl, hI, (S.ext he).sub hsub, (Step.ofExt he).sub hsub, hst, Nat.zero_le _, by omega⟩
  rintro k s' ⟨i, σ', m', h', tk, rfl, hI, S', st', hst', hi, rfl⟩
  by_cases hlt : i < n
  · refine W.item i { s with heap := h', toks := tk } _ _ hlt hst' fun v h2 tk2 hPv hst2 hk2 => ?_
    have S2 := chg σ' m' h' h2 i S' hst' hk2
    have st2 : Step X.L σ h1 m σ' h2 m' := by
      refine ⟨fun b o e d n q => hk2 b o ?_ (st'.pres b o e d n q), st'.own⟩
      rw [hwr]
      exact fun hm => absurd (Heap.lt_size e) (by rw [List.mem_singleton.mp hm]; exact Nat.not_lt.mpr hI0)
    obtain ⟨d, hd, r⟩ := hP i v hlt hPv
    refine hgo _ v { s with heap := h2, toks := tk2 } _ _ hst2 ?_
    refine wpAny_noRaise (tgt_sound (s := { s with heap := h2, toks := tk2 }) (m := m') O hh hl S2 (Rep.step S st2 r) (turn i d σ' hd hI) fun σ'' h3 m'' tk3 hss S3 st3 => ?_)
    refine wpAny_mono (hss A { s with heap := h3, toks := tk3 } m'' _ R S3 fun fl fl' σ₃ m₃ h4 tk4 hp hf S4 st4 => ?_) (fun _ _ x => x) (fun _ _ x => x.elim)
    have stA := (st2.trans st3).trans st4
    have hst4 : Stt (i + 1) h4 := by
      refine W.frame _ h2 _ hst2 fun b hb o e => ?_
      have away : b ≠ X.L ∧ NotOwn m' σ' b ∧ ND o := by
        rcases hfp b hb with rfl | ⟨o', e', hbL, hno, hnd⟩
        · obtain ⟨o2, T, ho, hc, n1, _, _, hd2⟩ := hit _ _ hst2
          refine ⟨Ne.symm hLI, S2.notOwn_of fun o' e' hc' => ?_, ?_⟩
          · rw [ho] at e'; cases e'
            rw [hc] at hc'; injection hc' with hc'; exact n1 hc'
          · rw [ho] at e; cases e; exact hd2
        · have e2 := st2.pres b o' e' hnd hbL hno
          have eo : o' = o := Option.some.inj (e2.symm.trans e)
          subst eo
          exact ⟨hbL, st2.own b o' e' hnd hbL hno, hnd⟩
      have e3 := st3.pres b o e away.2.2 away.1 away.2.1
      exact st4.pres b o e3 away.2.2 away.1 (st3.own b o e away.2.2 away.1 away.2.1)
    have next : (∃ σ₄, Sub σ₄ σ₃ ∧ I (i + 1) σ₄) → ∃ m_1, m_1 < n - i ∧ ∃ i_1 σ' m' h' tk, ({ s with heap := h4, toks := tk4 } : Shared) = { s with heap := h', toks := tk } ∧ I i_1 σ' ∧ X.St σ' h' m' ∧ Step X.L σ h1 m σ' h' m' ∧ Stt i_1 h' ∧ i_1 ≤ n ∧ m_1 = n - i_1 := by
      rintro ⟨σ₄, hsub4, hI4⟩
      exact ⟨n - (i + 1), by omega, i + 1, σ₄, m₃, h4, tk4, rfl, hI4, S4.sub hsub4, stA.sub hsub4, hst4, hlt, rfl⟩
    cases hf with
    | next => exact next hp
    | cont => exact next hp
    | brk => exact hK _ _ _ _ _ _ hp .next S4 stA
    | ret r => exact hK _ _ _ _ _ _ hp (.ret r) S4 stA
  · have hin : i = n := by omega
    subst hin
    refine W.done { s with heap := h', toks := tk } _ _ hst' fun h2 tk2 hk2 => wpAny_execs_nil ?_
    have S2 := chg σ' m' h' h2 i S' hst' hk2
    have st2 : Step X.L σ h1 m σ' h2 m' := by
      refine ⟨fun b o e d n q => hk2 b o ?_ (st'.pres b o e d n q), st'.own⟩
      rw [hwr]
      exact fun hm => absurd (Heap.lt_size e) (by rw [List.mem_singleton.mp hm]; exact Nat.not_lt.mpr hI0)
    exact hK _ _ _ _ h2 tk2 (done σ' (hn ▸ hI)) .next S2 st2
/-- the items that a loop goes over -/
def itemsOf : D → Option (List D)
  | .lst ds => some ds
  | .tup ds => some ds
  | .rng n => if n ≤ 1000000 then some ((List.range n).map fun i => .int (i : Nat)) else none
  | _ => none

theorem isList_lt {h : Heap} {a : Addr} {vs : Array Value} (hl : h.IsList a vs) : a < h.objs.size := by obtain ⟨_, e, _⟩ := hl; exact Heap.lt_size e
theorem isTuple_lt {h : Heap} {a : Addr} {vs : Array Value} (hl : h.IsTuple a vs) : a < h.objs.size := by obtain ⟨_, e, _⟩ := hl; exact Heap.lt_size e

theorem go_fields {prog : Program} {w : World} {E : Value → Shared → Prop} {target : Expr} {I0 : Addr} {v : Value} {Q : Unit → Shared → Prop} {o : Obj} {T : String} (ho : s.heap.get? I0 = some o) (hc : o.cls = .type T)
    (hT : (["enumerate", "zip", "dict_itemiterator", "dict_reverseitemiterator", "odict_iterator", "itertools.zip_longest", "itertools.pairwise"].contains T) = false) (hQ : Q () s) :
    wpAny (model prog w) A (letOwnedTupleGo target (.ref I0) v) Q E s := by
  have key : wpAny (model prog w) A (do
    let (.ref r, .ref a) := (Value.ref I0, v) | return
    let o ← load r
    match o.cls, o.data with
    | .type n, .fields vs =>
      if ["enumerate", "zip", "dict_itemiterator", "dict_reverseitemiterator", "odict_iterator", "itertools.zip_longest", "itertools.pairwise"].contains n && vs[0]? == some (rawInt a) then
        rule "for.unpacks-the-owned-tuple"
        updateField r 0 .none
    | _, _ => pure ()) Q E s := by
    cases v with
    | ref a =>
      refine wpAny_bind (wpAny_load ho ?_)
      rw [hc]
      cases o.data with
      | fields vs =>
        dsimp only
        rw [hT, Bool.false_and, if_neg Bool.false_ne_true]
        exact wpAny_pure hQ
      | _ => exact wpAny_pure hQ
    | _ => exact wpAny_pure hQ
  unfold letOwnedTupleGo
  cases target <;> first | exact key | exact wpAny_pure hQ

theorem S1.for (O : X.Ok) (hn : X.nh) {target iter : Expr} {body : List Stmt} {pos : Pos} {P : Fl → Loc → Prop}
    (h : SE X σ true iter (fun dd => ∃ items, itemsOf dd = some items ∧ ∃ I : Nat → Loc → Prop, (∃ σ', Sub σ' σ ∧ I 0 σ') ∧
      (∀ i d σ', items[i]? = some d → I i σ' → tgtW target d σ' (fun σ'' => SS X σ'' body (fun fl σ₃ => match fl with
        | .next | .cont => ∃ σ₄, Sub σ₄ σ₃ ∧ I (i + 1) σ₄
        | .brk => P .next σ₃
        | .ret d => P (.ret d) σ₃))) ∧ ∀ σ', I items.length σ' → P .next σ'))
    (hl : tgtLocal X target) (hs : ∀ env x, foldedSetIterable iter env x = pure x := by intro _ _; rfl) : S1 X σ (.For target iter body [] pos) P := by
  intro A s m K R S hK
  refine wpAny_For (h A s m _ R S fun dd v h1 t1 hd e1 r => ?_) (hs _)
  obtain ⟨items, hi, I, h0, turn, done⟩ := hd
  have S1 : X.St σ h1 m := S.ext e1
  have r' : Rep h1 (fun a => X.ok a ∧ NotOwn m σ a) v dd := r.weak fun b q => ⟨q.1, q.2 rfl⟩
  have hK' : ∀ fl fl' σ' m' h' tk, P fl' σ' → FlRep h' X.ok fl fl' → X.St σ' h' m' → Step X.L σ h1 m σ' h' m' → K fl { s with heap := h', toks := tk } := fun fl fl' σ' m' h' tk hp hf S' st =>
    hK fl fl' σ' m' h' tk hp hf S' ((Step.ofExt e1).trans st)
  cases dd with
  | lst ds =>
    have hi : ds = items := Option.some.inj hi
    subst hi
    obtain ⟨l, vs, rfl, hok, hll, rs⟩ := r'.lst_inv
    have hlt := isList_lt hll
    refine wpAny_pyIter_list hll ?_
    have hne : l ≠ h1.objs.size := Nat.ne_of_lt hlt
    refine for_walk (s := { s with heap := _, toks := t1 }) O (R.h hn) R (Walks.list (R.h hn) h1.objs.size l hne vs.toArray) (fun i v s Q E st hq => ?_) rfl (items := ds) (by rw [List.size_toArray, rs.length]) S1 (Nat.le_refl _) (fun i v hin hv => ?_) (fun b hb => ?_) (fun i h st => ?_) hl I h0 turn done hK' ?_ (Ext.push _ _)
    · obtain ⟨⟨o, ho, hc, _⟩, _⟩ := st
      exact go_fields ho hc (by decide) hq
    · have hv' : vs[i]? = some v := by simpa using hv
      have hlt' : i < ds.length := by
        rw [← rs.length]
        rcases Nat.lt_or_ge i vs.length with h | h
        · exact h
        · rw [List.getElem?_eq_none h] at hv'; cases hv'
      obtain ⟨v', hv2, rv⟩ := rs.get (List.getElem?_eq_getElem hlt')
      rw [hv'] at hv2; cases hv2
      exact ⟨_, List.getElem?_eq_getElem hlt', rv⟩
    · rcases List.mem_cons.mp hb with rfl | hb
      · exact .inl rfl
      · rw [List.mem_singleton.mp hb]
        obtain ⟨o, ho, hc, n, hd⟩ := hll
        exact .inr ⟨o, ho, fun q => by subst q; exact Ns.notData (ok := fun _ => True) S1.F.ns ho (.inl ⟨hc, ⟨_, n, hd⟩, trivial⟩), hok.2, .seq hd⟩
    · obtain ⟨⟨o, ho, hc, hf⟩, _⟩ := st
      exact ⟨o, _, ho, hc, by decide, by decide, by decide, .fields hf⟩
    · exact ⟨⟨_, Heap.get?_push_size _ rfl, rfl, rfl⟩, hll.push _⟩
  | tup ds =>
    have hi : ds = items := Option.some.inj hi
    subst hi
    obtain ⟨l, vs, rfl, hll, rs⟩ := r'.tup_inv
    have hlt := isTuple_lt hll
    refine wpAny_pyIter_tuple hll ?_
    have hne : l ≠ h1.objs.size := Nat.ne_of_lt hlt
    refine for_walk (s := { s with heap := _, toks := t1 }) O (R.h hn) R (Walks.tuple (R.h hn) h1.objs.size l hne vs.toArray) (fun i v s Q E st hq => ?_) rfl (items := ds) (by rw [List.size_toArray, rs.length]) S1 (Nat.le_refl _) (fun i v hin hv => ?_) (fun b hb => ?_) (fun i h st => ?_) hl I h0 turn done hK' ?_ (Ext.push _ _)
    · obtain ⟨⟨o, ho, hc, _⟩, _⟩ := st
      exact go_fields ho hc (by decide) hq
    · have hv' : vs[i]? = some v := by simpa using hv
      have hlt' : i < ds.length := by
        rw [← rs.length]
        rcases Nat.lt_or_ge i vs.length with h | h
        · exact h
        · rw [List.getElem?_eq_none h] at hv'; cases hv'
      obtain ⟨v', hv2, rv⟩ := rs.get (List.getElem?_eq_getElem hlt')
      rw [hv'] at hv2; cases hv2
      exact ⟨_, List.getElem?_eq_getElem hlt', rv⟩
    · rcases List.mem_cons.mp hb with rfl | hb
      · exact .inl rfl
      · rw [List.mem_singleton.mp hb]
        obtain ⟨o, ho, hc, n, hd⟩ := hll
        refine .inr ⟨o, ho, fun q => by subst q; exact Ns.notData (ok := fun _ => True) S1.F.ns ho (.inr (.inl ⟨hc, _, n, hd⟩)), S1.notOwn_of fun o' e' q => ?_, .seq hd⟩
        rw [ho] at e'; cases e'
        rw [hc] at q; injection q with q; exact absurd q (by decide)
    · obtain ⟨⟨o, ho, hc, hf⟩, _⟩ := st
      exact ⟨o, _, ho, hc, by decide, by decide, by decide, .fields hf⟩
    · exact ⟨⟨_, Heap.get?_push_size _ rfl, rfl, rfl⟩, hll.push _⟩
  | rng n =>
    have hnz : n ≤ 1000000 := by
      rcases Nat.lt_or_ge 1000000 n with h | h
      · simp only [itemsOf, if_neg (Nat.not_le.mpr h)] at hi; cases hi
      · exact h
    simp only [itemsOf, if_pos hnz, Option.some.injEq] at hi
    subst hi
    cases r' with
    | rng hr =>
      refine wpAny_pyIter_range hr (small_one (by decide) (by decide) (by omega) (by omega)) ?_
      have hsz : Builtin.Range.rangeSize 0 (n : Int) 1 = (n : Int) := by rw [rangeSize_one]; split <;> omega
      refine for_walk (s := { s with heap := _, toks := t1 }) O (R.h hn) R (Walks.range (R.h hn) h1.objs.size 0 1 n) (fun i v s Q E st hq => ?_) rfl (items := (List.range n).map fun i => D.int (i : Nat)) (by simp) S1 (Nat.le_refl _) (fun i v hin hv => ?_) (fun b hb => ?_) (fun i h st => ?_) hl I h0 turn done hK' ?_ (Ext.push _ _)
      · exact go_fields st rfl (by decide) hq
      · obtain ⟨t, rfl⟩ := hv
        refine ⟨.int (i : Nat), by simp [hin], ?_⟩
        have e : (0 + (i : Int) * 1) = (i : Int) := by omega
        rw [e]
        exact .int _ _
      · rcases List.mem_cons.mp hb with rfl | hb
        · exact .inl rfl
        · cases hb
      · exact ⟨_, _, st, rfl, by decide, by decide, by decide, .fields rfl⟩
      · have e1 : (0 + ((0 : Nat) : Int) * 1) = 0 := by simp
        have e2 : ((n : Int) - ((0 : Nat) : Int)) = Builtin.Range.rangeSize 0 n 1 := by rw [hsz]; simp
        rw [e1, e2]
        exact Heap.get?_push_size _ rfl
  | _ => cases hi
end
end Mine
end
section
set_option maxRecDepth 100000
open PySem PySem.W PyProof.Rows PySem.Calls
namespace Mine
variable {N : Nat}

section
variable {X : Cx} {σ : Loc} {A : Around} {s : Shared} {m : Str → Option Value}

structure IterOk (G : GG) (A : Around) (h1 : Heap) (ok : Addr → Prop) (items : List D) (I0 : Addr) (fp : List Addr) (n : Nat) (Pv : Nat → Value → Prop) (Stt : Nat → Heap → Prop) : Prop where
  W : Walks G.prog G.w A I0 fp [I0] n Pv Stt
  len : n = items.length
  go : ∀ (target : Expr) i v (s : Shared) (Q : Unit → Shared → Prop) (E : Value → Shared → Prop), Stt i s.heap → Q () s → wpAny (model G.prog G.w) A (letOwnedTupleGo target (.ref I0) v) Q E s
  val : ∀ i v, i < n → Pv i v → ∃ d, items[i]? = some d ∧ Rep h1 ok v d
  fp : ∀ b ∈ fp, b = I0 ∨ ∃ o, h1.get? b = some o ∧ ND o
  it : ∀ i h, Stt i h → ∃ o T, h.get? I0 = some o ∧ o.cls = .type T ∧ T ≠ "list" ∧ T ≠ "tuple" ∧ T ≠ "range" ∧ ND o

theorem iter_sound {G : GG} {ok : Addr → Prop} {v : Value} {dd : D} {items : List D} {K : Value → Shared → Prop} {E : Value → Shared → Prop} (hh : A.handled = none) (r : Rep s.heap ok v dd) (hi : itemsOf dd = some items)
    (hK : ∀ o fp n Pv Stt, IterOk G A s.heap ok items s.heap.objs.size fp n Pv Stt → Stt 0 (s.heap.push o) → K (.ref s.heap.objs.size) { s with heap := s.heap.push o }) : wpAny (model G.prog G.w) A (pyIter v) K E s := by
  cases dd with
  | lst ds =>
    have hi : ds = items := Option.some.inj hi
    subst hi
    obtain ⟨l, vs, rfl, hok, hll, rs⟩ := r.lst_inv
    have hne : l ≠ s.heap.objs.size := Nat.ne_of_lt (isList_lt hll)
    refine wpAny_pyIter_list hll (hK _ _ _ _ _ ⟨Walks.list hh s.heap.objs.size l hne vs.toArray, by rw [List.size_toArray, rs.length], fun target i v s Q E st hq => ?_, fun i v hin hv => ?_, fun b hb => ?_, fun i h st => ?_⟩ ?_)
    · obtain ⟨⟨o, ho, hc, _⟩, _⟩ := st
      exact go_fields ho hc (by decide) hq
    · have hv' : vs[i]? = some v := by simpa using hv
      have hlt' : i < ds.length := by rw [← rs.length]; simpa using hin
      obtain ⟨v', hv2, rv⟩ := rs.get (List.getElem?_eq_getElem hlt')
      rw [hv'] at hv2; cases hv2
      exact ⟨_, List.getElem?_eq_getElem hlt', rv⟩
    · rcases List.mem_cons.mp hb with rfl | hb
      · exact .inl rfl
      · rw [List.mem_singleton.mp hb]
        obtain ⟨o, ho, _, _, hd⟩ := hll
        exact .inr ⟨o, ho, .seq hd⟩
    · obtain ⟨⟨o, ho, hc, hf⟩, _⟩ := st
      exact ⟨o, _, ho, hc, by decide, by decide, by decide, .fields hf⟩
    · exact ⟨⟨_, Heap.get?_push_size _ rfl, rfl, rfl⟩, hll.push _⟩
  | tup ds =>
    have hi : ds = items := Option.some.inj hi
    subst hi
    obtain ⟨l, vs, rfl, hll, rs⟩ := r.tup_inv
    have hne : l ≠ s.heap.objs.size := Nat.ne_of_lt (isTuple_lt hll)
    refine wpAny_pyIter_tuple hll (hK _ _ _ _ _ ⟨Walks.tuple hh s.heap.objs.size l hne vs.toArray, by rw [List.size_toArray, rs.length], fun target i v s Q E st hq => ?_, fun i v hin hv => ?_, fun b hb => ?_, fun i h st => ?_⟩ ?_)
    · obtain ⟨⟨o, ho, hc, _⟩, _⟩ := st
      exact go_fields ho hc (by decide) hq
    · have hv' : vs[i]? = some v := by simpa using hv
      have hlt' : i < ds.length := by rw [← rs.length]; simpa using hin
      obtain ⟨v', hv2, rv⟩ := rs.get (List.getElem?_eq_getElem hlt')
      rw [hv'] at hv2; cases hv2
      exact ⟨_, List.getElem?_eq_getElem hlt', rv⟩
    · rcases List.mem_cons.mp hb with rfl | hb
      · exact .inl rfl
      · rw [List.mem_singleton.mp hb]
        obtain ⟨o, ho, _, _, hd⟩ := hll
        exact .inr ⟨o, ho, .seq hd⟩
    · obtain ⟨⟨o, ho, hc, hf⟩, _⟩ := st
      exact ⟨o, _, ho, hc, by decide, by decide, by decide, .fields hf⟩
    · exact ⟨⟨_, Heap.get?_push_size _ rfl, rfl, rfl⟩, hll.push _⟩
  | rng n => cases hi' : decide (n ≤ 1000000) with
    | false => simp only [itemsOf, if_neg (of_decide_eq_false hi')] at hi; cases hi
    | true =>
      have hnz := of_decide_eq_true hi'
      simp only [itemsOf, if_pos hnz, Option.some.injEq] at hi
      subst hi
      cases r with
      | rng hr =>
        have hsz : Builtin.Range.rangeSize 0 (n : Int) 1 = (n : Int) := by rw [rangeSize_one]; split <;> omega
        refine wpAny_pyIter_range hr (small_one (by decide) (by decide) (by omega) (by omega)) (hK _ _ _ _ _ ⟨Walks.range hh s.heap.objs.size 0 1 n, by simp, fun target i v s Q E st hq => go_fields st rfl (by decide) hq, fun i v hin hv => ?_, fun b hb => ?_, fun i h st => ⟨_, _, st, rfl, by decide, by decide, by decide, .fields rfl⟩⟩ ?_)
        · obtain ⟨t, rfl⟩ := hv
          refine ⟨.int (i : Nat), by simp [hin], ?_⟩
          have e : (0 + (i : Int) * 1) = (i : Int) := by omega
          rw [e]
          exact .int _ _
        · rcases List.mem_cons.mp hb with rfl | hb
          · exact .inl rfl
          · cases hb
        · have e1 : (0 + ((0 : Nat) : Int) * 1) = 0 := by simp
          have e2 : ((n : Int) - ((0 : Nat) : Int)) = Builtin.Range.rangeSize 0 n 1 := by rw [hsz]; simp
          rw [e1, e2]
          exact Heap.get?_push_size _ rfl
  | _ => cases hi

theorem noSt {h₀ h : Heap} {ok : Addr → Prop} {L : Addr} (F : MFr N h₀ L h m) : St N h₀ ok L [] h m := ⟨F, (fun _ _ e => nomatch e), (fun _ _ _ _ e => nomatch e)⟩
theorem noOwn {b : Addr} : NotOwn m [] b := (fun _ _ e => nomatch e)
theorem Reps.flat {h h' : Heap} {ok ok' : Addr → Prop} {vs : List Value} {ds : List D} (hf : ∀ d ∈ ds, flat d) (r : Reps h ok vs ds) : Reps h' ok' vs ds := by
  induction vs generalizing ds with
  | nil => cases r; exact .nil
  | cons v vs ih => cases r with | cons a r => exact .cons (a.flat (hf _ (List.mem_cons_self ..))) (ih (fun d hd => hf d (List.mem_cons_of_mem _ hd)) r)

theorem addr3 {b n : Nat} (h : b < n) : (b : Addr) ≠ n ∧ (b : Addr) ≠ n + 1 ∧ (b : Addr) ≠ n + 2 := ⟨by show ¬ (b = n); omega, by show ¬ (b = n + 1); omega, by show ¬ (b = n + 2); omega⟩
theorem addrN {b n : Nat} (h : ¬ b = n) : (b : Addr) ≠ n := h

/-- a comprehension -/
theorem SE.comp {sf : Bool} {P : D → Prop} (O : X.Ok) (hn : X.nh) {elt target iter : Expr} {scope : Scope} {pos : Pos}
    (h : SE X σ true iter (fun dd => ∃ items outs, itemsOf dd = some items ∧ outs.length = items.length ∧ items.length ≤ 1000000 ∧ (∀ r ∈ outs, flat r) ∧ P (.lst outs) ∧
      ∀ (i : Nat) (d r : D), items[i]? = some d → outs[i]? = some r → ∀ (h₀ : Heap) (e : Env) (ok : Addr → Prop), Cx.Ok ⟨X.G, h₀, { e with scope := scope }, ok, X.k, X.nh, X.frames⟩ →
        tgtW target d [] (fun σ' => SE ⟨X.G, h₀, { e with scope := scope }, ok, X.k, X.nh, X.frames⟩ σ' false elt (fun y => y = r))))
    (hl : ∀ (h₀ : Heap) (e : Env) (ok : Addr → Prop), tgtLocal ⟨X.G, h₀, { e with scope := scope }, ok, X.k, X.nh, X.frames⟩ target)
    (hfree : ∀ x ∈ scope.names, x.2 ≠ .free) (hcell : ∀ x ∈ scope.names, x.2 ≠ .cell) (hkind : scope.kind = .function) (hnames : ∀ x ∈ scope.names, x.2 = .local → scope.names.lookup x.1 = some .local)
    (hs : ∀ env x, foldedSetIterable iter env x = pure x := by intro _ _; rfl) : SE X σ sf (.ListComp elt [⟨target, iter, [], 0⟩] scope pos) P := by
  intro A s m K R S hK
  refine wpAny_ListComp hfree hkind hnames (h A s m _ R S fun dd v h1 t1 hd e1 r => ?_) (hs _)
  obtain ⟨items, outs, hi, hlen, hz, hfl, hP, helt⟩ := hd
  have S1 : X.St σ h1 m := S.ext e1
  have r' : Rep h1 (okE X m σ sf) v dd := r.weak fun b q => ⟨q.1, fun _ => q.2 rfl⟩
  refine iter_sound (s := { s with heap := h1, toks := t1 }) (R.h hn) r' hi fun o fp n Pv Stt J hst => ?_
  dsimp only
  refine newList_any (by decide) ?_
  dsimp only
  refine wpAny_newFunctionEnv hcell (fun _ q => nomatch q) (fun h2 hns2 hsb2 => ?_) hkind
  dsimp only at hns2 hsb2 ⊢
  dsimp only at J hst
  have hD : (h1.push o).objs.size = h1.objs.size + 1 := Heap.size_push ..
  have hC : ((h1.push o).push { cls := Value.type "list", data := Data.seq (List.toArray []) }).objs.size = h1.objs.size + 2 := by rw [Heap.size_push, hD]
  rw [hC] at hns2 hsb2 ⊢
  rw [hD] at ⊢
  have g0 : ∀ b q, h1.get? b = some q → b ≠ h1.objs.size ∧ b ≠ h1.objs.size + 1 ∧ b ≠ h1.objs.size + 2 := fun b q e => addr3 (Heap.lt_size e)
  have x2 : ∀ b q, ((h1.push o).push { cls := Value.type "list", data := Data.seq (List.toArray []) }).get? b = some q → h2.get? b = some q := fun b q e => by
    have hlt := Heap.lt_size e
    rw [hC] at hlt
    exact (hsb2.2 b (Nat.ne_of_lt hlt)).trans (Heap.get?_push_of_some _ e)
  have x1 : ∀ b q, (h1.push o).get? b = some q → h2.get? b = some q := fun b q e => x2 b q (Heap.get?_push_of_some _ e)
  have x0 : Ext X.G.n h1 h2 := .of fun b q e => x1 b q (Heap.get?_push_of_some _ e)
  have hDat : h2.get? (h1.objs.size + 1) = some (listOf (List.toArray []) 0) := by
    have : ((h1.push o).push { cls := Value.type "list", data := Data.seq (List.toArray []) }).get? (h1.push o).objs.size = some _ := Heap.get?_push_size _ rfl
    rw [hD] at this
    exact x2 _ _ this
  have hst2 : Stt 0 h2 := J.W.frame _ _ _ hst fun b _ q e => x1 b q e
  have hX : ∀ e : Env, e.globals = X.env.globals → e.builtins = X.env.builtins → Cx.Ok ⟨X.G, h1, { e with scope := scope }, okE X m σ sf, X.k, X.nh, X.frames⟩ := fun e hg hb => ⟨O.GO, hkind, hg.trans O.hg, hb.trans O.hb, S1.topExt O, S1.topSize O, fun a ha => okE_fresh O S1 ha, fun env he => .inl (St.frames O S1 env he)⟩
  have R' : ∀ e : Env, Room ⟨X.G, h1, { e with scope := scope }, okE X m σ sf, X.k, X.nh, X.frames⟩ A := fun e => ⟨R.d, R.u, R.h, R.fr⟩
  have loop : ∀ s₃ : Shared, s₃ = { s with heap := h2, toks := t1 + ([] : List (Str × Value)).length } →
      codeAny (model X.G.prog X.G.w) A (.compLoop (.ListComp elt [⟨target, iter, [], 0⟩] scope pos) 0 (.ref h1.objs.size) (.ref (h1.objs.size + 1)) { (newEnv scope (h1.objs.size + 2) X.env.globals [] X.env.qual none .none (some X.env) builtinsNs) with scope := scope })
        (fun r s' => ∃ m, s'.heap.Ns (h1.objs.size + 2) m ∧ ∀ h', Heap.SameBut (h1.objs.size + 2) s'.heap h' →
          match r with | .ok _ => K (.ref (h1.objs.size + 1)) { s' with heap := h' } | .error x => wpAny (model X.G.prog X.G.w) A (passOn "comprehension.variables-let-go" x { (newEnv scope (h1.objs.size + 2) X.env.globals [] X.env.qual none .none (some X.env) builtinsNs) with scope := scope }) K NoE { s' with heap := h' }) s₃ := by
    rintro s₃ rfl
    refine kcp_loop (fun k s' => ∃ i h' tk m' vs nn, s' = { s with heap := h', toks := tk } ∧ i ≤ n ∧ k = n - i ∧ Stt i h' ∧ Ext X.G.n h1 h' ∧ h'.get? (h1.objs.size + 1) = some (listOf (List.toArray vs) nn) ∧ Reps h' (okE X m σ sf) vs (outs.take i) ∧ h'.Ns (h1.objs.size + 2) m') ?_ n
      ⟨0, h2, _, _, [], 0, rfl, Nat.zero_le _, by omega, hst2, x0, hDat, by simpa using Reps.nil, hns2⟩
    rintro k s' ⟨i, h', tk, m', vs, nn, rfl, hin, rfl, hsti, hx, hDi, hrs, hns⟩
    have hfl' : ∀ d ∈ outs.take i, flat d := fun d hd => hfl d (List.mem_of_mem_take hd)
    by_cases hlt : i < n
    · refine J.W.item i { s with heap := h', toks := tk } _ _ hlt hsti fun v h3 tk3 hPv hst3 hk3 => ?_
      have off : ∀ b, b ≠ h1.objs.size → b ∉ [h1.objs.size] := fun b hb hm => hb (List.mem_singleton.mp hm)
      have x3 : Ext X.G.n h1 h3 := ⟨fun b q e n => hk3 b q (off b (g0 b q e).1) (hx.nd b q e n), fun b q e n => let ⟨sl, z⟩ := hx.dc b q e n; ⟨sl, hk3 b _ (off b (g0 b q e).1) z⟩, fun b q l e => hk3 b q (off b (g0 b q e).1) (hx.lo b q l e)⟩
      have hD3 : h3.get? (h1.objs.size + 1) = some (listOf (List.toArray vs) nn) := hk3 _ _ (off _ (addrN (by omega))) hDi
      have hns3 : h3.Ns (h1.objs.size + 2) m' := hns.at' fun q e => hk3 _ q (off _ (addrN (by omega))) e
      obtain ⟨d, hd, rd⟩ := J.val i v hlt hPv
      have hlo : i < outs.length := by rw [hlen, ← J.len]; exact hlt
      refine J.go target _ v { s with heap := h3, toks := tk3 } _ _ hst3 ?_
      generalize hE : newEnv scope (h1.objs.size + 2) X.env.globals [] X.env.qual none .none (some X.env) builtinsNs = ce
      have hceL : ce.locals = h1.objs.size + 2 := by rw [← hE]; rfl
      have O' := hX ce (by rw [← hE]; rfl) (by rw [← hE]; rfl)
      have F3 : MFr X.G.n h1 ce.locals h3 m' := ⟨by rw [hceL]; exact hns3, x3, by rw [hceL]; exact Nat.le_add_right _ 2⟩
      have T := helt i d outs[i] hd (List.getElem?_eq_getElem hlo) h1 ce (okE X m σ sf) O'
      refine wpAny_noRaise (tgt_sound (X := ⟨X.G, h1, { ce with scope := scope }, okE X m σ sf, X.k, X.nh, X.frames⟩) (σ := []) (m := m') (s := { s with heap := h3, toks := tk3 }) O' (R.h hn) (hl _ _ _) (noSt F3) ((rd.ext x3).weak fun b q => ⟨q, noOwn⟩) T fun σ' h4 m4 tk4 hse S4 st4 => ?_)
      refine wpAny_noRaise (hse A { s with heap := h4, toks := tk4 } m4 _ (R' ce) S4 fun y u h5 tk5 hy e5 ru => ?_)
      subst hy
      have p4 : ∀ b q, ND q → b ≠ h1.objs.size + 2 → h3.get? b = some q → h4.get? b = some q := fun b q hn hb e => st4.pres b q e hn (by show b ≠ ce.locals; rw [hceL]; exact hb) noOwn
      have hD5 : h5.get? (h1.objs.size + 1) = some (listOf (List.toArray vs) nn) := e5.list (p4 _ _ (.seq rfl) (addrN (by omega)) hD3)
      have hvl : vs.length = (outs.take i).length := hrs.length
      have hsz : vs.toArray.size ≤ sizeLine := by
        rw [List.size_toArray, hvl, List.length_take]
        exact Nat.le_trans (Nat.min_le_right _ _) (by rw [hlen]; exact Nat.le_trans hz (by decide))
      refine call_meets PySem.F.slot_list_append ⟨_, hD5, rfl⟩ PySem.F.entry_list_append (PySem.F.args_list_append_2 _ _) (PySem.list_append (h1.objs.size + 1) vs.toArray nn u hsz) ⟨hD5, ?_⟩
      have hs6 : Heap.SameBut (h1.objs.size + 1) h5 (h5.update (h1.objs.size + 1) (Obj.mapSeq fun x => x.push u)) := Heap.SameBut.update ..
      obtain ⟨n', hl'⟩ : ∃ n', (h5.update (h1.objs.size + 1) (Obj.mapSeq fun x => x.push u)).get? (h1.objs.size + 1) = some (listOf (vs ++ [u]).toArray n') := by
        have := PySem.IsL.update (n := nn) hD5 (fun x => x.push u)
        exact ⟨_, by rw [List.push_toArray] at this; exact this⟩
      generalize h5.update (h1.objs.size + 1) (Obj.mapSeq fun x => x.push u) = h6 at hs6 hl' ⊢
      have p6 : ∀ b q, ND q → b ≠ h1.objs.size + 2 → b ≠ h1.objs.size + 1 → h3.get? b = some q → h6.get? b = some q := fun b q hn hb hb' e => (hs6.2 b hb').trans (e5.nd _ _ (p4 b q hn hb e) hn)
      have x6 : Ext X.G.n h1 h6 := ⟨fun b q e n => (hs6.2 b (g0 b q e).2.1).trans ((S4.F.keep.trans e5).nd b q e n), fun b q e n => let ⟨sl, z⟩ := (S4.F.keep.trans e5).dc b q e n; ⟨sl, (hs6.2 b (g0 b q e).2.1).trans z⟩, fun b q l e => (hs6.2 b (g0 b q e).2.1).trans ((S4.F.keep.trans e5).lo b q l e)⟩
      refine ⟨n - (i + 1), by omega, i + 1, h6, _, m4, vs ++ [u], n', rfl, hlt, rfl, ?_, x6, hl', ?_, ?_⟩
      · refine J.W.frame _ h3 _ hst3 fun b hb q e => ?_
        rcases J.fp b hb with rfl | ⟨q', e', hn'⟩
        · obtain ⟨o2, T2, ho2, _, _, _, _, hd2⟩ := J.it _ _ hst3
          have eo : o2 = q := Option.some.inj (ho2.symm.trans e)
          subst eo
          exact p6 _ o2 hd2 (addrN (by omega)) (addrN (by omega)) e
        · have eo : q' = q := Option.some.inj ((x3.nd _ _ e' hn').symm.trans e)
          subst eo
          exact p6 b q' hn' (g0 b q' e').2.2 (g0 b q' e').2.1 e
      · rw [List.take_add_one, List.getElem?_eq_getElem hlo]
        exact (hrs.flat hfl').append (.cons (ru.flat (hfl _ (List.getElem_mem hlo))) .nil)
      · have n4 : h4.Ns ce.locals m4 := S4.F.ns
        rw [hceL] at n4
        exact (e5.ns n4).at' fun q e => (hs6.2 _ (addrN (by omega))).trans e
    · have hin' : i = n := by omega
      subst hin'
      refine J.W.done { s with heap := h', toks := tk } _ _ hsti fun h3 tk3 hk3 => ?_
      have off : ∀ b, b ≠ h1.objs.size → b ∉ [h1.objs.size] := fun b hb hm => hb (List.mem_singleton.mp hm)
      refine ⟨m', hns.at' fun q e => hk3 _ q (off _ (addrN (by omega))) e, fun h4 hs4 => ?_⟩
      have x4 : Ext X.G.n h1 h4 := ⟨fun b q e n => (hs4.2 b (g0 b q e).2.2).trans (hk3 b q (off b (g0 b q e).1) (hx.nd b q e n)), fun b q e n => let ⟨sl, z⟩ := hx.dc b q e n; ⟨sl, (hs4.2 b (g0 b q e).2.2).trans (hk3 b _ (off b (g0 b q e).1) z)⟩, fun b q l e => (hs4.2 b (g0 b q e).2.2).trans (hk3 b q (off b (g0 b q e).1) (hx.lo b q l e))⟩
      have hD4 : h4.get? (h1.objs.size + 1) = some (listOf (List.toArray vs) nn) := (hs4.2 _ (addrN (by omega))).trans (hk3 _ _ (off _ (addrN (by omega))) hDi)
      have hout : outs.take i = outs := List.take_of_length_le (by rw [hlen, ← J.len]; exact Nat.le_refl _)
      rw [hout] at hrs
      exact hK _ _ h4 tk3 hP (e1.trans x4) (.lst (okE_fresh O S1 (Nat.le_succ _)) ⟨_, hD4, rfl, nn, rfl⟩ (hrs.flat hfl))
  exact codeAny_compStart_list (loop _ rfl) (J.W.self 0 _ _ _ hst2 (loop _ rfl))
end
end Mine
end
section
set_option maxRecDepth 100000
open PySem PySem.W PyProof.Rows PySem.Calls
namespace Mine

section
variable {X : Cx} {σ : Loc} {A : Around} {s : Shared} {m : Str → Option Value}

/-- data as the library's -/
def dat : D → Dat
  | .none => .none | .bool b => .bool b | .int i => .int i | .str x => .str x | .bytes b => .bytes b
  | .tup ds => .tuple (ds.map dat) | .lst ds => .list (ds.map dat) | .rng _ => .none
/-- ints, None, and tuples and lists of these -/
def okD : Nat → D → Bool
  | _, .none => true
  | _, .int _ => true
  | n + 1, .tup ds => ds.all (okD n)
  | n + 1, .lst ds => ds.all (okD n)
  | _, _ => false
theorem okD_kqd : ∀ (n : Nat) (d : D), okD n d = true → kqdOk n (dat d) = true
  | _, .none, _ => by simp [dat, kqdOk]
  | _, .int _, _ => by simp [dat, kqdOk]
  | n + 1, .tup ds, h => by
    rw [dat, kqdOk]
    simp only [okD, List.all_eq_true] at h
    simp only [List.all_map, List.all_eq_true]
    intro d hd
    exact okD_kqd n d (h d hd)
  | n + 1, .lst ds, h => by
    rw [dat, kqdOk]
    simp only [okD, List.all_eq_true] at h
    simp only [List.all_map, List.all_eq_true]
    intro d hd
    exact okD_kqd n d (h d hd)
  | 0, .tup _, h => by simp [okD] at h
  | 0, .lst _, h => by simp [okD] at h
  | n, .bool _, h => by cases n <;> simp [okD] at h
  | n, .str _, h => by cases n <;> simp [okD] at h
  | n, .bytes _, h => by cases n <;> simp [okD] at h
  | n, .rng _, h => by cases n <;> simp [okD] at h

theorem kqdPs_map (ds : List Dat) : kqdPs ds = ds.map kqdP := by
  induction ds with
  | nil => rfl
  | cons d ds ih => simp [kqdPs, ih]

mutual
theorem reads_of {h : Heap} {ok : Addr → Prop} : ∀ {v : Value} {d : D} (n : Nat), Rep h ok v d → okD n d = true → ∃ as, Reads h v (kqdP (dat d)) as
  | _, _, _, .none, _ => ⟨_, by rw [dat, kqdP]; exact Reads.none⟩
  | _, _, _, .int i t, _ => ⟨_, by rw [dat, kqdP]; exact Reads.int i t⟩
  | _, _, 0, .tup _ _, hk => by simp [okD] at hk
  | _, _, 0, .lst _ _ _, hk => by simp [okD] at hk
  | _, _, n + 1, .tup ⟨o, ho, hc, k, hd⟩ r, hk => by
    obtain ⟨as, q⟩ := reads_all n r (by simpa [okD] using hk)
    rw [dat, kqdP, kqdPs_map]
    exact ⟨as, reads_tuple_at ho hc hd (by simpa using q)⟩
  | _, _, n + 1, .lst _ ⟨o, ho, hc, k, hd⟩ r, hk => by
    obtain ⟨as, q⟩ := reads_all n r (by simpa [okD] using hk)
    rw [dat, kqdP, kqdPs_map]
    exact ⟨_, reads_list_at ho hc hd (by simpa using q)⟩
  | _, _, n, .bool _, hk => by cases n <;> simp [okD] at hk
  | _, _, n, .str _ _, hk => by cases n <;> simp [okD] at hk
  | _, _, n, .bytes _ _, hk => by cases n <;> simp [okD] at hk
  | _, _, n, .rng _, hk => by cases n <;> simp [okD] at hk
theorem reads_all {h : Heap} {ok : Addr → Prop} : ∀ {vs : List Value} {ds : List D} (n : Nat), Reps h ok vs ds → (∀ d ∈ ds, okD n d = true) → ∃ as, ReadsAll h vs ((ds.map dat).map kqdP) as
  | _, _, _, .nil, _ => ⟨_, ReadsAll.nil⟩
  | _, _, n, .cons a r, hk => by
    obtain ⟨as, q⟩ := reads_of n a (hk _ (.head _))
    obtain ⟨bs, p⟩ := reads_all n r fun d hm => hk d (.tail _ hm)
    exact ⟨_, ReadsAll.cons q p⟩
end

theorem shaped_of {d : D} (h : okD 9 d = true) : SeqAt.shaped (kqdP (dat d)) = true := by
  have l := kqd_lay 9 (dat d) (okD_kqd 9 d h)
  unfold SeqAt.shaped; rw [l.1, Bool.true_and]; exact decide_eq_true (Nat.le_trans l.2 (by decide))
theorem eqv_self {d : D} (h : okD 9 d = true) : PyData.eqv (kqdP (dat d)) (kqdP (dat d)) = true :=
  (kqd_eqv 9 (dat d) (dat d) 9 (okD_kqd 9 d h) (okD_kqd 9 d h)).mpr rfl

/-- the same datum twice, compared -/
def sameW (op : CmpOp) (a b : D) (P : Bool → Prop) : Prop := a = b ∧ okD 9 a = true ∧ match op with
  | .Eq => P true
  | .NotEq => P false
  | _ => False
theorem same_sound (R : Room X A) {ok : Addr → Prop} {K : Value → Shared → Prop} {Q : Bool → Prop} {op : CmpOp} {a b : D} {va vb : Value} (H : sameW op a b Q) (ra : Rep s.heap ok va a) (rb : Rep s.heap ok vb b)
    (hK : ∀ b, Q b → K (.bool b) s) : wpAny (model X.G.prog X.G.w) A (compareOp op va vb) K NoE s := by
  obtain ⟨rfl, hok, H⟩ := H
  obtain ⟨as, r1⟩ := reads_of 9 ra hok
  obtain ⟨bs, r2⟩ := reads_of 9 rb hok
  have hu : A.units + 64 < cLine := by have := R.u; omega
  cases op with
  | Eq => exact eq_dataH r1 r2 (shaped_of hok) (shaped_of hok) hu (by rw [eqv_self hok]; exact hK _ H)
  | NotEq => exact ne_dataH r1 r2 (shaped_of hok) (shaped_of hok) hu (by rw [eqv_self hok]; exact hK _ H)
  | _ => exact H.elim
theorem ST.same {l r : Expr} {op : CmpOp} {pos : Pos} {Q : Bool → Prop} (h : SE X σ false l (fun a => SE X σ false r (fun b => sameW op a b Q))) (hm : behindInMarks op r = false := by with_unfolding_all rfl) : ST X σ (.Compare l [op] [r] pos) Q := by
  intro A s m K R S hK
  refine wpAny_isTrue_Compare1 (h A s m _ R S fun a va h1 t1 ha e1 ra => ?_) hm
  refine ha A _ m _ R (S.ext e1) fun b vb h2 t2 hb e2 rb => ?_
  exact same_sound R hb (ra.ext e2) rb fun c hc => wpAny_truthy_bool (hK _ h2 t2 hc (e1.trans e2))
theorem SE.same {sf : Bool} {P : D → Prop} {op : CmpOp} {l r : Expr} {pos : Pos} (h : SE X σ sf l (fun a => SE X σ sf r (fun b => sameW op a b fun c => P (.bool c)))) (hm : behindInMarks op r = false := by with_unfolding_all rfl) : SE X σ sf (.Compare l [op] [r] pos) P := by
  intro A s m K R S hK
  refine wpAny_Compare1 (h A s m _ R S fun a va h1 t1 ha e1 ra => ?_) hm
  refine ha A _ m _ R (S.ext e1) fun b vb h2 t2 hb e2 rb => ?_
  exact same_sound R hb (ra.ext e2) rb fun c hc => hK _ _ h2 t2 hc (e1.trans e2) (.bool c)

/-- a try whose suite raises nothing -/
theorem S1.try {body : List Stmt} {h₁ : ExceptHandler} {hs : List ExceptHandler} {pos : Pos} {P : Fl → Loc → Prop} (h : SS X σ body P) : S1 X σ (.Try body (h₁ :: hs) [] [] pos) P := by
  intro A s m K R S hK
  refine wpAny_Try_except (wpAny_mono (h A s m (fun f s₁ => match f with | .next => wpAny (model X.G.prog X.G.w) A (execs [] X.env) K NoE s₁ | f => K f s₁) R S ?_) (fun _ _ x => x) (fun _ _ x => x.elim))
  intro fl fl' σ' m' h' tk hp hf S' st
  cases hf with
  | next => exact wpAny_execs_nil (hK _ _ _ _ _ _ hp .next S' st)
  | brk => exact hK _ _ _ _ _ _ hp .brk S' st
  | cont => exact hK _ _ _ _ _ _ hp .cont S' st
  | ret r => exact hK _ _ _ _ _ _ hp (.ret r) S' st

/-- an item of an own list turned by an operator -/
theorem S1.augSub (O : X.Ok) {x : Str} {ie e : Expr} {op : Operator} {np sp pos : Pos} {P : Fl → Loc → Prop} {ds : List D} (hx : σ.lookup x = some (.ow ds))
    (h : SE X σ true ie (fun b => match b with
      | .int k => 0 ≤ k ∧ k < 2 ^ 62 ∧ ∃ old, ds[k.toNat]? = some (.int old) ∧ SE X σ true e (fun c => iopW op old c fun r => P .next (upd σ x (.ow (ds.set k.toNat (.int r)))))
      | _ => False))
    (hl : X.scope.names.lookup x = some .local) (hi : ∀ ov iv new, augStore ie ov iv new = (do holding [new, ov, iv] (setItem ov iv new); release [new, ov, iv] []; pure .next) := by intro _ _ _; rfl) (hd : (x == ("__debug__" : Str)) = false := by decide) :
    S1 X σ (.AugAssign (.Subscript (.Name x np) ie sp) op e pos) P := by
  intro A s m K R S hK
  obtain ⟨a, vs, n, h1, h0, h2, h3⟩ := S.sl x _ hx
  refine wpAny_AugAssign_SubscriptAny ?_ hi
  refine wpAny_Name (wpAny_loadName_local O.hk hl S.F.ns h1 ?_) hd
  refine h A s m _ R S fun b vb h4 t4 hb e4 rb => ?_
  cases b with
  | int k =>
    obtain ⟨t, rfl⟩ := rb.int_inv
    obtain ⟨hk0, hk1, old, hold, hse⟩ := hb
    have hl4 : h4.get? a = some (listOf vs.toArray n) := e4.list h2
    obtain ⟨v, hv, rv⟩ := h3.get hold
    obtain ⟨u, rfl⟩ := rv.int_inv
    have hlt : k.toNat < vs.length := by
      rcases Nat.lt_or_ge k.toNat vs.length with h | h
      · exact h
      · rw [List.getElem?_eq_none h] at hv; cases hv
    refine wpAny_getItem_list (x := .int old u) (s := { s with heap := h4, toks := t4 }) ⟨_, hl4, rfl, n, rfl⟩ hk0 (by omega) (by simpa using hv) ?_
    refine hse A _ m _ R (S.ext e4) fun c vc h5 t5 hc e5 rc => ?_
    refine iop_sound hc rc fun r hr => ?_
    have S5 := (S.ext e4).ext e5
    have hl5 : h5.get? a = some (listOf vs.toArray n) := e5.list hl4
    refine ki_setAt (s := { s with heap := h5, toks := t5 + 1 }) hl5 hk0 (by omega) (by simp only [List.size_toArray]; omega) ?_
    have hs6 : Heap.SameBut a h5 (h5.update a (Obj.mapSeq (·.setIfInBounds k.toNat (Value.int r t5)))) := Heap.SameBut.update ..
    obtain ⟨n', hl'⟩ : ∃ n', (h5.update a (Obj.mapSeq (·.setIfInBounds k.toNat (Value.int r t5)))).get? a = some (listOf (vs.set k.toNat (.int r t5)).toArray n') := by
      have := PySem.IsL.update (n := n) hl5 (·.setIfInBounds k.toNat (Value.int r t5))
      exact ⟨_, by rw [List.setIfInBounds_toArray] at this; exact this⟩
    obtain ⟨S7, st7⟩ := S5.turn hx h1 hl' hs6 ((((h3.ext e4).ext e5).set (.int r t5) k.toNat))
    exact hK _ _ _ m _ _ hr .next S7 (((Step.ofExt (e4.trans e5))).trans st7)
  | _ => exact hb.elim
end
end Mine
end
section
set_option maxRecDepth 100000
open PySem PySem.W PyProof.Rows PySem.Calls
namespace Mine
variable {N : Nat}

section
variable {X : Cx} {σ : Loc} {m : Str → Option Value}
end
end Mine
end
section
set_option maxRecDepth 100000
open PySem PySem.W PyProof.Rows PySem.Calls
namespace Mine
variable {N : Nat}

theorem entry_unchain : entryFor table "proto.unchain" = some Builtin.«proto.unchain» := entryFor_of_tree (by kernel_rfl)

/-- an exception being handled, and what it was raised upon -/
inductive Chain (h : Heap) (U : Addr) : Prop
  | one {o : Obj} {vs : Array Value} : h.get? U = some o → o.data = .fields vs → vs[2]? = some .none → Chain h U
  | two {o o1 : Obj} {vs vs1 : Array Value} {e1 : Addr} : h.get? U = some o → o.data = .fields vs → vs[2]? = some (.ref e1) → e1 ≠ U → h.get? e1 = some o1 → o1.data = .fields vs1 → vs1[2]? = some .none → Chain h U
theorem Chain.ext {h h' : Heap} {U : Addr} (c : Chain h U) (x : Ext N h h') : Chain h' U := by
  cases c with
  | one a b d => exact .one (x.nd _ _ a (.fields b)) b d
  | two a b d e f g i => exact .two (x.nd _ _ a (.fields b)) b d e (x.nd _ _ f (.fields g)) g i
theorem Chain.there {h : Heap} {U : Addr} (c : Chain h U) : ∃ o, h.get? U = some o := by
  cases c with
  | one a _ _ => exact ⟨_, a⟩
  | two a _ _ _ _ _ _ => exact ⟨_, a⟩

section
variable {prog : Program} {w : World} {A : Around} {E : Value → Shared → Prop} {s : Shared}
theorem ref_ne {a b : Addr} (h : a ≠ b) : (Value.ref a == Value.ref b) = false := by
  have : Value.ref a ≠ Value.ref b := fun q => h (by cases q; rfl)
  simpa using this
theorem unchain_end {e U V : Addr} {b : Bool} {o : Obj} {vs : Array Value} (h1 : s.heap.get? U = some o) (h2 : o.data = .fields vs) (h3 : vs[2]? = some .none) {R : Result → Shared → Prop} (h : R (.ok (.ret .none)) s) :
    codeAny (model prog w) A (.builtin "proto.unchain" ⟨[.ref e, .ref U, .ref V, .bool b], []⟩) R s := by
  refine codeAny_builtin entry_unchain ?_
  unfold Builtin.«proto.unchain»
  refine wpAny_bind (wpAny_field h1 h2 h3 ?_)
  rw [if_pos (show (Value.none == Value.none) = true from rfl)]
  exact wpAny_pure h
theorem unchain_ok {e U : Addr} (C : Chain s.heap U) (he : s.heap.get? e = none ∨ e ≠ U ∧ ∀ o vs e1, s.heap.get? U = some o → o.data = .fields vs → vs[2]? = some (.ref e1) → e ≠ e1) {R : Result → Shared → Prop} (h : R (.ok (.ret .none)) s) :
    codeAny (model prog w) A (.builtin "proto.unchain" ⟨[.ref e, .ref U, .ref U, .bool false], []⟩) R s := by
  cases C with
  | one a b d => exact unchain_end a b d h
  | @two o o1 vs vs1 e1 a b d ne f g i =>
    refine codeAny_builtin entry_unchain ?_
    unfold Builtin.«proto.unchain»
    have hee : e ≠ e1 := by
      rcases he with h | ⟨_, h⟩
      · intro q; subst q; rw [h] at f; cases f
      · exact h _ _ _ a b d
    refine wpAny_bind (wpAny_field a b d ?_)
    rw [if_neg (show ¬ (Value.ref e1 == Value.none) = true from Bool.false_ne_true)]
    rw [ref_ne (Ne.symm hee), if_neg Bool.false_ne_true, ref_ne ne, if_neg Bool.false_ne_true]
    refine wpAny_bind (wpAny_pure ?_)
    exact wpAny_pure ⟨plainId_quiet (by decide +kernel) _, unchain_end f g i h⟩
theorem raiseNew_chain {α : Type} {e U : Addr} {o : Obj} {vs : Array Value} {Q : α → Shared → Prop} (hh : A.handled = some (.ref U)) (C : Chain s.heap U) (hne : e ≠ U) (hne1 : ∀ o vs e1, s.heap.get? U = some o → o.data = .fields vs → vs[2]? = some (.ref e1) → e ≠ e1)
    (he : s.heap.get? e = some o) (hd : o.data = .fields vs) (hz : 2 < vs.size)
    (h : E (.ref e) { s with heap := s.heap.update e (Obj.mapFields (·.setIfInBounds 2 (.ref U))) }) : wpAny (model prog w) A (raiseNew (.ref e) : Sem α) Q E s := by
  unfold raiseNew
  refine wpAny_bind (wpAny_handled ?_)
  rw [hh]
  show wpAny _ _ (if (Value.ref U != Value.ref e) = true then _ else _) _ _ _
  have hb : (Value.ref U != Value.ref e) = true := by rw [bne, ref_ne (Ne.symm hne)]; rfl
  rw [if_pos hb]
  refine wpAny_bind (wpAny_holding (wpAny_runValue (unchain_ok C (.inr ⟨hne, hne1⟩) ?_)))
  show wpAny _ _ (updateField e 2 (Value.ref U) >>= fun _ => throw (Value.ref e)) _ _ _
  unfold updateField
  refine wpAny_bind (wpAny_bind (wpAny_load he ?_))
  rw [hd]
  show wpAny _ _ (if 2 < vs.size then _ else _) _ _ _
  rw [if_pos hz]
  refine wpAny_update he (wpAny_throw h)
end
end Mine
end
section
set_option maxRecDepth 100000
open PySem PySem.W PyProof.Rows PySem.Calls
namespace Mine
theorem ude_new : ExcNewFacts "UnicodeDecodeError" "UnicodeDecodeError.__new__" where
  ends := by decide +kernel
  owner := by decide +kernel
  entry := entryFor_alias (id' := "BaseException.__new__") (by rw [fastTable_eq_tree]; kernel_rfl) (by first | rfl | decide +kernel) (by decide +kernel) (by rw [fastTable_eq_tree]; kernel_rfl)
  sub := by rw [isSubtype_type]; kernel_rfl
  notAttr := by rw [isSubtype_type]; kernel_rfl
  notName := by rw [isSubtype_type]; kernel_rfl
  made := by kernel_rfl
theorem ude_notType : (Value.type "UnicodeDecodeError" == Value.type "type") = false := by decide +kernel
theorem ude_canMake : ((Manifest.find? "UnicodeDecodeError").bind fun x => List.findSome? (fun t => (Manifest.find? t).bind fun b =>
    if b.noNew = true then some true else if (b.attrs.any fun x => x.fst == "__new__") = true then some false else none) x.mro).getD false = false := by kernel_rfl
theorem ude_noVector (args : Args) : checkTypeCall "UnicodeDecodeError" args = pure () := by kernel_rfl
theorem ude_mro : mroOf (.type "UnicodeDecodeError") = pure [.type "UnicodeDecodeError", .type "UnicodeError", .type "ValueError", .type "Exception", .type "BaseException", .type "object"] := by rw [mroOf_type]; kernel_rfl
theorem ude_madeBy : Bind.madeBy (.type "UnicodeDecodeError") = pure (some "UnicodeDecodeError.__new__") := by kernel_rfl
theorem ude_quiet : "UnicodeDecodeError.__new__".startsWith "lifetime." = false := by decide +kernel
theorem ude_newOk (rest : List Value) : checkBuiltinCall "UnicodeDecodeError.__new__" ⟨.type "UnicodeDecodeError" :: rest, []⟩ = pure () := by kernel_rfl
theorem ude_init : Slot "UnicodeDecodeError" "__init__" "UnicodeDecodeError.__init__" := .of (owner := "UnicodeDecodeError") (n := "__init__") (by rw [typeLookup_type, builtinLookup_eq_fast]; kernel_rfl) (by decide +kernel) (by decide +kernel) (by decide +kernel)
    (by first | exact .inl (by decide +kernel) | exact .inr (by decide +kernel)) (by rw [isSubtype_type]; kernel_rfl)
theorem ude_initEntry : entryFor table "UnicodeDecodeError.__init__" = some Builtin.«UnicodeDecodeError.__init__» := entryFor_of_tree (by kernel_rfl)
theorem ude_initSplit : splitId "UnicodeDecodeError.__init__" = some ("UnicodeDecodeError", "__init__") := by kernel_rfl
theorem ude_initKind : builtinKind "UnicodeDecodeError.__init__" = some .slot := by kernel_rfl
theorem ude_initRow : Manifest.signature? "UnicodeDecodeError.__init__" = some ⟨.hand, "wrapper __init__", "", .self, []⟩ := by kernel_rfl
theorem ude_raise : ExcRaiseFacts "UnicodeDecodeError" where
  isExc := by rw [isSubtype_type]; kernel_rfl
  plainMeta := by kernel_rfl
end Mine
end
section
set_option maxRecDepth 100000
open PySem PySem.W PyProof.Rows PySem.Calls
namespace Mine
section
variable {prog : Program} {w : World} {A : Around} {E : Value → Shared → Prop}
theorem ude_check {M : Model} {self : Value} {rest : List Value} {Q : Unit → Shared → Prop}
    {hp : Heap} {g : Array GenState} {d : Drawn} {tk : Nat} {os : OsState} (hT : Shared.TypeIs ⟨hp, g, d, tk, os⟩ self "UnicodeDecodeError") (h : Q () ⟨hp, g, d, tk, os⟩) :
    wpAny M A (checkBuiltinCall "UnicodeDecodeError.__init__" ⟨self :: rest, []⟩) Q E ⟨hp, g, d, tk, os⟩ := by
  have hsub := ude_new.sub
  simp only [checkBuiltinCall, ude_initKind, ude_initSplit, ude_initRow]
  wp_walk
  exact h
end
open Builtin.UnicodeEncodeError in
def fiveOf (m : Members) : List Value := [m.encoding, m.object, rawInt m.start, rawInt m.stop, m.reason]
open Builtin.UnicodeEncodeError in
/-- an exception of this class under construction -/
structure Ude (h0 h : Heap) (e : Addr) (m : Members) : Prop where
  there : ∃ vs a0 tail, h.get? e = some { cls := .type "UnicodeDecodeError", data := .fields vs } ∧ vs.toList = [a0, .none, .none, .none, .bool false, .none] ++ tail ∧ (tail = fiveOf m ∨ tail = [] ∧ m = {})
  rest : ∀ b o, h0.get? b = some o → b ≠ e → h.get? b = some o
section
open Builtin.UnicodeEncodeError
variable {M : Model} {A : Around} {E : Value → Shared → Prop} {s : Shared} {e : Addr} {h0 : Heap} {m m' : Members}
theorem members_ok (U : Ude h0 s.heap e m) {Q : Members → Shared → Prop} (h : Q m s) : wpAny M A (members (.ref e)) Q E s := by
  obtain ⟨vs, a0, tail, he, hv, ht⟩ := U.there
  unfold members
  refine wpAny_bind (wpAny_fieldsOf he rfl ?_)
  have hx : (vs.extract 6).toList = tail := by
    rw [Array.toList_extract, hv]
    have hz : vs.size = 6 + tail.length := by rw [← Array.length_toList, hv]; simp; omega
    rw [hz]
    simp
  rw [hx]
  rcases ht with rfl | ⟨rfl, rfl⟩
  · exact wpAny_pure h
  · exact wpAny_pure h
theorem setMembers_ok (U : Ude h0 s.heap e m) {Q : Unit → Shared → Prop} (h : ∀ h', Ude h0 h' e m' → Q () { s with heap := h' }) : wpAny M A (setMembers (.ref e) m') Q E s := by
  obtain ⟨vs, a0, tail, he, hv, ht⟩ := U.there
  unfold setMembers
  refine wpAny_updateFields he rfl (h _ ⟨⟨_, a0, fiveOf m', Heap.get?_update_self _ he rfl, ?_, .inl rfl⟩, fun b o hb hne => (Heap.get?_update_other _ _ (Ne.symm hne)).trans (U.rest b o hb hne)⟩) ?_
  · show (vs.extract 0 6 ++ (fiveOf m').toArray).toList = _
    rw [Array.toList_append, Array.toList_extract, hv]
    simp
  · show (vs.extract 0 6 ++ (fiveOf m').toArray).size ≤ _
    rw [Array.size_append, Array.size_extract]
    have : (fiveOf m').toArray.size = 5 := rfl
    have h2 : sizeLine ≥ 100 := by decide
    omega
end
section
open Builtin.UnicodeEncodeError
variable {prog : Program} {w : World} {A : Around} {E : Value → Shared → Prop}
theorem strArg_ok {M : Model} {s : Shared} {id : String} {n : Nat} {x : Str} {t : Tok} {Q : Unit → Shared → Prop} (h : Q () s) : wpAny M A (strArgument id n (.str x t)) Q E s := by
  unfold strArgument
  refine wpAny_bind (m := asStr? _) (wpAny_pure ?_)
  show wpAny _ _ (if (some x : Option Str).isNone = true then _ else _) _ _ _
  rw [if_neg (by simp)]
  exact wpAny_pure h
theorem sizeArg_ok {M : Model} {s : Shared} {id : String} {i : Int} {t : Tok} {Q : Int → Shared → Prop} (hi : -(2 ^ 63) ≤ i ∧ i < 2 ^ 63) (h : Q i s) : wpAny M A (sizeArgument id (.int i t)) Q E s := by
  unfold sizeArgument
  refine wpAny_bind (m := asIndex _) ?_
  unfold asIndex
  refine wpAny_bind (m := asInt? _) (wpAny_pure ?_)
  refine wpAny_pure ?_
  rw [if_neg (by simp; omega)]
  exact wpAny_pure h
theorem ude_body {s : Shared} {e : Addr} {t : Value} {x y : Str} {b : Array UInt8} {i j : Int} {t1 t2 t3 t4 t5 : Tok} {Q : PySem.Fin → Shared → Prop}
    (he : s.heap.get? e = some { cls := .type "UnicodeDecodeError", data := .fields #[t, .none, .none, .none, .bool false, .none] }) (hi : -(2 ^ 63) ≤ i ∧ i < 2 ^ 63) (hj : -(2 ^ 63) ≤ j ∧ j < 2 ^ 63)
    (h : ∀ h' m, Ude s.heap h' e m → Q (.done (.ret .none)) { s with heap := h' }) :
    wpAny (model prog w) A (Builtin.«UnicodeDecodeError.__init__» ⟨.ref e :: [.str x t1, .bytes b t2, .int i t3, .int j t4, .str y t5], []⟩) Q E s := by
  unfold Builtin.«UnicodeDecodeError.__init__» beginInit
  refine wpAny_bind ?_
  dsimp only
  refine wpAny_bind (wpAny_field he rfl rfl ?_)
  unfold newTuple
  refine wpAny_bind (wpAny_newObj_type ?_ (by show (5 : Nat) ≤ sizeLine; decide))
  have he2 := Heap.get?_push_of_some (h := s.heap) { cls := .type "tuple", data := .seq [Value.str x t1, .bytes b t2, .int i t3, .int j t4, .str y t5].toArray } he
  refine wpAny_bind (wpAny_setField he2 rfl (Nat.lt_of_lt_of_le (by decide : 0 < 6) (Nat.le_refl _)) ?_)
  have U0 : Ude s.heap ((s.heap.push { cls := .type "tuple", data := .seq [Value.str x t1, .bytes b t2, .int i t3, .int j t4, .str y t5].toArray }).update e (Obj.mapFields (·.setIfInBounds 0 (.ref s.heap.objs.size)))) e {} :=
    ⟨⟨_, .ref s.heap.objs.size, [], Heap.get?_update_self _ he2 rfl, rfl, .inr ⟨rfl, rfl⟩⟩, fun b o hb hne => (Heap.get?_update_other _ _ (Ne.symm hne)).trans (Heap.get?_push_of_some _ hb)⟩
  generalize ((s.heap.push { cls := .type "tuple", data := .seq [Value.str x t1, .bytes b t2, .int i t3, .int j t4, .str y t5].toArray }).update e (Obj.mapFields (·.setIfInBounds 0 (.ref s.heap.objs.size)))) = g0 at U0 ⊢
  refine wpAny_bind (wpAny_letGo ?_)
  show wpAny _ _ (if (5 == 5) = true then _ else _) _ _ _
  rw [if_pos (by decide)]
  refine wpAny_bind (members_ok (s := { s with heap := g0 }) U0 (wpAny_bind (setMembers_ok (s := { s with heap := g0 }) U0 fun g1 U1 => wpAny_bind (wpAny_letGo ?_))))
  refine wpAny_bind (members_ok (s := { s with heap := g1 }) U1 (wpAny_bind (setMembers_ok (s := { s with heap := g1 }) U1 fun g2 U2 => wpAny_bind (wpAny_letGo ?_))))
  refine wpAny_bind (members_ok (s := { s with heap := g2 }) U2 (wpAny_bind (setMembers_ok (s := { s with heap := g2 }) U2 fun g3 U3 => wpAny_bind (wpAny_letGo ?_))))
  rw [if_neg (by simp)]
  refine wpAny_pure ?_
  dsimp only
  refine wpAny_bind (strArg_ok ?_)
  refine wpAny_bind (m := initRange _ _ _ _) ?_
  unfold initRange
  refine wpAny_bind (sizeArg_ok hi ?_)
  refine wpAny_bind (members_ok (s := { s with heap := g3 }) U3 (wpAny_bind (setMembers_ok (s := { s with heap := g3 }) U3 fun g4 U4 => ?_)))
  refine wpAny_bind (sizeArg_ok hj ?_)
  refine wpAny_bind (members_ok (s := { s with heap := g4 }) U4 (setMembers_ok (s := { s with heap := g4 }) U4 fun g5 U5 => ?_))
  refine wpAny_bind (strArg_ok ?_)
  refine wpAny_bind (m := Builtin.UnicodeDecodeError.bytesOf? _) (wpAny_pure ?_)
  rw [if_pos (show (some b : Option (Array UInt8)).isSome = true from rfl)]
  refine wpAny_bind (wpAny_pure ?_)
  rw [if_pos (show (!isUnset (Value.bytes b t2)) = true from rfl)]
  refine wpAny_bind (wpAny_pure ?_)
  rw [if_neg (show ¬ isUnset (Value.bytes b t2) = true from Bool.false_ne_true)]
  refine wpAny_bind (members_ok (s := { s with heap := g5 }) U5 (wpAny_bind (setMembers_ok (s := { s with heap := g5 }) U5 fun g6 U6 => ?_)))
  exact wpAny_pure (h g6 _ U6)

/-- the class called -/
theorem ude_call {hp : Heap} {g : Array GenState} {d : Drawn} {tk : Nat} {os : OsState} {x y : Str} {b : Array UInt8} {i j : Int} {t1 t2 t3 t4 t5 : Tok} {Q : Value → Shared → Prop}
    (hi : -(2 ^ 63) ≤ i ∧ i < 2 ^ 63) (hj : -(2 ^ 63) ≤ j ∧ j < 2 ^ 63)
    (h : ∀ h' e m, hp.get? e = none → (∀ b o, hp.get? b = some o → h'.get? b = some o) → Ude hp h' e m → Q (.ref e) ⟨h', g, d, tk, os⟩) :
    wpAny (model prog w) A (call (.type "UnicodeDecodeError") [.str x t1, .bytes b t2, .int i t3, .int j t4, .str y t5]) Q E ⟨hp, g, d, tk, os⟩ := by
  refine wpAny_call (codeAny_of_tree ?_)
  show wpAny _ _ (again (.builtin "type.__call__" ⟨.type "UnicodeDecodeError" :: [.str x t1, .bytes b t2, .int i t3, .int j t4, .str y t5], []⟩)) _ _ _
  refine wpAny_pure ⟨Code.quiet_builtin _ (by decide +kernel), codeAny_builtin entry_typeCall ?_⟩
  have hnt := ude_notType
  have hcan := ude_canMake
  have hchk := ude_noVector ⟨[.str x t1, .bytes b t2, .int i t3, .int j t4, .str y t5], []⟩
  have hmro := ude_mro
  have hmade := ude_madeBy
  wp_walk
  refine codeAny_call_builtin_code (Code.quiet_builtin _ ude_quiet) (wpAny_of_eq (ude_newOk _) ?_)
  refine codeAny_exc_new ude_new ?_ (by show (5 : Nat) ≤ sizeLine; decide)
  show wpAny _ _ _ _ _ _
  generalize hR : [Value.str x t1, .bytes b t2, .int i t3, .int j t4, .str y t5] = rest
  have hget : ((hp.push { cls := .type "tuple", data := .seq rest.toArray }).push
      { cls := .type "UnicodeDecodeError", data := .fields #[.ref hp.objs.size, .none, .none, .none, .bool false, .none] }).get? (hp.objs.size + 1) = some
      { cls := .type "UnicodeDecodeError", data := .fields #[.ref hp.objs.size, .none, .none, .none, .bool false, .none] } := by heap_get
  refine wpAny_bind (wpAny_isInstance ⟨_, hget, rfl⟩ ude_new.sub ?_)
  wp_step
  refine wpAny_bind (wpAny_holding (wpAny_callSpecial?_slot ⟨_, hget, rfl⟩ ude_init (wpAny_call (codeAny_call_builtin ude_init.plain ude_initEntry (ude_check ⟨_, hget, rfl⟩ ?_)))))
  subst hR
  refine ude_body (s := ⟨_, g, d, tk, os⟩) hget hi hj fun h' m U => ?_
  show wpAny _ _ (if (Value.none != Value.none) = true then _ else ret _) _ _ _
  rw [if_neg (by decide)]
  refine wpAny_pure ?_
  have keeps : ∀ b o, hp.get? b = some o → h'.get? b = some o := fun b o hb =>
    U.rest b o (Heap.get?_push_of_some _ (Heap.get?_push_of_some _ hb)) (Nat.ne_of_lt (Nat.lt_succ_of_lt (Heap.lt_size hb)))
  exact h h' (hp.objs.size + 1) m (Heap.get?_none_of_le (Nat.le_succ _)) keeps ⟨U.there, fun b o hb _ => keeps b o hb⟩
end
end Mine
end
section
set_option maxRecDepth 100000
open PySem PySem.W PyProof.Rows PySem.Calls
namespace Mine
variable {N : Nat}

/-- a new exception, with what it was raised upon -/
structure ExcAt (h h' : Heap) (e : Addr) (X : String) (ctx : Value) : Prop where
  keeps : ∀ b o, h.get? b = some o → h'.get? b = some o
  new : h.get? e = none
  there : ∃ ob vs a0, h'.get? e = some ob ∧ ob.cls = .type X ∧ ob.data = .fields vs ∧ vs[0]? = some a0 ∧ vs[1]? = some .none ∧ vs[2]? = some ctx
/-- what is being handled -/
def HCtx (A : Around) (h : Heap) (ctx : Value) : Prop := (A.handled = none ∧ ctx = .none) ∨ ∃ U, A.handled = some (.ref U) ∧ Chain h U ∧ ctx = .ref U
theorem HCtx.ext {A : Around} {h h' : Heap} {ctx : Value} (H : HCtx A h ctx) (x : Ext N h h') : HCtx A h' ctx := by
  rcases H with h1 | ⟨U, h1, h2, h3⟩
  · exact .inl h1
  · exact .inr ⟨U, h1, h2.ext x, h3⟩

section
variable {prog : Program} {w : World} {A : Around} {E : Value → Shared → Prop} {s : Shared}
theorem raiseNew_ok {α : Type} {e : Addr} {X : String} {h0 : Heap} {ctx : Value} {Q : α → Shared → Prop} (H : HCtx A h0 ctx) (x : ExcAt h0 s.heap e X .none)
    (h : ∀ h', ExcAt h0 h' e X ctx → E (.ref e) { s with heap := h' }) : wpAny (model prog w) A (raiseNew (.ref e) : Sem α) Q E s := by
  obtain ⟨ob, vs, a0, he, hc, hd, h0', h1, h2⟩ := x.there
  rcases H with ⟨hh, rfl⟩ | ⟨U, hh, C, rfl⟩
  · unfold raiseNew
    refine wpAny_bind (wpAny_handled ?_)
    rw [hh]
    first
      | exact wpAny_throw (h s.heap x)
      | exact wpAny_bind (wpAny_pure (wpAny_throw (h s.heap x)))
  · have fresh : ∀ b o, h0.get? b = some o → e ≠ b := fun b o hb q => by subst q; rw [x.new] at hb; cases hb
    obtain ⟨oU, hU⟩ := C.there
    have hz : 2 < vs.size := (Array.getElem?_eq_some_iff.mp h2).1
    refine raiseNew_chain hh (C.ext (Ext.of (N := 0) x.keeps)) (fresh U oU hU) (fun o us e1 g1 g2 g3 => ?_) he hd hz (h _ ?_)
    · rw [x.keeps _ _ hU] at g1
      cases g1
      cases C with
      | one a b d => rw [a] at hU; cases hU; rw [b] at g2; cases g2; rw [d] at g3; cases g3
      | two a b d ne f g i => rw [a] at hU; cases hU; rw [b] at g2; cases g2; rw [d] at g3; cases g3; exact fresh _ _ f
    · refine ⟨fun b o hb => (Heap.get?_update_other _ _ (fresh b o hb)).trans (x.keeps b o hb), x.new, ?_⟩
      refine ⟨_, vs.setIfInBounds 2 (.ref U), a0, Heap.get?_update_self _ he (Obj.isFreed_of_fields (Obj.data_mapFields hd _)), (Obj.cls_mapFields _ _).trans hc, Obj.data_mapFields hd _, ?_, ?_, ?_⟩
      · rw [Array.getElem?_setIfInBounds_ne (by decide)]; exact h0'
      · rw [Array.getElem?_setIfInBounds_ne (by decide)]; exact h1
      · simp [hz]
theorem raiseWords_ok {α : Type} {cls msg : String} {ctx : Value} {Q : α → Shared → Prop} (hp : PlainExc cls) (H : HCtx A s.heap ctx)
    (h : ∀ h' tk e, ExcAt s.heap h' e cls ctx → E (.ref e) { s with heap := h', toks := tk }) : wpAny (model prog w) A (raiseErrorWords cls msg : Sem α) Q E s := by
  unfold raiseErrorWords
  refine wpAny_bind (wpAny_mkText (wpAny_bind ?_))
  unfold newExc newTuple
  refine wpAny_bind (wpAny_newObj_type ?_)
  refine wpAny_bind (m := firstArgMember _ _) (wpAny_of_eq (a := Value.none) (by simp only [firstArgMember, hp.first]; rfl) ?_)
  rw [hp.own]
  refine wpAny_newObj_type ?_
  refine raiseNew_ok (h0 := s.heap) (X := cls) H ⟨fun b o hb => Heap.get?_push_of_some _ (Heap.get?_push_of_some _ hb), Heap.get?_none_of_le (by simp), ?_⟩ fun h' x => h h' _ _ x
  exact ⟨_, _, .ref s.heap.objs.size, Heap.get?_push_size _ rfl, rfl, rfl, rfl, rfl, rfl⟩
theorem bytes_out {b : Array UInt8} {i : Int} {t u : Tok} {ctx : Value} {Q : Value → Shared → Prop} (H : HCtx A s.heap ctx) (h0 : (b.size : Int) ≤ i) (h1 : i < 2 ^ 62)
    (h : ∀ h' tk e, ExcAt s.heap h' e "IndexError" ctx → E (.ref e) { s with heap := h', toks := tk }) : wpAny (model prog w) A (getItem (.bytes b t) (.int i u)) Q E s := by
  refine wpAny_getItem_slot (typeIs_bytes s _ t) (by decide) FB.slot_bytes_getitem (wpAny_call_entry FB.slot_bytes_getitem (typeIs_bytes s _ t) FB.entry_bytes_getitem ?_ (FB.args_bytes_getitem_2 _ _))
  show wpAny _ _ (Builtin.Bytes.subscript? (.int i u) >>= fun r => _) _ E s
  refine wpAny_bind ?_
  unfold Builtin.Bytes.subscript?
  refine wpAny_bind (wpAny_specialOf (typeIs_int s i u) F.slot_int_index.lookup ?_)
  have hr : Builtin.Bytes.fitsIndex i = true := by simp only [Builtin.Bytes.fitsIndex, Bool.and_eq_true, decide_eq_true_eq]; omega
  show wpAny _ _ (if (!Builtin.Bytes.fitsIndex i) = true then _ else pure (some i)) _ E s
  rw [hr]
  refine wpAny_pure ?_
  have hn : (seqIndex? i b.size).bind (b[·]?) = none := by
    have h2 : ¬ i < 0 := by omega
    have h3 : ¬ i < b.size := by omega
    simp [seqIndex?, h2, h3]
  show wpAny _ _ (match (seqIndex? i b.size).bind (b[·]?) with | some x => retInt x.toNat | none => _) _ E s
  rw [hn]
  refine wpAny_bind (wpAny_rule ?_)
  exact wpAny_bind (raiseWords_ok (A := A.in1) plainExc_IndexError H h)

theorem tuple_end {it t : Addr} {i : Nat} {items : Array Value} {ctx : Value} {Q : Option Value → Shared → Prop} (H : HCtx A s.heap ctx) 
    (hit : s.heap.IsTupleIter it t i) (ht : s.heap.IsTuple t items) (hx : items[i]? = none)
    (hQ : ∀ h', Heap.ExtBut it s.heap h' → Q none { s with heap := h' }) : wpAny (model prog w) A (pyNext (.ref it)) Q E s := by
  obtain ⟨o, ho, hc, hd⟩ := id hit
  obtain ⟨ol, hol, _, nl, hdl⟩ := ht
  unfold pyNext
  refine wpAny_bind (wpAny_attempt (wpAny_callSpecial?_slot (name := Str.ofString "__next__") hit.typeIs F.slot_tuple_iterator_next
    (wpAny_call_entry F.slot_tuple_iterator_next hit.typeIs F.entry_tuple_iterator_next ?_ (F.args_tuple_iterator_next_1 _))))
  show wpAny _ _ (field (.ref it) 0 >>= _) _ _ s
  refine wpAny_bind (wpAny_field ho hd (x := .ref t) rfl ?_)
  show wpAny _ _ (if (Value.ref t == Value.none) = true then _ else _) _ _ s
  rw [if_neg (show ¬ ((Value.ref t == Value.none) = true) from Bool.false_ne_true)]
  show wpAny _ _ (field (.ref it) 1 >>= _) _ _ s
  refine wpAny_bind (wpAny_field ho hd (x := .int i 0) rfl ?_)
  show wpAny _ _ (seqItems? (.ref t) >>= _) _ _ s
  refine wpAny_bind (wpAny_seqItems hol hdl ?_)
  simp only [Int.toNat_natCast, hx]
  refine wpAny_bind (wpAny_rule (wpAny_bind (wpAny_setField ho hd (by simp) ?_)))
  show wpAny _ _ (newExc (.type "StopIteration") [] >>= _) _ _ _
  refine wpAny_bind ?_
  simp only [newExc, newTuple]
  refine wpAny_bind (wpAny_newObj_type ?_ (by size_fits))
  refine wpAny_bind (m := firstArgMember _ _) (wpAny_of_eq (a := Value.none) (by first | rfl | (simp only [firstArgMember]; rfl)) ?_)
  refine wpAny_newObj_type ?_ (by size_fits)
  have off : ∀ b o, s.heap.get? b = some o → (∃ (vs : Array Value) (x : Value), o.data = .fields vs ∧ vs[2]? = some x) → b ≠ it := fun b o' hb hv q => by
    subst q
    rw [ho] at hb; cases hb
    obtain ⟨vs, x, h1, h2⟩ := hv
    rw [hd] at h1; cases h1
    simp at h2
  have H1 : HCtx A.in1 (s.heap.update it (Obj.mapFields (·.setIfInBounds 0 Value.none))) ctx := by
    rcases H with h1 | ⟨U, h1, h2, h3⟩
    · exact .inl h1
    · refine .inr ⟨U, h1, ?_, h3⟩
      cases h2 with
      | one a b d => exact .one ((Heap.get?_update_other _ _ (Ne.symm (off _ _ a ⟨_, _, b, d⟩))).trans a) b d
      | two a b d ne f g i => exact .two ((Heap.get?_update_other _ _ (Ne.symm (off _ _ a ⟨_, _, b, d⟩))).trans a) b d ne ((Heap.get?_update_other _ _ (Ne.symm (off _ _ f ⟨_, _, g, i⟩))).trans f) g i
  refine raiseNew_ok (h0 := s.heap.update it (Obj.mapFields (·.setIfInBounds 0 Value.none))) (X := "StopIteration") H1 ⟨fun b o hb => Heap.get?_push_of_some _ (Heap.get?_push_of_some _ hb), Heap.get?_none_of_le (by simp), _, _, _, Heap.get?_push_size _ rfl, rfl, rfl, rfl, rfl, rfl⟩ fun h' x => ?_
  obtain ⟨ob, vs, a0, he, hc', _⟩ := x.there
  refine wpAny_bind (wpAny_isInstance (T := "StopIteration") (b := true) ⟨_, he, hc'⟩ isSubtype_stop ?_)
  exact wpAny_pure (hQ _ fun b o hne hb => x.keeps b o ((Heap.get?_update_other _ _ (Ne.symm hne)).trans hb))
end
end Mine
end
section
set_option maxRecDepth 100000
open PySem PySem.W PyProof.Rows PySem.Calls
namespace Mine
variable {N : Nat}

/-- an exception on its way, over a heap -/
structure Fly (N : Nat) (h0 h : Heap) (e : Addr) (X : String) (ctx fl : Value) : Prop where
  ext : Ext N h0 h
  new : h0.get? e = none
  trk : ∃ ob vs a0 T oT ts, h.get? e = some ob ∧ ob.cls = .type X ∧ ob.data = .fields vs ∧ vs[0]? = some a0 ∧ vs[1]? = some (.ref T) ∧ vs[2]? = some ctx ∧ T ≠ e ∧ h0.get? T = none ∧ h.get? T = some oT ∧ oT.data = .fields ts ∧ ts[3]? = some fl

theorem funFrames_of {h : Heap} {as : List Addr} : ∀ {l : List Env}, (∀ env ∈ l, FrE N h env) → (∀ env ∈ l, ∀ L, env.frame = some L → L ∈ as) → h.FunFrames (hideAll h as) l
  | [], _, _ => trivial
  | env :: l, hf, ha => by
    obtain ⟨hk, L, o, es, n, h1, h2, h3, _⟩ := hf env (.head _)
    exact ⟨hk, ⟨L, o, h1, hideAll_none _ (ha env (.head _) L h1), h2, fun vs q => by rw [h3] at q; cases q⟩, funFrames_of (fun e he => hf e (.tail _ he)) fun e he => ha e (.tail _ he)⟩
theorem ext_slots {h h' : Heap} {l : List Env} (hf : ∀ env ∈ l, FrE N h env) (hs : Heap.SlotsOnly (l.filterMap (·.frame)) h h') : Ext N h h' := by
  refine ⟨fun b o e n => ?_, fun b o e _ => hs.2.2 b o e, fun b o l e => (hs.2.1 b fun hb => ?_).trans e⟩
  by_cases hb : b ∈ l.filterMap (·.frame)
  · obtain ⟨env, he, hfr⟩ := List.mem_filterMap.mp hb
    obtain ⟨_, L, o', es, n', h1, h2, h3, _⟩ := hf env he
    rw [h1] at hfr; cases hfr
    rw [h2] at e; cases e
    exact absurd h3 (n es n')
  · exact (hs.2.1 b hb).trans e
  · obtain ⟨env, he, hfr⟩ := List.mem_filterMap.mp hb
    obtain ⟨_, L, o', es, n', h1, h2, h3, h4⟩ := hf env he
    rw [h1] at hfr; cases hfr
    exact absurd l (Nat.not_lt.mpr h4)

section
variable {M : Model} {A : Around} {E : Value → Shared → Prop} {s : Shared}
theorem frame_ok {env : Env} {outer : List Env} {L : Addr} {Q : Value → Shared → Prop} (hfr : A.frames = some (env :: outer)) (hf : ∀ c ∈ env :: outer, FrE N s.heap c) (hL : env.frame = some L)
    (h : ∀ h', Ext N s.heap h' → (∀ b, (∀ o, s.heap.get? b = some o → ND o) → h'.get? b = s.heap.get? b) → h'.objs.size = s.heap.objs.size → Q (.ref L) { s with heap := h' }) : wpAny M A (frameOf env) Q E s := by
  refine wpAny_frameOf_fun hfr (funFrames_of hf fun c hc b hb => List.mem_filterMap.mpr ⟨c, hc, hb⟩) hL fun h' hs => h h' (ext_slots hf hs) (fun b hb => hs.2.1 b fun hm => ?_) hs.1
  obtain ⟨c, hc, hcb⟩ := List.mem_filterMap.mp hm
  obtain ⟨_, L', o', es, n', h1, h2, h3, _⟩ := hf c hc
  rw [h1] at hcb; cases hcb
  exact hb o' h2 es n' h3

/-- a new entry for the exception -/
theorem entry_ok {h0 : Heap} {env : Env} {outer : List Env} {L e : Addr} {X : String} {ctx head a0 : Value} {ob : Obj} {vs : Array Value} {hadNext : Bool} {Q : Unit → Shared → Prop} (hfr : A.frames = some (env :: outer)) (hf : ∀ c ∈ env :: outer, FrE N s.heap c) (hL : env.frame = some L)
    (hx : Ext N h0 s.heap) (hnew : h0.get? e = none) (he : s.heap.get? e = some ob) (hc : ob.cls = .type X) (hd : ob.data = .fields vs) (v0 : vs[0]? = some a0) (v1 : 1 < vs.size) (v2 : vs[2]? = some ctx)
    (h : ∀ h', Fly N h0 h' e X ctx (rawInt L) → Q () { s with heap := h' }) :
    wpAny M A (do setField (.ref e) 1 (← EntryCells.newEntry head (← frameOf env) .none (rawInt L) .none (← entryPlaceOf L hadNext))) Q E s := by
  refine wpAny_bind (frame_ok hfr hf hL fun h₁ x₁ k₁ z₁ => ?_)
  refine wpAny_bind (wpAny_entryPlaceOf fun pl hpl => ?_)
  unfold EntryCells.newEntry newFields
  refine wpAny_bind (wpAny_newObj_type ?_ (hpl.sizeOk5 _ _ _ _ _))
  have he₁ : h₁.get? e = some ob := x₁.nd _ _ he (.fields hd)
  have he₂ := Heap.get?_push_of_some (h := h₁) { cls := .type "traceback", dict := none, data := .fields ([head, .ref L, .none, rawInt L, .none] ++ (if pl.isEmpty then List.replicate 6 Value.none else pl)).toArray } he₁
  refine wpAny_setField he₂ hd v1 (h _ ?_)
  have hTe : h₁.objs.size ≠ e := Nat.ne_of_gt (Heap.lt_size he₁)
  have off : ∀ b o, h0.get? b = some o → e ≠ b := fun b o hb q => by subst q; rw [hnew] at hb; cases hb
  have x₂ : Ext N h0 h₁ := hx.trans x₁
  refine ⟨⟨fun b o hb n => (Heap.get?_update_other _ _ (off b o hb)).trans (Heap.get?_push_of_some _ (x₂.nd b o hb n)), fun b o hb n => ?_, fun b o l hb => (Heap.get?_update_other _ _ (off b o hb)).trans (Heap.get?_push_of_some _ (x₂.lo b o l hb))⟩, hnew, ?_⟩
  · obtain ⟨sl, q⟩ := x₂.dc b o hb n
    exact ⟨sl, (Heap.get?_update_other _ _ (off b o hb)).trans (Heap.get?_push_of_some _ q)⟩
  · refine ⟨_, vs.setIfInBounds 1 (.ref h₁.objs.size), a0, h₁.objs.size, _, _, Heap.get?_update_self _ he₂ (Obj.isFreed_of_fields (Obj.data_mapFields hd _)), (Obj.cls_mapFields _ _).trans hc, Obj.data_mapFields hd _, ?_, ?_, ?_, hTe, ?_, (Heap.get?_update_other _ _ (Ne.symm hTe)).trans (Heap.get?_push_size h₁ rfl), rfl, ?_⟩
    · rw [Array.getElem?_setIfInBounds_ne (by decide)]; exact v0
    · simp [v1]
    · rw [Array.getElem?_setIfInBounds_ne (by decide)]; exact v2
    · cases q : h0.get? h₁.objs.size with
      | none => rfl
      | some o => obtain ⟨o', q'⟩ := x₂.size q; exact absurd (Heap.lt_size q') (Nat.lt_irrefl _)
    · first | (simp; done) | (rcases hpl with rfl | ⟨_, _, _, _, _, _, _, rfl⟩ <;> simp)

theorem note_new {h0 : Heap} {env : Env} {outer : List Env} {L e : Addr} {X : String} {ctx : Value} {Q : Unit → Shared → Prop} (hfr : A.frames = some (env :: outer)) (hf : ∀ c ∈ env :: outer, FrE N s.heap c) (hL : env.frame = some L)
    (x : ExcAt h0 s.heap e X ctx) (h : ∀ h', Fly N h0 h' e X ctx (rawInt L) → Q () { s with heap := h' }) : wpAny M A (noteFrame (.ref e) env) Q E s := by
  obtain ⟨ob, vs, a0, he, hc, hd, v0, v1, v2⟩ := x.there
  unfold noteFrame
  simp only [hL]
  refine wpAny_bind (wpAny_field he hd v1 ?_)
  rw [if_neg (by decide)]
  exact entry_ok hfr hf hL (.of x.keeps) x.new he hc hd v0 (Array.getElem?_eq_some_iff.mp v1).1 v2 h
theorem note_next {h0 : Heap} {env : Env} {outer : List Env} {L e : Addr} {X : String} {ctx : Value} {Q : Unit → Shared → Prop} (hfr : A.frames = some (env :: outer)) (hf : ∀ c ∈ env :: outer, FrE N h0 c) (hL : env.frame = some L)
    (x : Fly N h0 s.heap e X ctx .none) (h : ∀ h', Fly N h0 h' e X ctx (rawInt L) → Q () { s with heap := h' }) : wpAny M A (noteFrame (.ref e) env) Q E s := by
  obtain ⟨ob, vs, a0, T, oT, ts, he, hc, hd, v0, v1, v2, hTe, hT0, hT, hTd, t3⟩ := x.trk
  unfold noteFrame
  simp only [hL]
  refine wpAny_bind (wpAny_field he hd v1 ?_)
  rw [if_pos (show (Value.ref T != Value.none) = true from by simp)]
  refine wpAny_bind (wpAny_field hT hTd t3 ?_)
  rw [if_neg (show ¬ ((Value.none == rawInt L) = true) from by simp [rawInt])]
  refine wpAny_bind (wpAny_setField hT hTd (Array.getElem?_eq_some_iff.mp t3).1 ?_)
  have off : ∀ b o, h0.get? b = some o → T ≠ b := fun b o hb q => by subst q; rw [hT0] at hb; cases hb
  have x' : Ext N h0 (s.heap.update T (Obj.mapFields (·.setIfInBounds 3 Value.none))) := ⟨fun b o hb n => (Heap.get?_update_other _ _ (off b o hb)).trans (x.ext.nd b o hb n), fun b o hb n => by
    obtain ⟨sl, q⟩ := x.ext.dc b o hb n
    exact ⟨sl, (Heap.get?_update_other _ _ (off b o hb)).trans q⟩, fun b o l hb => (Heap.get?_update_other _ _ (off b o hb)).trans (x.ext.lo b o l hb)⟩
  refine entry_ok (s := { s with heap := _ }) hfr (fun c hc => (hf c hc).ext x') hL x' x.new ((Heap.get?_update_other _ _ hTe).trans he) hc hd v0 (Array.getElem?_eq_some_iff.mp v1).1 v2 h
theorem land_ok {h0 : Heap} {e : Addr} {X : String} {ctx fl : Value} {Q : Unit → Shared → Prop} (x : Fly N h0 s.heap e X ctx fl) (h : ∀ h', Fly N h0 h' e X ctx .none → Q () { s with heap := h' }) : wpAny M A (setFlight (.ref e) none) Q E s := by
  obtain ⟨ob, vs, a0, T, oT, ts, he, hc, hd, v0, v1, v2, hTe, hT0, hT, hTd, t3⟩ := x.trk
  have hz : 3 < ts.size := (Array.getElem?_eq_some_iff.mp t3).1
  refine wpAny_setFlight_none he hd v1 hT hTd hz (h _ ?_)
  have off : ∀ b o, h0.get? b = some o → T ≠ b := fun b o hb q => by subst q; rw [hT0] at hb; cases hb
  refine ⟨⟨fun b o hb n => (Heap.get?_update_other _ _ (off b o hb)).trans (x.ext.nd b o hb n), fun b o hb n => ?_, fun b o l hb => (Heap.get?_update_other _ _ (off b o hb)).trans (x.ext.lo b o l hb)⟩, x.new, ?_⟩
  · obtain ⟨sl, q⟩ := x.ext.dc b o hb n
    exact ⟨sl, (Heap.get?_update_other _ _ (off b o hb)).trans q⟩
  · exact ⟨ob, vs, a0, T, _, _, (Heap.get?_update_other _ _ hTe).trans he, hc, hd, v0, v1, v2, hTe, hT0, Heap.get?_update_self _ hT (Obj.isFreed_of_fields (Obj.data_mapFields hTd _)), Obj.data_mapFields hTd _, by simp [hz]⟩
end
end Mine
end
section
set_option maxRecDepth 100000
open PySem PySem.W PyProof.Rows PySem.Calls
namespace Mine
variable {N : Nat}

theorem Fly.typeIs {h0 : Heap} {s : Shared} {e : Addr} {X : String} {ctx fl : Value} (x : Fly N h0 s.heap e X ctx fl) : s.TypeIs (.ref e) X := by
  obtain ⟨ob, _, _, _, _, _, he, hc, _⟩ := x.trk
  exact ⟨ob, he, hc⟩
theorem Fly.chain2 {h0 h : Heap} {e e1 : Addr} {X : String} {fl : Value} (x : Fly N h0 h e X (.ref e1) fl) {o1 : Obj} {vs1 : Array Value} (ne : e1 ≠ e) (h1 : h.get? e1 = some o1) (h2 : o1.data = .fields vs1) (h3 : vs1[2]? = some .none) : Chain h e := by
  obtain ⟨ob, vs, _, _, _, _, he, _, hd, _, _, v2, _⟩ := x.trk
  exact .two he hd v2 ne h1 h2 h3

section
variable {X : Cx} {σ : Mine.Loc} {A : Around} {E : Value → Shared → Prop} {s : Shared} {h0 : Heap} {m : Str → Option Value}
/-- a clause that takes the exception -/
theorem clause_ok (O : X.Ok) (S : X.St σ h0 m) {x : Str} {np pos : Pos} {b₀ : Stmt} {suite : List Stmt} {rest : List ExceptHandler} {Q : Flow → Shared → Prop} {e : Addr} {T : String} {ctx : Value} (y : Fly X.G.n h0 s.heap e T ctx .none)
    (hx : X.scope.names.lookup x = some .globalImplicit) (hm : X.G.mg x = none) (hv : X.G.mb x = some (.type T)) (hd : (x == ("__debug__" : Str)) = false)
    (h3 : isSubtype (.type T) (.type T) = pure true) (h1 : isSubtype (.type T) (.type "BaseException") = pure true) (h2 : isSubtype (.type ((Manifest.find? T).elim "type" fun y => y.metatype)) (.type "tuple") = pure false)
    (hE : PassesOwnAt (model X.G.prog X.G.w) (A.mark (some (.ref e))) A X.env E)
    (k : ∀ h', Fly X.G.n h0 h' e T ctx .none → wpAny (model X.G.prog X.G.w) (A.mark (some (.ref e))) (execs (b₀ :: suite) X.env) Q E { s with heap := h' }) :
    wpAny (model X.G.prog X.G.w) A (handleBy (.ref e) X.env (.ExceptHandler (some (.Name x np)) none (b₀ :: suite) pos :: rest)) Q E s := by
  have S' := S.ext y.ext
  refine wpAny_handleBy_builtin (X := T) (T := T) (b := true) h1 h2 h3 (wpAny_passesOwnAt hE (Name_function_global O.hk hx (loadGlobal_builtin (St.gNs O S') hm (St.bNs O S') hv ⟨rfl, y.typeIs, ?_⟩) hd))
  rw [if_pos rfl]
  exact land_ok y fun h' y' => wpAny_passesOwnAt hE (k h' y')
theorem caught_new (O : X.Ok) (S : X.St σ h0 m) {outer : List Env} (hfr : A.frames = some (X.env :: outer)) (hX : X.frames = X.env :: outer) (hL : X.env.frame = some X.L) {x : Str} {np pos : Pos} {b₀ : Stmt} {suite : List Stmt} {rest : List ExceptHandler} {Q : Flow → Shared → Prop} {e : Addr} {T : String} {ctx : Value} (y : ExcAt h0 s.heap e T ctx)
    (hx : X.scope.names.lookup x = some .globalImplicit) (hm : X.G.mg x = none) (hv : X.G.mb x = some (.type T)) (hd : (x == ("__debug__" : Str)) = false)
    (h3 : isSubtype (.type T) (.type T) = pure true) (h1 : isSubtype (.type T) (.type "BaseException") = pure true) (h2 : isSubtype (.type ((Manifest.find? T).elim "type" fun y => y.metatype)) (.type "tuple") = pure false)
    (hE : PassesOwnAt (model X.G.prog X.G.w) (A.mark (some (.ref e))) A X.env E)
    (k : ∀ h', Fly X.G.n h0 h' e T ctx .none → wpAny (model X.G.prog X.G.w) (A.mark (some (.ref e))) (execs (b₀ :: suite) X.env) Q E { s with heap := h' }) :
    wpAny (model X.G.prog X.G.w) A (noteFrame (.ref e) X.env) (fun _ s₂ => wpAny (model X.G.prog X.G.w) A (setFlight (.ref e) none) (fun _ s₃ =>
      wpAny (model X.G.prog X.G.w) A (handleBy (.ref e) X.env (.ExceptHandler (some (.Name x np)) none (b₀ :: suite) pos :: rest)) Q E s₃) E s₂) E s := by
  have hf : ∀ c ∈ X.env :: outer, FrE X.G.n s.heap c := fun c hc => (St.frames O S c (hX ▸ hc)).ext (.of y.keeps)
  refine note_new hfr hf hL y fun h' y' => ?_
  refine land_ok (s := { s with heap := h' }) y' fun h'' y'' => ?_
  exact clause_ok (s := { s with heap := h'' }) O S y'' hx hm hv hd h3 h1 h2 hE k
theorem caught_fly (O : X.Ok) (S : X.St σ h0 m) {outer : List Env} (hfr : A.frames = some (X.env :: outer)) (hX : X.frames = X.env :: outer) (hL : X.env.frame = some X.L) {x : Str} {np pos : Pos} {b₀ : Stmt} {suite : List Stmt} {rest : List ExceptHandler} {Q : Flow → Shared → Prop} {e : Addr} {T : String} {ctx : Value} (y : Fly X.G.n h0 s.heap e T ctx .none)
    (hx : X.scope.names.lookup x = some .globalImplicit) (hm : X.G.mg x = none) (hv : X.G.mb x = some (.type T)) (hd : (x == ("__debug__" : Str)) = false)
    (h3 : isSubtype (.type T) (.type T) = pure true) (h1 : isSubtype (.type T) (.type "BaseException") = pure true) (h2 : isSubtype (.type ((Manifest.find? T).elim "type" fun y => y.metatype)) (.type "tuple") = pure false)
    (hE : PassesOwnAt (model X.G.prog X.G.w) (A.mark (some (.ref e))) A X.env E)
    (k : ∀ h', Fly X.G.n h0 h' e T ctx .none → wpAny (model X.G.prog X.G.w) (A.mark (some (.ref e))) (execs (b₀ :: suite) X.env) Q E { s with heap := h' }) :
    wpAny (model X.G.prog X.G.w) A (noteFrame (.ref e) X.env) (fun _ s₂ => wpAny (model X.G.prog X.G.w) A (setFlight (.ref e) none) (fun _ s₃ =>
      wpAny (model X.G.prog X.G.w) A (handleBy (.ref e) X.env (.ExceptHandler (some (.Name x np)) none (b₀ :: suite) pos :: rest)) Q E s₃) E s₂) E s := by
  refine note_next hfr (fun c hc => St.frames O S c (hX ▸ hc)) hL y fun h' y' => ?_
  refine land_ok (s := { s with heap := h' }) y' fun h'' y'' => ?_
  exact clause_ok (s := { s with heap := h'' }) O S y'' hx hm hv hd h3 h1 h2 hE k

end
end Mine
end
section
set_option maxRecDepth 100000
open PySem PySem.W PyProof.Rows PySem.Calls
namespace Mine
variable {N : Nat}

/-- statements that may end in a raise -/
def SSG (X : Cx) (H : Option Value → Prop) (σ : Mine.Loc) (st : List Stmt) (P : Fl → Mine.Loc → Prop) (Z : Mine.Loc → Heap → Heap → Addr → Prop) : Prop :=
  ∀ (A : Around) (s : Shared) (m : Str → Option Value) (K : Flow → Shared → Prop) (E : Value → Shared → Prop), Room X A → X.St σ s.heap m → H A.handled →
    (∀ A' A'', SameStack A' A → PassesOwnAt (model X.G.prog X.G.w) A' A'' X.env E) →
    (∀ σ' m' h1 h' tk e, Z σ' h1 h' e → X.St σ' h1 m' → Step X.L σ s.heap m σ' h1 m' → E (.ref e) { s with heap := h', toks := tk }) →
    (∀ fl fl' σ' m' h' tk, P fl' σ' → FlRep h' X.ok fl fl' → X.St σ' h' m' → Step X.L σ s.heap m σ' h' m' → K fl { s with heap := h', toks := tk }) →
    wpAny (model X.G.prog X.G.w) A (execs st X.env) K E s
def S1G (X : Cx) (H : Option Value → Prop) (σ : Mine.Loc) (st : Stmt) (P : Fl → Mine.Loc → Prop) (Z : Mine.Loc → Heap → Heap → Addr → Prop) : Prop :=
  ∀ (A : Around) (s : Shared) (m : Str → Option Value) (K : Flow → Shared → Prop) (E : Value → Shared → Prop), Room X A → X.St σ s.heap m → H A.handled →
    (∀ A' A'', SameStack A' A → PassesOwnAt (model X.G.prog X.G.w) A' A'' X.env E) →
    (∀ σ' m' h1 h' tk e, Z σ' h1 h' e → X.St σ' h1 m' → Step X.L σ s.heap m σ' h1 m' → E (.ref e) { s with heap := h', toks := tk }) →
    (∀ fl fl' σ' m' h' tk, P fl' σ' → FlRep h' X.ok fl fl' → X.St σ' h' m' → Step X.L σ s.heap m σ' h' m' → K fl { s with heap := h', toks := tk }) →
    wpAny (model X.G.prog X.G.w) A (exec st X.env) K E s

section
variable {X : Cx} {H : Option Value → Prop} {σ : Mine.Loc} {P : Fl → Mine.Loc → Prop} {Z : Mine.Loc → Heap → Heap → Addr → Prop}
theorem SSG.ofSS {st : List Stmt} (h : SS X σ st P) : SSG X H σ st P Z := fun A s m K E R S _ _ _ hK => wpAny_noRaise (h A s m K R S hK)
theorem S1G.ofS1 {st : Stmt} (h : S1 X σ st P) : S1G X H σ st P Z := fun A s m K E R S _ _ _ hK => wpAny_noRaise (h A s m K R S hK)
theorem SSG.mono {st : List Stmt} {P' : Fl → Mine.Loc → Prop} (h : SSG X H σ st P Z) (hp : ∀ fl σ', P fl σ' → P' fl σ') : SSG X H σ st P' Z :=
  fun A s m K E R S hh hO hE hK => h A s m K E R S hh hO hE fun fl fl' σ' m' h' tk q => hK fl fl' σ' m' h' tk (hp _ _ q)
theorem SSG.cons {st : Stmt} {rest : List Stmt} (h : S1G X H σ st (fun fl σ' => match fl with | .next => SSG X H σ' rest P Z | f => P f σ') Z) : SSG X H σ (st :: rest) P Z := by
  intro A s m K E R S hh hO hE hK
  refine wpAny_execs_cons (h A s m _ E R S hh hO hE ?_)
  intro fl fl' σ' m' h' tk hP hf S' hs
  cases hf with
  | next => exact hP A _ m' K E R S' hh hO (fun σ'' m'' h1 h'' tk' e hz S'' hs' => hE σ'' m'' h1 h'' tk' e hz S'' (hs.trans hs')) fun fl fl' σ'' m'' h'' tk' hP' hf' S'' hs' => hK fl fl' σ'' m'' h'' tk' hP' hf' S'' (hs.trans hs')
  | brk => exact hK _ _ _ _ _ _ hP .brk S' hs
  | cont => exact hK _ _ _ _ _ _ hP .cont S' hs
  | ret r => exact hK _ _ _ _ _ _ hP (.ret r) S' hs
/-- a plain statement ahead -/
theorem SSG.cons1 {st : Stmt} {rest : List Stmt} (h : S1 X σ st (fun fl σ' => match fl with | .next => SSG X H σ' rest P Z | f => P f σ')) : SSG X H σ (st :: rest) P Z := SSG.cons (.ofS1 h)
/-- a while that may raise -/
theorem S1G.while {t : Expr} {body : List Stmt} {pos : Pos} (I : Nat → Mine.Loc → Prop) (h0 : ∃ n σ', Sub σ' σ ∧ I n σ')
    (turn : ∀ n σ', I n σ' → ST X σ' t (fun c => if c then SSG X H σ' body (fun fl σ'' => match fl with
      | .next | .cont => ∃ n', n' < n ∧ ∃ σ₃, Sub σ₃ σ'' ∧ I n' σ₃
      | .brk => P .next σ''
      | .ret d => P (.ret d) σ'') Z else P .next σ')) : S1G X H σ (.While t body [] pos) P Z := by
  intro A s m K E R S hh hO hE hK
  obtain ⟨n, σ₁, hsub, hI⟩ := h0
  have hO1 := hO A A (SameStack.refl A)
  refine wpAny_While (codeAny_whileLoop (fun n s' => ∃ σ' m' h' tk, s' = { s with heap := h', toks := tk } ∧ I n σ' ∧ X.St σ' h' m' ∧ Step X.L σ s.heap m σ' h' m') ?_ n
    ⟨σ₁, m, s.heap, s.toks, rfl, hI, S.sub hsub, Step.refl.sub hsub⟩)
  rintro n s' ⟨σ', m', h', tk, rfl, hI, S', hs⟩
  refine wpAny_mono (turn n σ' hI A { s with heap := h', toks := tk } m' _ R S' fun c h1 t1 hc e1 => ?_) (fun _ _ x => x) (fun _ _ x => x.elim)
  cases c with
  | false => exact wpAny_execs_nil (hK _ _ _ _ h1 t1 hc .next (S'.ext e1) (hs.trans (.ofExt e1)))
  | true =>
    refine wpAny_passesOwnAt (A' := A) hO1 ?_
    refine hc A { s with heap := h1, toks := t1 } m' _ E R (S'.ext e1) hh hO (fun σ'' m'' h2 h'' tk' e hz S'' hs' => hE σ'' m'' h2 h'' tk' e hz S'' ((hs.trans (.ofExt e1)).trans hs')) fun fl fl' σ'' m'' h'' tk'' hp hf S'' hs' => ?_
    have hs'' := (hs.trans (.ofExt e1)).trans hs'
    cases hf with
    | next =>
      obtain ⟨n', hlt, σ₃, hsub', hI'⟩ := hp
      exact ⟨n', hlt, σ₃, m'', h'', tk'', rfl, hI', S''.sub hsub', hs''.sub hsub'⟩
    | cont =>
      obtain ⟨n', hlt, σ₃, hsub', hI'⟩ := hp
      exact ⟨n', hlt, σ₃, m'', h'', tk'', rfl, hI', S''.sub hsub', hs''.sub hsub'⟩
    | brk => exact hK _ _ _ _ _ _ hp .next S'' hs''
    | ret r => exact hK _ _ _ _ _ _ hp (.ret r) S'' hs''
end

section
variable {M : Model} {A : Around} {E : Value → Shared → Prop} {s : Shared}
/-- a new exception leaves the frame that raised it -/
theorem leaving_new {h0 : Heap} {env : Env} {outer : List Env} {L e : Addr} {X : String} {ctx : Value} {Q : Unit → Shared → Prop} (hfr : A.frames = some (env :: outer)) (hf : ∀ c ∈ env :: outer, FrE N s.heap c) (hL : env.frame = some L)
    (x : ExcAt h0 s.heap e X ctx) (h : ∀ h', Fly N h0 h' e X ctx .none → Q () { s with heap := h' }) : wpAny M A (leaving env (.ref e)) Q E s := by
  unfold leaving
  refine wpAny_bind (note_new hfr hf hL x fun h' f => ?_)
  exact land_ok (s := { s with heap := h' }) f h
end
end Mine
end
section
set_option maxRecDepth 100000
open PySem PySem.W PyProof.Rows PySem.Calls
namespace Mine
variable {N : Nat}

/-- raised in a handler: upon another one, which was raised upon none -/
def Upon (T : String) (h1 h' : Heap) (e : Addr) : Prop := ∃ e1 o1 vs1, ExcAt h1 h' e T (.ref e1) ∧ h1.get? e1 = some o1 ∧ o1.data = .fields vs1 ∧ vs1[2]? = some .none

/-- the same, on its way -/
def UFly (N : Nat) (T : String) (h1 h' : Heap) (e : Addr) : Prop := ∃ e1 o1 vs1, Fly N h1 h' e T (.ref e1) .none ∧ h1.get? e1 = some o1 ∧ o1.data = .fields vs1 ∧ vs1[2]? = some .none
theorem Fly.chainU {T : String} {h1 h' : Heap} {e e1 : Addr} {o1 : Obj} {vs1 : Array Value} {fl : Value} (f : Fly N h1 h' e T (.ref e1) fl) (g1 : h1.get? e1 = some o1) (g2 : o1.data = .fields vs1) (g3 : vs1[2]? = some .none) : Chain h' e :=
  f.chain2 (fun q => by subst q; rw [f.new] at g1; cases g1) (f.ext.nd _ _ g1 (.fields g2)) g2 g3

/-- what a def of the text raises, for these data -/
def RSpec (G : GG) (k : Nat) (name : Str) (ds : List D) (T : String) : Prop :=
  ∀ f, G.mg name = some (.ref f) →
    ∀ (A : Around) (s : Shared) (vs : List Value) (ok : Addr → Prop) (Q : Value → Shared → Prop) (E : Value → Shared → Prop) (fs : List Env), A.frames = some fs → (∀ env ∈ fs, FrE G.n s.heap env) → Ext G.n G.top s.heap → G.n ≤ s.heap.objs.size → A.depth + k < recursionLimit → A.units + 20 * k + 100 < cLine → A.handled = none →
      (∀ a, s.heap.objs.size ≤ a → ok a) → Reps s.heap ok vs ds →
      (∀ h1 h' tk e, Ext G.n s.heap h1 → UFly G.n T h1 h' e → E (.ref e) { s with heap := h', toks := tk }) → wpAny (model G.prog G.w) A (call (.ref f) vs) Q E s
/-- what a def of the text does within a handler, for these data -/
def SpecH (G : GG) (k : Nat) (name : Str) (ds : List D) (P : D → Prop) : Prop :=
  ∀ f, G.mg name = some (.ref f) →
    ∀ (A : Around) (s : Shared) (vs : List Value) (ok : Addr → Prop) (K : Value → Shared → Prop) (fs : List Env) (U : Addr), A.frames = some fs → (∀ env ∈ fs, FrE G.n s.heap env) → Ext G.n G.top s.heap → G.n ≤ s.heap.objs.size → A.depth + k < recursionLimit → A.units + 20 * k + 100 < cLine → A.handled = some (.ref U) → Chain s.heap U →
      (∀ a, s.heap.objs.size ≤ a → ok a) → Reps s.heap ok vs ds →
      (∀ d v h' tk, P d → Ext G.n s.heap h' → Rep h' ok v d → K v { s with heap := h', toks := tk }) → wpAny (model G.prog G.w) A (call (.ref f) vs) K NoE s

/-- a def's body, whatever its end -/
theorem call_any {G : GG} (GO : G.Ok) {d : DefRec} (hd : HasDef G d) {k : Nat} {ds : List D} {P : D → Prop} {σ : Mine.Loc} {H : Option Value → Prop} {Z : Heap → Heap → Addr → Prop} {A : Around} {s : Shared} {vs : List Value} {ok : Addr → Prop} {Q : Value → Shared → Prop} {E : Value → Shared → Prop} {fs : List Env}
    (h : ∀ (L a : Addr) (cd : Value), Cx.Ok ⟨G, s.heap, envOf d.name d.scope L a cd, ok, k, False, envOf d.name d.scope L a cd :: fs⟩ →
      SSG ⟨G, s.heap, envOf d.name d.scope L a cd, ok, k, False, envOf d.name d.scope L a cd :: fs⟩ H σ d.body (fun fl _ => match fl with | .ret d => P d | _ => False) (fun _ => Z))
    (hbind : ∀ pm code doc (vs : List Value), vs.length = ds.length → bindArgs (docDef d.name d.params d.body d.scope pm code doc) ⟨vs, []⟩ = pure ((d.params.args.map (·.arg)).zip vs))
    (hσ : ((d.params.args.map (·.arg)).zip (ds.map Sl.fr)).reverse = σ)
    (hloc : ∀ x ∈ d.params.args.map (·.arg), d.scope.names.lookup x = some .local)
    (hco : d.scope.isCoroutine = false) (hgen : d.scope.isGenerator = false) (hk : d.scope.kind = .function)
    (hcell : ∀ x ∈ d.scope.names, x.2 ≠ .cell) {f : Addr} (hf : G.mg d.name = some (.ref f)) (hfs : A.frames = some fs) (hfe : ∀ env ∈ fs, FrE G.n s.heap env) (hE : Ext G.n G.top s.heap) (hez : G.n ≤ s.heap.objs.size) (hdp : A.depth + (k + 1) < recursionLimit) (hun : A.units + 20 * (k + 1) + 100 < cLine)
    (hH : H A.handled) (hok : ∀ a, s.heap.objs.size ≤ a → ok a) (hr : Reps s.heap ok vs ds)
    (hZ : ∀ h1 h' tk e env, Z h1 h' e → Ext G.n s.heap h1 → env.frame = some s.heap.objs.size → (∀ c ∈ env :: fs, FrE G.n h1 c) → wpAny (model G.prog G.w) (A.deeper env) (leaving env (.ref e)) (fun _ s' => E (.ref e) s') E { s with heap := h', toks := tk })
    (hQ : ∀ d v h' tk, P d → Ext G.n s.heap h' → Rep h' ok v d → Q v { s with heap := h', toks := tk }) : wpAny (model G.prog G.w) A (call (.ref f) vs) Q E s := by
  obtain ⟨f', o, pm, code, doc, h1, h2, h3, h4⟩ := hd
  rw [hf] at h1; cases h1
  refine wpAny_call (call_plain (by omega) (hE.nd _ _ h2 fun _ _ q => by rw [h3] at q; cases q) h3 (Ext.noLimit hE GO.nl) (Ext.codeRec hE h4) (hbind pm code doc vs hr.length) ?_ ?_ hco hgen hk hcell)
  · intro x hx
    exact hloc _ (List.of_mem_zip hx).1
  · intro h₁ F
    have hX : Cx.Ok ⟨G, s.heap, envOf d.name d.scope s.heap.objs.size f code, ok, k, False, envOf d.name d.scope s.heap.objs.size f code :: fs⟩ := ⟨GO, hk, rfl, rfl, hE, hez, hok, fun env he => by
      rcases List.mem_cons.mp he with rfl | he
      · exact .inr ⟨rfl, by show d.scope.kind ≠ _; rw [hk]; decide⟩
      · exact .inl (hfe env he)⟩
    have al : Al s.heap ok σ ((d.params.args.map (·.arg)).zip vs).reverse := hσ ▸ (Al.zip hr).reverse
    have S : Cx.St ⟨G, s.heap, envOf d.name d.scope s.heap.objs.size f code, ok, k, False, envOf d.name d.scope s.heap.objs.size f code :: fs⟩ σ h₁ (fun x => ((d.params.args.map (·.arg)).zip vs).reverse.lookup x) := by
      refine ⟨⟨F.ns, .of F.keep, F.above⟩, fun x sl hx => ?_, fun x y ds es hx _ _ => ?_⟩
      · obtain ⟨d', v, rfl, hv, r⟩ := al.lookup hx
        refine ⟨v, hv, (r.ext (Ext.of (N := G.n) F.keep)).weak fun b hb => ⟨hb, fun y es hy => ?_⟩⟩
        obtain ⟨_, _, e, _⟩ := al.lookup hy
        cases e
      · obtain ⟨_, _, e, _⟩ := al.lookup hx
        cases e
    have R : Room ⟨G, s.heap, envOf d.name d.scope s.heap.objs.size f code, ok, k, False, envOf d.name d.scope s.heap.objs.size f code :: fs⟩ (A.deeper (envOf d.name d.scope s.heap.objs.size f code)) := by
      refine ⟨?_, ?_, fun x => x.elim, by show A.frames.map _ = _; rw [hfs]; rfl⟩
      · show A.depth + 1 + k < recursionLimit; omega
      · show A.units + 3 + 20 * k + 100 < cLine; omega
    refine wpAny_mono (h s.heap.objs.size f code hX (A.deeper (envOf d.name d.scope s.heap.objs.size f code)) { s with heap := h₁, toks := s.toks + ((d.params.args.map (·.arg)).zip vs).length } _
      (fun fl s' => ∃ v, fl = .ret v ∧ Q v s') (fun e s' => wpAny (model G.prog G.w) (A.deeper (envOf d.name d.scope s.heap.objs.size f code)) (leaving (envOf d.name d.scope s.heap.objs.size f code) e) (fun _ s'' => E e s'') E s') R S hH ?_ ?_ ?_) ?_ ?_
    · intro A' A'' hAA
      exact PassesOwnAt.leavingOf hAA
    · intro σ' m' h1 h' tk e hz S' hs
      refine hZ h1 h' tk e _ hz S'.F.keep rfl (St.frames hX S')
    · intro fl fl' σ' m' h' tk hP hf S' hs
      cases hf with
      | ret r => exact ⟨_, rfl, hQ _ _ h' tk hP S'.F.keep r⟩
      | _ => exact hP.elim
    · intro fl s' H
      obtain ⟨v, rfl, hv⟩ := H
      exact hv
    · exact fun _ _ x => x

theorem RSpec.intro {G : GG} (GO : G.Ok) {d : DefRec} (hd : HasDef G d) {k : Nat} {ds : List D} {σ : Mine.Loc} {T : String}
    (h : ∀ (h₀ : Heap) (L a : Addr) (cd : Value) (ok : Addr → Prop) (fs : List Env), Cx.Ok ⟨G, h₀, envOf d.name d.scope L a cd, ok, k, False, envOf d.name d.scope L a cd :: fs⟩ →
      SSG ⟨G, h₀, envOf d.name d.scope L a cd, ok, k, False, envOf d.name d.scope L a cd :: fs⟩ (fun v => v = none) σ d.body (fun _ _ => False) (fun _ => Upon T))
    (hbind : ∀ pm code doc (vs : List Value), vs.length = ds.length → bindArgs (docDef d.name d.params d.body d.scope pm code doc) ⟨vs, []⟩ = pure ((d.params.args.map (·.arg)).zip vs))
    (hσ : ((d.params.args.map (·.arg)).zip (ds.map Sl.fr)).reverse = σ)
    (hloc : ∀ x ∈ d.params.args.map (·.arg), d.scope.names.lookup x = some .local)
    (hco : d.scope.isCoroutine = false) (hgen : d.scope.isGenerator = false) (hk : d.scope.kind = .function)
    (hcell : ∀ x ∈ d.scope.names, x.2 ≠ .cell) : RSpec G (k + 1) d.name ds T := by
  intro f hf A s vs ok Q E fs hfs hfe hE hez hdp hun hnh hok hr hR
  refine call_any GO hd (P := fun _ => False) (fun L a cd O => (h s.heap L a cd ok fs O).mono fun _ _ q => q.elim) hbind hσ hloc hco hgen hk hcell hf hfs hfe hE hez hdp hun hnh hok hr ?_ (fun _ _ _ _ q => q.elim)
  rintro h1 h' tk e env ⟨e1, o1, vs1, hx, g1, g2, g3⟩ x1 hL hfr
  refine leaving_new (s := { s with heap := h', toks := tk }) (outer := fs) (by show A.frames.map _ = _; rw [hfs]; rfl) (fun c hc => (hfr c hc).ext (.of hx.keeps)) hL hx fun h'' f => ?_
  exact hR h1 h'' tk e x1 ⟨e1, o1, vs1, f, g1, g2, g3⟩

theorem SpecH.intro {G : GG} (GO : G.Ok) {d : DefRec} (hd : HasDef G d) {k : Nat} {ds : List D} {P : D → Prop} {σ : Mine.Loc}
    (h : ∀ (h₀ : Heap) (L a : Addr) (cd : Value) (ok : Addr → Prop) (fs : List Env) (U : Addr), Chain h₀ U → Cx.Ok ⟨G, h₀, envOf d.name d.scope L a cd, ok, k, False, envOf d.name d.scope L a cd :: fs⟩ →
      SSG ⟨G, h₀, envOf d.name d.scope L a cd, ok, k, False, envOf d.name d.scope L a cd :: fs⟩ (fun v => v = some (.ref U)) σ d.body (fun fl _ => match fl with | .ret d => P d | _ => False) (fun _ _ _ _ => False))
    (hbind : ∀ pm code doc (vs : List Value), vs.length = ds.length → bindArgs (docDef d.name d.params d.body d.scope pm code doc) ⟨vs, []⟩ = pure ((d.params.args.map (·.arg)).zip vs))
    (hσ : ((d.params.args.map (·.arg)).zip (ds.map Sl.fr)).reverse = σ)
    (hloc : ∀ x ∈ d.params.args.map (·.arg), d.scope.names.lookup x = some .local)
    (hco : d.scope.isCoroutine = false) (hgen : d.scope.isGenerator = false) (hk : d.scope.kind = .function)
    (hcell : ∀ x ∈ d.scope.names, x.2 ≠ .cell) : SpecH G (k + 1) d.name ds P := by
  intro f hf A s vs ok K fs U hfs hfe hE hez hdp hun hnh hC hok hr hK
  exact call_any GO hd (fun L a cd O => h s.heap L a cd ok fs U hC O) hbind hσ hloc hco hgen hk hcell hf hfs hfe hE hez hdp hun hnh hok hr (fun _ _ _ _ _ q => q.elim) hK

section
variable {X : Cx} {σ : Mine.Loc} {A : Around} {s : Shared} {m : Str → Option Value} {K : Flow → Shared → Prop} {E : Value → Shared → Prop}
/-- an item of bytes behind their end, caught -/
theorem try_sub (O : X.Ok) (R : Room X A) (S : X.St σ s.heap m) {outer : List Env} (hX : X.frames = X.env :: outer) (hL : X.env.frame = some X.L) {ctx : Value} (H : HCtx A s.heap ctx)
    (hO : ∀ A' A'', SameStack A' A → PassesOwnAt (model X.G.prog X.G.w) A' A'' X.env E)
    {x a b n : Str} {xp ap bp sp np p hp tp : Pos} {b₀ : Stmt} {suite : List Stmt} {rest : List ExceptHandler} {bs : Array UInt8} {i : Int}
    (ha : σ.lookup a = some (.fr (.bytes bs))) (hb : σ.lookup b = some (.fr (.int i))) (la : X.scope.names.lookup a = some .local) (lb : X.scope.names.lookup b = some .local) (h0 : (bs.size : Int) ≤ i) (h1 : i < 2 ^ 62)
    (hn : X.scope.names.lookup n = some .globalImplicit) (hm : X.G.mg n = none) (hv : X.G.mb n = some (.type "IndexError")) (hd : (n == ("__debug__" : Str)) = false)
    (da : (a == ("__debug__" : Str)) = false) (db : (b == ("__debug__" : Str)) = false)
    (hK : ∀ h1 h' e tk, Ext X.G.n s.heap h1 → Fly X.G.n h1 h' e "IndexError" ctx .none → wpAny (model X.G.prog X.G.w) (A.mark (some (.ref e))) (execs (b₀ :: suite) X.env) K E { s with heap := h', toks := tk }) :
    wpAny (model X.G.prog X.G.w) A (exec (.Try [.Assign [.Name x xp] (.Subscript (.Name a ap) (.Name b bp) sp) p] (.ExceptHandler (some (.Name n np)) none (b₀ :: suite) hp :: rest) [] [] tp) X.env) K E s := by
  refine wpAny_Try_except (wpAny_execs_cons (wpAny_Assign_Name (Subscript_ ?_) rfl))
  refine wpAny_noRaise (SE.name (sf := true) (P := fun d => d = .bytes bs) O ha rfl la da A s m _ R S fun d v h1' t1 hd1 e1 r => ?_)
  subst hd1
  refine wpAny_noRaise (SE.name (sf := true) (P := fun d => d = .int i) O hb rfl lb db A _ m _ R (S.ext e1) fun d2 v2 h2 t2 hd2 e2 r2 => ?_)
  subst hd2
  obtain ⟨t, rfl⟩ := r.bytes_inv
  obtain ⟨u, rfl⟩ := r2.int_inv
  refine tail_any (typeIs_bytes _ _ _) FB.slot_bytes_getitem.lookup ?_ (by rfl)
  have e12 : Ext X.G.n s.heap h2 := e1.trans e2
  refine bytes_out (H.ext e12) h0 h1 fun h' tk e y => ?_
  have S2 : X.St σ h2 m := S.ext e12
  refine caught_new (h0 := h2) (s := { s with heap := h', toks := tk }) O S2 (by rw [R.fr, hX]) hX hL y hn hm hv hd (by rw [isSubtype_type]; kernel_rfl) (by rw [isSubtype_type]; kernel_rfl) (by rw [isSubtype_type]; kernel_rfl) (hO _ _ (SameStack.mark A _)) fun h'' f => ?_
  exact hK h2 h'' e tk e12 f

/-- raise Class(..) -/
theorem raise_made2 {T : String} {x : Expr} {pos : Pos} {Q : Flow → Shared → Prop} (F : ExcRaiseFacts T)
    (h : wpAny (model X.G.prog X.G.w) A (eval x X.env) (fun v s₁ => ∃ h0 ctx e, v = .ref e ∧ ExcAt h0 s₁.heap e T .none ∧ HCtx A h0 ctx ∧ ∀ h', ExcAt h0 h' e T ctx → E (.ref e) { s₁ with heap := h' }) E s) :
    wpAny (model X.G.prog X.G.w) A (exec (.Raise (some x) none pos) X.env) Q E s := by
  rw [arm_exec_Raise]
  refine wpAny_bind (wpAny_standAt ?_)
  unfold raiseStmt
  refine wpAny_bind ?_
  refine wpAny_bind (wpAny_mono h (fun v s₁ h₁ => ?_) fun _ _ x => x)
  obtain ⟨h0, ctx, e, rfl, hx, hc, hE⟩ := h₁
  refine wpAny_bind (wpAny_standAt (wpAny_pure ?_))
  obtain ⟨ob, vs, a0, he, hcl, hd, v0, v1, v2⟩ := hx.there
  obtain ⟨hp, g, d, tk, os⟩ := s₁
  have hsub := F.isExc
  have hmeta := F.plainMeta
  obtain ⟨oc, od, odt, osl⟩ := ob
  obtain rfl : oc = .type T := hcl
  obtain rfl : odt = .fields vs := hd
  repeat (first | refine wpAny_loadPart he ?_ | wp_step)
  rw [v1]
  refine wpAny_pure ?_
  rw [if_neg (by decide)]
  refine wpAny_pure ?_
  exact raiseNew_ok (s := ⟨hp, g, d, tk, os⟩) hc hx hE

/-- raise UnicodeDecodeError(..) in a handler -/
theorem raise_ude (O : X.Ok) (R : Room X A) (S : X.St σ s.heap m) {U : Addr} {oU : Obj} {vU : Array Value} (hh : A.handled = some (.ref U)) (hU : s.heap.get? U = some oU) (hU2 : oU.data = .fields vU) (hU3 : vU[2]? = some .none)
    {n : Str} {e : Expr} {es : List Expr} {np cp rp : Pos} {x y : Str} {b : Array UInt8} {i j : Int} (hn : X.scope.names.lookup n = some .globalImplicit) (hm : X.G.mg n = none) (hv : X.G.mb n = some (.type "UnicodeDecodeError")) (hd : (n == ("__debug__" : Str)) = false)
    (hi : -(2 ^ 63) ≤ i ∧ i < 2 ^ 63) (hj : -(2 ^ 63) ≤ j ∧ j < 2 ^ 63)
    (h : SEs X σ false (e :: es) (fun ds => ds = [.str x, .bytes b, .int i, .int j, .str y])) (he : ∀ env, starEach (e :: es) env = (false, eval e env) :: starEach es env) (hr : ∀ env pos, (backTo pos (starEach (e :: es) env)).any (·.1) = false)
    (hE : ∀ h1 h' tk a, Ext X.G.n s.heap h1 → Upon "UnicodeDecodeError" h1 h' a → E (.ref a) { s with heap := h', toks := tk }) :
    wpAny (model X.G.prog X.G.w) A (exec (.Raise (some (.Call (.Name n np) (e :: es) [] cp)) none rp) X.env) K E s := by
  refine raise_made2 ude_raise ?_
  refine wpAny_Call_NameR (Name_function_global O.hk hn (loadGlobal_builtin (St.gNs O S) hm (St.bNs O S) hv ?_) hd)
  refine PySem.callWith_type (hr _ _) (spliced_args (he _) (wpAny_noRaise (h A s m _ _ R S fun ds vs h1 t1 hds e1 rs => ?_)))
  subst hds
  cases rs with
  | cons r1 rs =>
  cases rs with
  | cons r2 rs =>
  cases rs with
  | cons r3 rs =>
  cases rs with
  | cons r4 rs =>
  cases rs with
  | cons r5 rs =>
  cases rs
  obtain ⟨t1, rfl⟩ := r1.str_inv
  obtain ⟨t2, rfl⟩ := r2.bytes_inv
  obtain ⟨t3, rfl⟩ := r3.int_inv
  obtain ⟨t4, rfl⟩ := r4.int_inv
  obtain ⟨t5, rfl⟩ := r5.str_inv
  refine ude_call hi hj fun h' a mm hnew hk hu => ?_
  obtain ⟨vs', a0, tail, g1, g2, g3⟩ := hu.there
  have q0 : vs'[0]? = some a0 := by rw [← Array.getElem?_toList, g2]; rfl
  have q1 : vs'[1]? = some .none := by rw [← Array.getElem?_toList, g2]; rfl
  have q2 : vs'[2]? = some .none := by rw [← Array.getElem?_toList, g2]; rfl
  refine ⟨h1, .ref U, a, rfl, ⟨hk, hnew, _, vs', a0, g1, rfl, rfl, q0, q1, q2⟩, .inr ⟨U, hh, .one (e1.nd _ _ hU (.fields hU2)) hU2 hU3, rfl⟩, fun h'' hx => ?_⟩
  exact hE h1 h'' _ a e1 ⟨U, oU, vU, hx, e1.nd _ _ hU (.fields hU2), hU2, hU3⟩
end
end Mine
end
section
set_option maxRecDepth 100000
open PySem PySem.W PyProof.Rows PySem.Calls
namespace Mine
variable {N : Nat}

section
variable {X : Cx} {σ : Mine.Loc} {m : Str → Option Value} {h : Heap}
theorem fld_away (S : X.St σ h m) {b : Addr} {o : Obj} {vs : Array Value} (e : h.get? b = some o) (hd : o.data = .fields vs) : b ≠ X.L ∧ NotOwn m σ b ∧ ND o := by
  refine ⟨fun q => ?_, fun x ds hx q => ?_, .fields hd⟩
  · subst q
    obtain ⟨o', es, ep, h1, h2, _⟩ := S.F.ns
    rw [e] at h1; cases h1
    rw [hd] at h2; cases h2
  · obtain ⟨_, us, n, h2, _⟩ := S.owned_at hx q
    rw [e] at h2; cases h2
    cases hd
theorem Chain.step {U : Addr} {σ' : Mine.Loc} {m' : Str → Option Value} {h' : Heap} (S : X.St σ h m) (st : Step X.L σ h m σ' h' m') (c : Chain h U) : Chain h' U := by
  have go : ∀ {b : Addr} {o : Obj} {vs : Array Value}, h.get? b = some o → o.data = .fields vs → h'.get? b = some o := fun e hd =>
    let ⟨q1, q2, q3⟩ := fld_away S e hd
    st.pres _ _ e q3 q1 q2
  cases c with
  | one a b d => exact .one (go a b) b d
  | two a b d e f g i => exact .two (go a b) b d e (go f g) g i
end

/-- within a handler -/
def SSH (X : Cx) (U : Addr) (σ : Mine.Loc) (st : List Stmt) (P : Fl → Mine.Loc → Prop) : Prop :=
  ∀ (A : Around) (s : Shared) (m : Str → Option Value) (K : Flow → Shared → Prop), Room X A → X.St σ s.heap m → A.handled = some (.ref U) → Chain s.heap U →
    (∀ fl fl' σ' m' h' tk, P fl' σ' → FlRep h' X.ok fl fl' → X.St σ' h' m' → Step X.L σ s.heap m σ' h' m' → K fl { s with heap := h', toks := tk }) →
    wpAny (model X.G.prog X.G.w) A (execs st X.env) K NoE s
def S1H (X : Cx) (U : Addr) (σ : Mine.Loc) (st : Stmt) (P : Fl → Mine.Loc → Prop) : Prop :=
  ∀ (A : Around) (s : Shared) (m : Str → Option Value) (K : Flow → Shared → Prop), Room X A → X.St σ s.heap m → A.handled = some (.ref U) → Chain s.heap U →
    (∀ fl fl' σ' m' h' tk, P fl' σ' → FlRep h' X.ok fl fl' → X.St σ' h' m' → Step X.L σ s.heap m σ' h' m' → K fl { s with heap := h', toks := tk }) →
    wpAny (model X.G.prog X.G.w) A (exec st X.env) K NoE s
def SEH (X : Cx) (U : Addr) (σ : Mine.Loc) (sf : Bool) (e : Expr) (P : D → Prop) : Prop :=
  ∀ (A : Around) (s : Shared) (m : Str → Option Value) (K : Value → Shared → Prop), Room X A → X.St σ s.heap m → A.handled = some (.ref U) → Chain s.heap U →
    (∀ d v h' tk, P d → Ext X.G.n s.heap h' → Rep h' (okE X m σ sf) v d → K v { s with heap := h', toks := tk }) →
    wpAny (model X.G.prog X.G.w) A (eval e X.env) K NoE s
section
variable {X : Cx} {U : Addr} {σ : Mine.Loc} {P : Fl → Mine.Loc → Prop}
theorem SSH.ofSS {st : List Stmt} (h : SS X σ st P) : SSH X U σ st P := fun A s m K R S _ _ hK => h A s m K R S hK
theorem SSH.cons {st : Stmt} {rest : List Stmt} (h : S1H X U σ st (fun fl σ' => match fl with | .next => SSH X U σ' rest P | f => P f σ')) : SSH X U σ (st :: rest) P := by
  intro A s m K R S hh hC hK
  refine wpAny_execs_cons (h A s m _ R S hh hC ?_)
  intro fl fl' σ' m' h' tk hP hf S' hs
  cases hf with
  | next => exact hP A _ m' K R S' hh (hC.step S hs) fun fl fl' σ'' m'' h'' tk' hP' hf' S'' hs' => hK fl fl' σ'' m'' h'' tk' hP' hf' S'' (hs.trans hs')
  | brk => exact hK _ _ _ _ _ _ hP .brk S' hs
  | cont => exact hK _ _ _ _ _ _ hP .cont S' hs
  | ret r => exact hK _ _ _ _ _ _ hP (.ret r) S' hs

/-- a call within a handler -/
theorem SEH.call {sf : Bool} {P : D → Prop} (O : X.Ok) {k : Nat} {f : Str} {e : Expr} {rest : List Expr} {np pos : Pos} (h : SEs X σ sf (e :: rest) (fun ds => SpecH X.G k f ds P)) (hf : IsFn X.G f) (hk : k ≤ X.k)
    (hx : X.scope.names.lookup f = some .globalImplicit) (he : ∀ env, starEach (e :: rest) env = (false, eval e env) :: starEach rest env := by intro _; rfl) (hd : (f == ("__debug__" : Str)) = false := by decide) :
    SEH X U σ sf (.Call (.Name f np) (e :: rest) [] pos) P := by
  intro A s m K R S hh hC hK
  obtain ⟨fa, o, fd, hfa, hto, hdat⟩ := hf
  refine wpAny_Call_NameR (Name_function_global O.hk hx (loadGlobal_global (St.gNs O S) hfa ?_) hd)
  refine callWith_function (o := o) (fd := fd) (spliced_args (he _) (h A s m pos _ R S fun ds vs h1 t1 hs e1 rs => ?_))
  refine ⟨⟨(((St.topExt O S).trans e1).nd _ _ hto fun _ _ q => by rw [hdat] at q; cases q), hdat⟩, ?_⟩
  have S1 := S.ext e1
  refine hs fa hfa A _ vs (okE X m σ sf) K X.frames U R.fr (St.frames O S1) (S1.topExt O) (S1.topSize O) ?_ ?_ hh (hC.ext e1) (fun _ H => okE_fresh O S1 H) rs fun d v h' tk hp e2 r => hK d v h' tk hp (e1.trans e2) r
  · have := R.d; omega
  · have := R.u; omega
/-- a call that raises -/
theorem call_raises {A : Around} {s : Shared} {m : Str → Option Value} {K : Value → Shared → Prop} {E : Value → Shared → Prop} {sf : Bool} {T : String} (O : X.Ok) (R : Room X A) (S : X.St σ s.heap m) (hh : A.handled = none) {k : Nat} {f : Str} {e : Expr} {rest : List Expr} {np pos : Pos} (h : SEs X σ sf (e :: rest) (fun ds => RSpec X.G k f ds T)) (hf : IsFn X.G f) (hk : k ≤ X.k)
    (hx : X.scope.names.lookup f = some .globalImplicit) (he : ∀ env, starEach (e :: rest) env = (false, eval e env) :: starEach rest env) (hd : (f == ("__debug__" : Str)) = false)
    (hE : ∀ h1 h' tk a, Ext X.G.n s.heap h1 → UFly X.G.n T h1 h' a → E (.ref a) { s with heap := h', toks := tk }) :
    wpAny (model X.G.prog X.G.w) A (eval (.Call (.Name f np) (e :: rest) [] pos) X.env) K E s := by
  obtain ⟨fa, o, fd, hfa, hto, hdat⟩ := hf
  refine wpAny_Call_NameR (Name_function_global O.hk hx (loadGlobal_global (St.gNs O S) hfa ?_) hd)
  refine callWith_function (o := o) (fd := fd) (spliced_args (he _) (wpAny_noRaise (h A s m pos _ R S fun ds vs h1 t1 hs e1 rs => ?_)))
  refine ⟨⟨(((St.topExt O S).trans e1).nd _ _ hto fun _ _ q => by rw [hdat] at q; cases q), hdat⟩, ?_⟩
  have S1 := S.ext e1
  refine hs fa hfa A _ vs (okE X m σ sf) K E X.frames R.fr (St.frames O S1) (S1.topExt O) (S1.topSize O) ?_ ?_ hh (fun _ H => okE_fresh O S1 H) rs fun h2 h' tk a e2 f => hE h2 h' tk a (e1.trans e2) f
  · have := R.d; omega
  · have := R.u; omega

/-- append, whatever its item's end -/
theorem append_any {A : Around} {s : Shared} {m : Str → Option Value} {E : Value → Shared → Prop} (O : X.Ok) (S : X.St σ s.heap m) {x : Str} {e : Expr} {np ap cp pos : Pos} {Q : D → Prop} {ds : List D} (hx : σ.lookup x = some (.ow ds)) (hz : ds.length ≤ 1000000)
    (hl : X.scope.names.lookup x = some .local) (hline : (ap.endLine == cp.line) = true) (htr : ∀ env, backTo cp (starEach [e] env) = [(false, eval e env)]) (hd : (x == ("__debug__" : Str)) = false) {K : Flow → Shared → Prop}
    (h : ∀ K', (∀ d v h' tk, Q d → Ext X.G.n s.heap h' → Rep h' (okE X m σ true) v d → K' v { s with heap := h', toks := tk }) → wpAny (model X.G.prog X.G.w) A (eval e X.env) K' E s)
    (hK : ∀ d h' tk, Q d → X.St (upd σ x (.ow (ds ++ [d]))) h' m → Step X.L σ s.heap m (upd σ x (.ow (ds ++ [d]))) h' m → K .next { s with heap := h', toks := tk }) :
    wpAny (model X.G.prog X.G.w) A (exec (.Expr (.Call (.Attribute (.Name x np) (Str.ofString "append") ap) [e] [] cp) pos) X.env) K E s := by
  obtain ⟨a, vs, n, h1, h0, h2, h3⟩ := S.sl x _ hx
  have hi : interactive X.env = false := by
    unfold interactive
    rw [O.hk]; rfl
  refine wpAny_Expr_any ?_ hi rfl
  refine wpAny_Call_append rfl (by rw [htr]; rfl) hline (htr _) ?_
  refine wpAny_Name (wpAny_loadName_local O.hk hl S.F.ns h1 ?_) hd
  refine ⟨a, vs.toArray, rfl, ⟨_, n, h2, rfl, rfl, rfl⟩, ?_⟩
  refine h _ fun d v h4 t4 hp e4 r => ?_
  have hl4 : h4.get? a = some (listOf vs.toArray n) := e4.list h2
  have hlen : vs.toArray.size ≤ sizeLine := by rw [List.size_toArray, h3.length]; exact Nat.le_trans hz (by decide)
  refine call_meets PySem.F.slot_list_append ⟨_, hl4, rfl⟩ PySem.F.entry_list_append (PySem.F.args_list_append_2 _ _) (PySem.list_append a vs.toArray n v hlen) ⟨hl4, ?_⟩
  have S4 := S.ext e4
  obtain ⟨n', hl'⟩ : ∃ n', (h4.update a (Obj.mapSeq fun x => x.push v)).get? a = some (listOf (vs ++ [v]).toArray n') := by
    have := PySem.IsL.update (n := n) hl4 (fun x => x.push v)
    exact ⟨_, by rw [List.push_toArray] at this; exact this⟩
  have hs : Heap.SameBut a h4 (h4.update a (Obj.mapSeq fun x => x.push v)) := Heap.SameBut.update ..
  obtain ⟨S5, st5⟩ := S4.turn hx h1 hl' hs (((h3.ext e4).append (.cons (r.weak fun b q => ⟨q.1, q.2 rfl⟩) .nil)))
  exact hK d _ _ hp S5 ((Step.ofExt e4).trans st5)
theorem S1H.append (O : X.Ok) {x : Str} {e : Expr} {np ap cp pos : Pos} {ds : List D} (hx : σ.lookup x = some (.ow ds)) (hz : ds.length ≤ 1000000)
    (h : SEH X U σ true e (fun d => P .next (upd σ x (.ow (ds ++ [d]))))) (hl : X.scope.names.lookup x = some .local)
    (hline : (ap.endLine == cp.line) = true) (htr : ∀ env, backTo cp (starEach [e] env) = [(false, eval e env)] := by intro _; rfl) (hd : (x == ("__debug__" : Str)) = false := by decide) :
    S1H X U σ (.Expr (.Call (.Attribute (.Name x np) (Str.ofString "append") ap) [e] [] cp) pos) P := fun A s m K R S hh hC hK =>
  append_any O S hx hz hl hline htr hd (fun K' hK' => h A s m K' R S hh hC hK') fun d h' tk hq S' st => hK _ _ _ m h' tk hq .next S' st

/-- a loop over a tuple, within a handler -/
theorem S1H.for (O : X.Ok) {x : Str} {xp : Pos} {iter : Expr} {body : List Stmt} {pos : Pos} (hl : X.scope.names.lookup x = some .local)
    (h : SE X σ true iter (fun dd => ∃ items, dd = .tup items ∧ ∃ I : Nat → Mine.Loc → Prop, (∃ σ', Sub σ' σ ∧ I 0 σ') ∧
      (∀ i d σ', items[i]? = some d → I i σ' → SSH X U (upd σ' x (.fr d)) body (fun fl σ₃ => match fl with
        | .next | .cont => ∃ σ₄, Sub σ₄ σ₃ ∧ I (i + 1) σ₄
        | .brk => P .next σ₃
        | .ret d => P (.ret d) σ₃)) ∧ ∀ σ', I items.length σ' → P .next σ'))
    (hs : ∀ env x, foldedSetIterable iter env x = pure x := by intro _ _; rfl) : S1H X U σ (.For (.Name x xp) iter body [] pos) P := by
  intro A s m K R S hh hC hK
  refine wpAny_For (h A s m _ R S fun dd v h1 t1 hd e1 r => ?_) (hs _)
  obtain ⟨items, rfl, I, h0, turn, done⟩ := hd
  have S1 : X.St σ h1 m := S.ext e1
  have hC1 : Chain h1 U := hC.ext e1
  have r' : Rep h1 (fun a => X.ok a ∧ NotOwn m σ a) v (.tup items) := r.weak fun b q => ⟨q.1, q.2 rfl⟩
  obtain ⟨l, vs, rfl, hll, rs⟩ := r'.tup_inv
  have hlt := isTuple_lt hll
  refine wpAny_pyIter_tuple hll ?_
  have hne : l ≠ h1.objs.size := Nat.ne_of_lt hlt
  obtain ⟨σ₀, hsub, hI⟩ := h0
  have hLI : X.L ≠ h1.objs.size := Nat.ne_of_lt S1.F.ns.lt
  have hbase : ∀ b o, X.h₀.get? b = some o → b ≠ h1.objs.size := fun b o e q => by subst q; exact absurd (Heap.lt_size e) (Nat.not_lt.mpr S1.base_lt)
  have chg : ∀ (σ' : Mine.Loc) (m' : Str → Option Value) (h h' : Heap) (i : Nat), X.St σ' h m' → h.IsTupleIter h1.objs.size l i → (∀ b o, b ≠ h1.objs.size → h.get? b = some o → h'.get? b = some o) → X.St σ' h' m' := by
    intro σ' m' h h' i S' hs' hk
    obtain ⟨o, ho, hc, _⟩ := hs'
    have nd : ∀ ok : Addr → Prop, ¬ DataObj ok h1.objs.size o := by
      intro ok hd
      rcases hd with ⟨h1, _⟩ | ⟨h1, _⟩ | ⟨h1, _⟩ <;> rw [hc] at h1 <;> injection h1 with h1 <;> exact absurd h1 (by decide)
    have mv : ∀ {ok : Addr → Prop} {v : Value} {d : D}, Rep h ok v d → Rep h' ok v d := fun r =>
      r.move (fun b o' e hd => hk b o' (fun q => by subst q; rw [ho] at e; cases e; exact nd _ hd) e) (fun _ x => x)
    have mvs : ∀ {ok : Addr → Prop} {v : List Value} {d : List D}, Reps h ok v d → Reps h' ok v d := fun r =>
      r.move (fun b o' e hd => hk b o' (fun q => by subst q; rw [ho] at e; cases e; exact nd _ hd) e) (fun _ x => x)
    refine ⟨⟨S'.F.ns.at' fun o e => hk _ o hLI e, ⟨fun b o e n => hk b o (hbase b o e) (S'.F.keep.nd b o e n), fun b o e n => let ⟨sl, q⟩ := S'.F.keep.dc b o e n; ⟨sl, hk b _ (hbase b o e) q⟩, fun b o l e => hk b o (hbase b o e) (S'.F.keep.lo b o l e)⟩, S'.F.above⟩, fun x sl hx => ?_, S'.ap⟩
    have q := S'.sl x sl hx
    cases sl with
    | fr d => obtain ⟨v, h1, h2⟩ := q; exact ⟨v, h1, mv h2⟩
    | ow ds =>
      obtain ⟨a, vs, k, h1, h0, h2, h3⟩ := q
      refine ⟨a, vs, k, h1, h0, hk a _ (fun q => ?_) h2, mvs h3⟩
      subst q
      rw [ho] at h2; cases h2
      injection hc with hc; exact absurd hc (by decide)
  have stOf : ∀ {σ' : Mine.Loc} {m' : Str → Option Value} {h h' : Heap}, Step X.L σ h1 m σ' h m' → (∀ b o, b ≠ h1.objs.size → h.get? b = some o → h'.get? b = some o) → Step X.L σ h1 m σ' h' m' := fun st hk =>
    ⟨fun b o e d n q => hk b o (Nat.ne_of_lt (Heap.lt_size e)) (st.pres b o e d n q), st.own⟩
  refine codeAny_forLoop_any (fun k s' => ∃ i σ' m' h' tk, s' = { s with heap := h', toks := tk } ∧ I i σ' ∧ X.St σ' h' m' ∧ Step X.L σ h1 m σ' h' m' ∧ (h'.IsTupleIter h1.objs.size l i ∧ h'.IsTuple l vs.toArray) ∧ i ≤ vs.length ∧ k = vs.length - i) ?_ vs.length
    ⟨0, σ₀, m, _, t1, rfl, hI, (S1.ext (Ext.push _ _)).sub hsub, (Step.ofExt (Ext.push (N := X.G.n) _ _)).sub hsub, ⟨⟨_, Heap.get?_push_size _ rfl, rfl, rfl⟩, hll.push _⟩, Nat.zero_le _, by omega⟩
  rintro k s' ⟨i, σ', m', h', tk, rfl, hI, S', st', ⟨hit, htp⟩, hi, rfl⟩
  by_cases hlt' : i < vs.length
  · have hlt2 : i < items.length := by rw [← rs.length]; exact hlt'
    refine wpAny_pyNext_tuple_item (x := vs[i]) hit htp (by simp [hlt']) fun h2 hit2 hs2 => ?_
    have hk2 : ∀ b o, b ≠ h1.objs.size → h'.get? b = some o → h2.get? b = some o := fun b o n e => (hs2.2 b n).trans e
    have S2 := chg σ' m' h' h2 i S' hit hk2
    have st2 := stOf st' hk2
    have htp2 : h2.IsTuple l vs.toArray := htp.extBut hs2.extBut hne
    obtain ⟨v', hv2, rv⟩ := rs.get (List.getElem?_eq_getElem hlt2)
    rw [List.getElem?_eq_getElem hlt'] at hv2; cases hv2
    refine wpAny_pure ?_
    refine wpAny_assign_Name (storeFr (s := { s with heap := h2, toks := tk }) O S2 (Rep.step S1 st2 rv) hl fun h3 tk3 S3 _ st3 => ?_)
    have st13 := st2.trans st3
    refine wpAny_mono (turn i _ σ' (List.getElem?_eq_getElem hlt2) hI A { s with heap := h3, toks := tk3 } _ _ R S3 hh (hC1.step S1 st13) fun fl fl' σ₃ m₃ h4 tk4 hp hf S4 st4 => ?_) (fun _ _ x => x) (fun _ _ x => x.elim)
    have stA := st13.trans st4
    have keep4 : ∀ b o, h2.get? b = some o → ND o → b ≠ X.L → NotOwn m' σ' b → h4.get? b = some o := fun b o e nd n q => (st3.trans st4).pres b o e nd n q
    have hit4 : h4.IsTupleIter h1.objs.size l (i + 1) := by
      obtain ⟨o, ho, hc, hd⟩ := hit2
      exact ⟨o, keep4 _ o ho (.fields hd) (Ne.symm hLI) (fld_away S2 ho hd).2.1, hc, hd⟩
    have htp4 : h4.IsTuple l vs.toArray := by
      obtain ⟨o, ho, hc, n, hd⟩ := htp2
      refine ⟨o, keep4 _ o ho (.seq hd) (fun q => by subst q; exact Ns.notData (ok := fun _ => True) S2.F.ns ho (.inr (.inl ⟨hc, _, n, hd⟩))) (S2.notOwn_of fun o' e' q => ?_), hc, n, hd⟩
      rw [ho] at e'; cases e'
      rw [hc] at q; injection q with q; exact absurd q (by decide)
    have next : (∃ σ₄, Sub σ₄ σ₃ ∧ I (i + 1) σ₄) → ∃ m_1, m_1 < vs.length - i ∧ ∃ i_1 σ' m' h' tk, ({ s with heap := h4, toks := tk4 } : Shared) = { s with heap := h', toks := tk } ∧ I i_1 σ' ∧ X.St σ' h' m' ∧ Step X.L σ h1 m σ' h' m' ∧ (h'.IsTupleIter h1.objs.size l i_1 ∧ h'.IsTuple l vs.toArray) ∧ i_1 ≤ vs.length ∧ m_1 = vs.length - i_1 := by
      rintro ⟨σ₄, hsub4, hI4⟩
      exact ⟨vs.length - (i + 1), by omega, i + 1, σ₄, m₃, h4, tk4, rfl, hI4, S4.sub hsub4, stA.sub hsub4, ⟨hit4, htp4⟩, hlt', rfl⟩
    have hKK : ∀ fl fl' σ' m' h' tk, P fl' σ' → FlRep h' X.ok fl fl' → X.St σ' h' m' → Step X.L σ h1 m σ' h' m' → K fl { s with heap := h', toks := tk } := fun fl fl' σ' m' h' tk hp hf S' st =>
      hK fl fl' σ' m' h' tk hp hf S' ((Step.ofExt e1).trans st)
    cases hf with
    | next => exact next hp
    | cont => exact next hp
    | brk => exact hKK _ _ _ _ _ _ hp .next S4 stA
    | ret r => exact hKK _ _ _ _ _ _ hp (.ret r) S4 stA
  · have hin : i = vs.length := by omega
    subst hin
    refine tuple_end (.inr ⟨U, hh, hC1.step S1 st', rfl⟩) hit htp (by simp) fun h2 hk2' => ?_
    have hk2 : ∀ b o, b ≠ h1.objs.size → h'.get? b = some o → h2.get? b = some o := fun b o n e => hk2' b o n e
    refine wpAny_execs_nil ?_
    exact hK _ _ _ _ h2 tk (done σ' (rs.length ▸ hI)) .next (chg σ' m' h' h2 _ S' hit hk2) ((Step.ofExt e1).trans (stOf st' hk2))
end
end Mine
end
section
set_option maxRecDepth 100000
open PySem PySem.W PyProof.Rows PySem.Calls
namespace Mine

theorem intBits_nat (n : Nat) : Builtin.Int.intBits (n : Int) = bl n := by
  unfold Builtin.Int.intBits bl
  by_cases h : n = 0
  · subst h; rfl
  · rw [if_neg (by simp; omega), if_neg h]; rfl
theorem carry : ∀ p, p < 2 → ∀ q, q < 2 → p + q = (p ^^^ q) + 2 * (p &&& q) := by decide
theorem halves (n : Nat) : n = 2 * (n / 2) + n % 2 := (Nat.div_add_mod n 2).symm
theorem add_xor_and (a b : Nat) : a + b = (a ^^^ b) + 2 * (a &&& b) := by
  induction a using Nat.strongRecOn generalizing b with
  | _ a ih =>
    by_cases h : a = 0
    · subst h; simp
    · have e := ih (a / 2) (Nat.div_lt_self (Nat.pos_of_ne_zero h) (by decide)) (b / 2)
      have h1 : (a ^^^ b) / 2 = a / 2 ^^^ b / 2 := Nat.xor_div_two
      have h2 : (a &&& b) / 2 = a / 2 &&& b / 2 := Nat.and_div_two
      have h3 : (a ^^^ b) % 2 = a % 2 ^^^ b % 2 := Nat.xor_mod_two_pow (n := 1)
      have h4 : (a &&& b) % 2 = a % 2 &&& b % 2 := Nat.and_mod_two_pow (n := 1)
      have c := carry _ (Nat.mod_lt a (by decide : 2 > 0)) _ (Nat.mod_lt b (by decide : 2 > 0))
      rw [halves (a ^^^ b), halves (a &&& b), h1, h2, h3, h4]
      have ha := halves a
      have hb := halves b
      clear ih h1 h2 h3 h4
      generalize a / 2 = a2 at *
      generalize b / 2 = b2 at *
      generalize a % 2 = a1 at *
      generalize b % 2 = b1 at *
      generalize a2 ^^^ b2 = x2 at *
      generalize a2 &&& b2 = y2 at *
      generalize a1 ^^^ b1 = x1 at *
      generalize a1 &&& b1 = y1 at *
      subst ha hb
      have e1 : 2 * a2 + a1 + (2 * b2 + b1) = 2 * (a2 + b2) + (a1 + b1) := by rw [Nat.mul_add, Nat.add_add_add_comm]
      rw [e1, e, c, Nat.mul_add, Nat.mul_add, Nat.add_add_add_comm]
theorem bitAnd_nat (a b : Nat) : Builtin.bitAnd (a : Int) (b : Int) = ((a &&& b : Nat) : Int) := by
  rw [bitAnd_pp (Int.natCast_nonneg _) (Int.natCast_nonneg _)]; rfl
theorem bitXor_nat (a b : Nat) : Builtin.bitXor (a : Int) (b : Int) = ((a ^^^ b : Nat) : Int) := by
  unfold Builtin.bitXor
  rw [bitOr_and, bitAnd_nat]
  have := add_xor_and a b
  omega
def isbI (n : Int) : Bool := if n = 0 then false else decide (Builtin.bitAnd n (n - 1) = 0)
theorem isbI_nat (n : Nat) : isbI (n : Int) = sb n := by
  unfold isbI sb
  by_cases h : n = 0
  · subst h; rfl
  · rw [if_neg (by omega), show (n : Int) - 1 = ((n - 1 : Nat) : Int) by omega, bitAnd_nat]
    have : (n != 0) = true := by simpa using h
    rw [this, Bool.true_and]
    by_cases h2 : n &&& (n - 1) = 0
    · rw [h2]; rfl
    · rw [decide_eq_false (by omega)]; symm; simpa using h2
theorem isbI_neg (n : Nat) : isbI (-(n : Int)) = false := by
  unfold isbI
  by_cases h : n = 0
  · subst h; rfl
  · rw [if_neg (by omega)]
    apply decide_eq_false
    rw [bitAnd_nn (by omega) (by omega)]
    unfold Builtin.bitNot
    omega
theorem and_pred {n : Nat} (h : n ≠ 0) (h2 : n &&& (n - 1) = 0) : n = 2 ^ (bl n - 1) := by
  obtain ⟨k, rfl⟩ := (Nat.and_sub_one_eq_zero_iff_isPowerOfTwo h).mp h2
  rw [bl_two, Nat.add_sub_cancel]
theorem sb_pow {n : Nat} (h : sb n = true) : n ≠ 0 ∧ n = 2 ^ (bl n - 1) := by
  unfold sb at h
  rw [Bool.and_eq_true, bne_iff_ne, beq_iff_eq] at h
  exact ⟨h.1, and_pred h.1 h.2⟩
theorem sb_not {n : Nat} (h : sb n = false) (h0 : n ≠ 0) : n ^^^ 2 ^ (bl n - 1) ≠ 0 := by
  intro e
  have e1 := xor_zero_eq e
  unfold sb at h
  have : (n != 0) = true := by simpa using h0
  rw [this, Bool.true_and, beq_eq_false_iff_ne] at h
  apply h
  rw [e1]
  exact Nat.and_two_pow_sub_one_eq_mod (2 ^ (bl n - 1)) (bl n - 1) ▸ Nat.mod_self _
theorem fdiv_nat (a k : Nat) : (a : Int).fdiv ((2 ^ k : Nat) : Int) = ((a / 2 ^ k : Nat) : Int) := by
  rw [Int.fdiv_eq_ediv_of_nonneg _ (Int.natCast_nonneg _)]; rfl
end Mine
end
section
set_option maxRecDepth 100000
open PySem PySem.W PyProof.Rows PySem.Calls
namespace Mine

def tau (bias : Int) (j : Nat) : Int := if 36 * ((j : Int) + 1) - bias < 1 then 1 else if 26 < 36 * ((j : Int) + 1) - bias then 26 else 36 * ((j : Int) + 1) - bias
theorem tau_ge (bias : Int) (j : Nat) : 1 ≤ tau bias j := by unfold tau; repeat' split <;> omega
theorem tau_le (bias : Int) (j : Nat) : tau bias j ≤ 26 := by unfold tau; repeat' split <;> omega
theorem tau_mm (bias : Int) (j : Nat) (r : Int) (hr : r = 36 * ((j : Int) + 1) - bias) : (if (if r < 26 then r else 26) > 1 then (if r < 26 then r else 26) else 1) = tau bias j := by
  subst hr
  unfold tau
  repeat' split <;> omega
def oct (d : Int) : Int := if d < 26 then 65 + d else 22 + d

theorem oct_range {d : Int} (h0 : 0 ≤ d) (h1 : d < 36) : 0 ≤ oct d ∧ oct d < 256 := by unfold oct; split <;> omega

/-- the octets of a numeral, from a place on -/
inductive Num (bias : Int) : Nat → Int → List Int → Prop
  | last {j : Nat} {d : Int} : 0 ≤ d → d < tau bias j → Num bias j d [oct d]
  | more {j : Nat} {d n : Int} {ds : List Int} : tau bias j ≤ d → d < 36 → Num bias (j + 1) n ds → Num bias j (d + (36 - tau bias j) * n) (oct d :: ds)
theorem Num.range {bias : Int} {j : Nat} {n : Int} {ds : List Int} (h : Num bias j n ds) : ∀ c ∈ ds, 0 ≤ c ∧ c < 256 := by
  induction h with
  | last h0 h1 =>
    intro c hc
    rw [List.mem_singleton.mp hc]
    exact oct_range h0 (Int.lt_of_lt_of_le h1 (Int.le_trans (tau_le _ _) (by decide)))
  | more h0 h1 _ ih =>
    intro c hc
    rcases List.mem_cons.mp hc with rfl | h
    · exact oct_range (Int.le_trans (Int.le_trans (by decide) (tau_ge _ _)) h0) h1
    · exact ih c h
theorem Num.open {bias : Int} {j : Nat} {n : Int} {ds : List Int} (h : Num bias j n ds) : ∃ d tl, ds = oct d :: tl ∧ 0 ≤ d ∧ d < 36 ∧ (d < tau bias j → tl = [] ∧ n = d) ∧ (¬ d < tau bias j → ∃ n', Num bias (j + 1) n' tl ∧ n = d + (36 - tau bias j) * n') := by
  cases h with
  | last h0 h1 => exact ⟨_, _, rfl, h0, Int.lt_of_lt_of_le h1 (Int.le_trans (tau_le _ _) (by decide)), fun _ => ⟨rfl, rfl⟩, fun e => absurd h1 e⟩
  | more h0 h1 h2 => exact ⟨_, _, rfl, Int.le_trans (Int.le_trans (by decide) (tau_ge _ _)) h0, h1, fun e => absurd e (Int.not_lt.mpr h0), fun _ => ⟨_, h2, rfl⟩⟩
theorem Num.ne {bias : Int} {j : Nat} {n : Int} {ds : List Int} (h : Num bias j n ds) : ds ≠ [] := by
  cases h <;> intro e <;> cases e

theorem byteArr_get {ns : List Int} (hr : ∀ n ∈ ns, 0 ≤ n ∧ n < 256) {i : Nat} {n : Int} (h : ns[i]? = some n) : (((byteArr ns).toList.getD i 0).toNat : Int) = n := by
  unfold byteArr
  rw [List.getD_eq_getElem?_getD]
  simp only [List.getElem?_map, h, Option.map_some, Option.getD_some]
  have h2 := hr n (List.mem_of_getElem? h)
  have e : n.toNat.toUInt8.toNat = n.toNat % 256 := by simp
  rw [e]
  omega
theorem get_drop {ns ds rest : List Int} {p : Nat} (h : ns.drop p = ds ++ rest) {i : Nat} {c : Int} (hc : ds[i]? = some c) : ns[p + i]? = some c := by
  have hi : i < ds.length := by
    rcases Nat.lt_or_ge i ds.length with h | h
    · exact h
    · rw [List.getElem?_eq_none h] at hc; cases hc
  have : (ns.drop p)[i]? = some c := by rw [h, List.getElem?_append_left hi, hc]
  rwa [List.getElem?_drop] at this
theorem drop_more {ns ds rest : List Int} {p : Nat} {c : Int} (h : ns.drop p = (c :: ds) ++ rest) : ns.drop (p + 1) = ds ++ rest := by
  rw [← List.drop_drop, h]; rfl
end Mine
end
section
set_option maxRecDepth 100000
open PySem PySem.W PyProof.Rows PySem.Calls
namespace Mine
variable {N : Nat}

/-- signs that end no numeral -/
inductive Opn (bias : Int) : Nat → List Int → Prop
  | nil (j : Nat) : Opn bias j []
  | cons {j : Nat} {d : Int} {ds : List Int} : 0 ≤ d → d < 36 → ¬ d < tau bias j → Opn bias (j + 1) ds → Opn bias j (oct d :: ds)
theorem Opn.range {bias : Int} {j : Nat} {ds : List Int} (h : Opn bias j ds) : ∀ c ∈ ds, 0 ≤ c ∧ c < 256 := by
  induction h with
  | nil => intro c hc; cases hc
  | cons h0 h1 _ _ ih =>
    intro c hc
    rcases List.mem_cons.mp hc with rfl | h
    · exact oct_range h0 h1
    · exact ih c h

/-- rows of numerals, with where they end -/
def endsI : Nat → List (Int × List Int) → List D
  | _, [] => []
  | p, (q, ds) :: segs => .tup [.int (p + ds.length : Nat), .int q] :: endsI (p + ds.length) segs
def octsI (segs : List (Int × List Int)) : List Int := (segs.map (·.2)).flatten
def SegsI (bias : Int) (segs : List (Int × List Int)) : Prop := ∀ s ∈ segs, Num bias 0 s.1 s.2
theorem octsI_drop {done segs : List (Int × List Int)} {q : Int} {ds tl : List Int} : (octsI (done ++ (q, ds) :: segs) ++ tl).drop (octsI done).length = ds ++ (octsI segs ++ tl) := by
  unfold octsI
  rw [List.map_append, List.flatten_append, List.append_assoc, List.drop_left, List.map_cons, List.flatten_cons, List.append_assoc]
theorem octsI_append {a b : List (Int × List Int)} : octsI (a ++ b) = octsI a ++ octsI b := by
  unfold octsI; rw [List.map_append, List.flatten_append]
theorem octsI_cons {q : Int} {ds : List Int} {a : List (Int × List Int)} : (octsI ((q, ds) :: a)).length = ds.length + (octsI a).length := by
  unfold octsI; rw [List.map_cons, List.flatten_cons, List.length_append]
theorem endsI_append {p : Nat} {a b : List (Int × List Int)} : endsI p (a ++ b) = endsI p a ++ endsI (p + (octsI a).length) b := by
  induction a generalizing p with
  | nil => rfl
  | cons s a ih =>
    obtain ⟨q, ds⟩ := s
    show D.tup _ :: endsI _ (a ++ b) = D.tup _ :: (endsI _ _ ++ _)
    rw [ih]
    have : p + ds.length + (octsI a).length = p + (octsI ((q, ds) :: a)).length := by rw [octsI_cons]; omega
    rw [this]
theorem endsI_length : ∀ (p : Nat) (l : List (Int × List Int)), (endsI p l).length = l.length
  | _, [] => rfl
  | p, (q, ds) :: l => by show (_ :: endsI _ _).length = _; rw [List.length_cons, endsI_length, List.length_cons]
theorem SegsI.range {bias : Int} {segs : List (Int × List Int)} (h : SegsI bias segs) : ∀ c ∈ octsI segs, 0 ≤ c ∧ c < 256 := by
  intro c hc
  unfold octsI at hc
  obtain ⟨l, hl, hcl⟩ := List.mem_flatten.mp hc
  obtain ⟨s, hs, rfl⟩ := List.mem_map.mp hl
  exact (h s hs).range c hcl
theorem okD_endsI {p : Nat} {segs : List (Int × List Int)} : ∀ d ∈ endsI p segs, okD 8 d = true := by
  induction segs generalizing p with
  | nil => intro d hd; cases hd
  | cons s segs ih =>
    obtain ⟨q, ds⟩ := s
    intro d hd
    rcases List.mem_cons.mp hd with rfl | h
    · rfl
    · exact ih d h

theorem SpecH.mono {G : GG} {k : Nat} {name : Str} {ds : List D} {P P' : D → Prop} (h : SpecH G k name ds P) (hp : ∀ d, P d → P' d) : SpecH G k name ds P' :=
  fun f hf A s vs ok K fs U hfs hfe e ez hd hu hh hC ho hr hK => h f hf A s vs ok K fs U hfs hfe e ez hd hu hh hC ho hr fun d v h' tk hp' => hK d v h' tk (hp d hp')
section
variable {X : Cx} {σ : Mine.Loc} {A : Around} {s : Shared} {m : Str → Option Value}
theorem ST.run {e : Expr} {P : Bool → Prop} {K : Bool → Shared → Prop} (h : ST X σ e P) (R : Room X A) (S : X.St σ s.heap m)
    (hK : ∀ b h' tk, P b → Ext X.G.n s.heap h' → K b { s with heap := h', toks := tk }) : wpAny (model X.G.prog X.G.w) A (isTrue e X.env (eval e X.env)) K NoE s := h A s m K R S hK
theorem SS.run {st : List Stmt} {P : Fl → Mine.Loc → Prop} {K : Flow → Shared → Prop} (h : SS X σ st P) (R : Room X A) (S : X.St σ s.heap m)
    (hK : ∀ fl fl' σ' m' h' tk, P fl' σ' → FlRep h' X.ok fl fl' → X.St σ' h' m' → Step X.L σ s.heap m σ' h' m' → K fl { s with heap := h', toks := tk }) : wpAny (model X.G.prog X.G.w) A (execs st X.env) K NoE s := h A s m K R S hK
theorem SSH.run {U : Addr} {st : List Stmt} {P : Fl → Mine.Loc → Prop} {K : Flow → Shared → Prop} (h : SSH X U σ st P) (R : Room X A) (S : X.St σ s.heap m) (hh : A.handled = some (.ref U)) (hC : Chain s.heap U)
    (hK : ∀ fl fl' σ' m' h' tk, P fl' σ' → FlRep h' X.ok fl fl' → X.St σ' h' m' → Step X.L σ s.heap m σ' h' m' → K fl { s with heap := h', toks := tk }) : wpAny (model X.G.prog X.G.w) A (execs st X.env) K NoE s := h A s m K R S hh hC hK
theorem S1G.run {H : Option Value → Prop} {st : Stmt} {P : Fl → Mine.Loc → Prop} {Z : Mine.Loc → Heap → Heap → Addr → Prop} {K : Flow → Shared → Prop} {E : Value → Shared → Prop} (h : S1G X H σ st P Z) (R : Room X A) (S : X.St σ s.heap m) (hh : H A.handled)
    (hO : ∀ A' A'', SameStack A' A → PassesOwnAt (model X.G.prog X.G.w) A' A'' X.env E)
    (hE : ∀ σ' m' h1 h' tk e, Z σ' h1 h' e → X.St σ' h1 m' → Step X.L σ s.heap m σ' h1 m' → E (.ref e) { s with heap := h', toks := tk })
    (hK : ∀ fl fl' σ' m' h' tk, P fl' σ' → FlRep h' X.ok fl fl' → X.St σ' h' m' → Step X.L σ s.heap m σ' h' m' → K fl { s with heap := h', toks := tk }) : wpAny (model X.G.prog X.G.w) A (exec st X.env) K E s := h A s m K E R S hh hO hE hK
end

theorem St.freeze {h₀ h : Heap} {ok : Addr → Prop} {L : Addr} {σ : Mine.Loc} {m : Str → Option Value} (S : Mine.St N h₀ ok L σ h m) {x : Str} {ds : List D} (hx : σ.lookup x = some (.ow ds)) : Mine.St N h₀ ok L (upd σ x (.fr (.lst ds))) h m := by
  have hno : ∀ b, NotOwn m σ b → NotOwn m (upd σ x (.fr (.lst ds))) b := fun b q y es hy => by
    rw [upd_lookup] at hy
    split at hy
    · cases hy
    · exact q y es hy
  refine ⟨S.F, fun y sl hy => ?_, fun y z es fs hy hz e => ?_⟩
  · rw [upd_lookup] at hy
    split at hy
    · rename_i e
      subst e
      cases hy
      obtain ⟨a, vs, n, h1, h0, h2, h3⟩ := S.sl y _ hx
      refine ⟨.ref a, h1, .lst ⟨h0.2, fun z es hz e => ?_⟩ ⟨_, h2, rfl, n, rfl⟩ (h3.weak fun b hb => ⟨hb.1, hno b hb.2⟩)⟩
      rw [upd_lookup] at hz
      split at hz
      · cases hz
      · rename_i hne
        exact hne (S.ap z y es ds hz hx (by rw [e, h1]))
    · have q := S.sl y sl hy
      cases sl with
      | fr d => obtain ⟨v, h1, h2⟩ := q; exact ⟨v, h1, h2.weak fun b hb => ⟨hb.1, hno b hb.2⟩⟩
      | ow es => obtain ⟨a, vs, n, h1, h0, h2, h3⟩ := q; exact ⟨a, vs, n, h1, h0, h2, h3.weak fun b hb => ⟨hb.1, hno b hb.2⟩⟩
  · rw [upd_lookup] at hy hz
    split at hy
    · cases hy
    · split at hz
      · cases hz
      · exact S.ap y z es fs hy hz e
theorem SS.freeze {X : Cx} {σ : Mine.Loc} {st : List Stmt} {P : Fl → Mine.Loc → Prop} {x : Str} {ds : List D} (hx : σ.lookup x = some (.ow ds)) (h : SS X (upd σ x (.fr (.lst ds))) st P) : SS X σ st P := by
  have hno : ∀ (m : Str → Option Value) b, NotOwn m σ b → NotOwn m (upd σ x (.fr (.lst ds))) b := fun m b q y es hy => by
    rw [upd_lookup] at hy
    split at hy
    · cases hy
    · exact q y es hy
  intro A s m K R S hK
  exact h A s m K R (S.freeze hx) fun fl fl' σ1 m' h' tk hp hf S' hs => hK _ _ _ _ _ _ hp hf S' ⟨fun b o e d n q => hs.pres b o e d n (hno m b q), fun b o e d n q => hs.own b o e d n (hno m b q)⟩
end Mine
end
section
set_option maxRecDepth 100000
open PySem PySem.W PyProof.Rows PySem.Calls
namespace Mine

section
variable {X : Cx} {σ : Mine.Loc} {sf : Bool} {P : D → Prop}
theorem Reps.rep {h : Heap} {ok : Addr → Prop} {vs : List Value} {ds : List D} (r : Reps h ok vs ds) : ∀ n : Nat, Reps h ok (List.replicate n vs).flatten (List.replicate n ds).flatten
  | 0 => .nil
  | n + 1 => by rw [List.replicate_succ, List.replicate_succ, List.flatten_cons, List.flatten_cons]; exact r.append (Reps.rep r n)
/-- a list over and over -/
theorem SE.rep (O : X.Ok) {l r : Expr} {pos : Pos} (h : SE X σ sf l (fun a => SE X σ sf r (fun b => match a, b with | .int n, .lst ds => 0 ≤ n ∧ n ≤ 1000 ∧ ds.length ≤ 1000 ∧ P (.lst (List.replicate n.toNat ds).flatten) | _, _ => False))) : SE X σ sf (.BinOp l .Mult r pos) P := by
  intro A s m K R S hK
  refine wpAny_BinOp (h A s m _ R S fun a va h1 t1 ha e1 ra => ?_)
  refine ha A _ m _ R (S.ext e1) fun b vb h2 t2 hb e2 rb => ?_
  dsimp only at hb
  split at hb
  · rename_i n ds
    obtain ⟨u, rfl⟩ := ra.int_inv
    obtain ⟨lst, vs, rfl, hok, hl, rs⟩ := rb.lst_inv
    obtain ⟨h0, h1000, hds, hp⟩ := hb
    obtain ⟨⟨cls, d, data, sl⟩, ho, hcl, k, hd⟩ := id hl
    simp only at hcl hd
    subst hcl hd
    have hlen := rs.length
    have hsz0 : vs.length * n.toNat ≤ 1000 * 1000 := Nat.mul_le_mul (by omega) (by omega)
    have hsz' : vs.toArray.size * n.toNat ≤ 2 ^ 24 := by simpa using Nat.le_trans hsz0 (by decide)
    refine lm_binaryOp_repeat_right (T := "list") (U := "int") (by decide) (fun s' => typeIs_int s' n u) ⟨_, ho, rfl⟩ F.fills_int_mul noFill_list_mul F.slot_int_mul lm_noRepeat_int repeat_list F.slot_int_index.lookup
      (call_meets F.slot_int_mul (typeIs_int _ n u) F.entry_int_mul (F.args_int_mul_2 _ _) (lm_int_mul_list_any n u lst vs.toArray k d sl)
        ⟨ho, rfl, ⟨_, ho, rfl⟩, call_meets F.slot_list_mul ⟨_, ho, rfl⟩ F.entry_list_mul (F.args_list_mul_2 _ _)
          (lm_list_mul_any lst vs.toArray k d sl n u (by simp [Builtin.List.listFitsIndex]; omega) (by omega) (by simp [Builtin.List.listTooLong, sizeLine]; omega))
          ⟨ho, ?_⟩⟩)
    have e : List.foldl (fun x1 x2 => x1 ++ x2) #[] (List.replicate (if vs.toArray.isEmpty = true then 0 else n.toNat) vs.toArray) = (List.replicate n.toNat vs).flatten.toArray := listMul_foldl_if _ _
    rw [e]
    exact hK _ _ _ _ hp ((e1.trans e2).trans (Ext.push _ _)) (.lst (okE_fresh O ((S.ext e1).ext e2) (Nat.le_refl _)) isList_new ((rs.rep _).ext (Ext.push (N := X.G.n) _ _)))
  · exact hb.elim

/-- an own list, turned round -/
theorem SE.revO (O : X.Ok) {x : Str} {np u : Pos} {k : Nat} {p up pos : Pos} {ds : List D} (hx : σ.lookup x = some (.ow ds)) (hz : ds.length ≤ sizeLine) (hp : P (.lst ds.reverse)) (hl : X.scope.names.lookup x = some .local) (hd : (x == ("__debug__" : Str)) = false) :
    SE X σ sf (.Subscript (.Name x np) (.Slice none none (some (.UnaryOp .USub (.Constant (.int 1) k u) up)) p) pos) P := by
  intro A s m K R S hK
  obtain ⟨a, vs, n, g1, g0, g2, g3⟩ := S.sl x _ hx
  refine wpAny_Subscript_Slice_step (T := "list") list_getitem_lookup (wpAny_Name (wpAny_loadName_local O.hk hl S.F.ns g1 ?_) hd) (by intro _ _; rfl)
  have hll : s.heap.IsList a vs.toArray := ⟨_, g2, rfl, n, rfl⟩
  refine wpAny_Slice ?_
  rw [evalPart_none, evalPart_some]
  refine wpAny_pure (wpAny_pure ?_)
  refine wpAny_UnaryOp (wpAny_Constant_int (PyProof.Rows.neg_int ?_))
  refine ⟨(hll.push _).typeIs, wpAny_getItem_list_slice (hll.push _) (Heap.IsSliceOf.new ..) .none .none (.int _ _) (by decide) ?_ (by rw [List.size_toArray, g3.length]; exact hz)⟩
  rw [show (-1 : Int) = -1 from rfl, krv_pick]
  refine hK _ _ _ _ hp ((Ext.push _ _).trans (Ext.push _ _)) (.lst (okE_fresh O (S.ext (Ext.push _ _)) (Nat.le_refl _)) isList_new ?_)
  exact (g3.reverse.ext ((Ext.push (N := X.G.n) _ _).trans (Ext.push _ _))).weak fun _ q => ⟨q.1, fun _ => q.2⟩
end

/-! numerals, from their figures -/
def valI (bias : Int) : Nat → List Int → Int → Int
  | _, [], d => d
  | j, c :: cs, d => c + (36 - tau bias j) * valI bias (j + 1) cs d
/-- figures that end no numeral, from a place on -/
inductive OpF (bias : Int) : Nat → List Int → Prop
  | nil (j : Nat) : OpF bias j []
  | cons {j : Nat} {d : Int} {ds : List Int} : 0 ≤ d → d < 36 → ¬ d < tau bias j → OpF bias (j + 1) ds → OpF bias j (d :: ds)
theorem OpF.opn {bias : Int} {j : Nat} {cs : List Int} (h : OpF bias j cs) : Opn bias j (cs.map oct) := by
  induction h with
  | nil => exact .nil _
  | cons h0 h1 h2 _ ih => exact .cons h0 h1 h2 ih
theorem OpF.snoc {bias : Int} {j : Nat} {cs : List Int} {d : Int} (h : OpF bias j cs) (h0 : 0 ≤ d) (h1 : d < 36) (h2 : ¬ d < tau bias (j + cs.length)) : OpF bias j (cs ++ [d]) := by
  induction h with
  | nil => exact .cons h0 h1 h2 (.nil _)
  | cons a b c _ ih => exact .cons a b c (ih (by rw [List.length_cons] at h2; rw [Nat.add_assoc, Nat.add_comm 1]; exact h2))
theorem OpF.num {bias : Int} {j : Nat} {cs : List Int} {d : Int} (h : OpF bias j cs) (h0 : 0 ≤ d) (h2 : d < tau bias (j + cs.length)) : Num bias j (valI bias j cs d) ((cs ++ [d]).map oct) := by
  induction h with
  | nil => exact .last h0 h2
  | cons a b c _ ih => exact .more (Int.not_lt.mp c) b (ih (by rw [List.length_cons] at h2; rw [Nat.add_assoc, Nat.add_comm 1]; exact h2))
/-- the pairs that the loop keeps -/
def pairs (bias : Int) : Nat → List Int → List D
  | _, [] => []
  | j, c :: cs => .tup [.int c, .int (36 - tau bias j)] :: pairs bias (j + 1) cs
theorem pairs_length {bias : Int} : ∀ (j : Nat) (cs : List Int), (pairs bias j cs).length = cs.length
  | _, [] => rfl
  | j, c :: cs => by rw [pairs, List.length_cons, pairs_length, List.length_cons]
theorem pairs_snoc {bias : Int} : ∀ (j : Nat) (cs : List Int) (d : Int), pairs bias j (cs ++ [d]) = pairs bias j cs ++ [.tup [.int d, .int (36 - tau bias (j + cs.length))]]
  | j, [], d => rfl
  | j, c :: cs, d => by rw [List.cons_append, pairs, pairs_snoc, pairs, List.cons_append, List.length_cons, show j + 1 + cs.length = j + (cs.length + 1) by omega]
theorem pairs_get {bias : Int} : ∀ (j : Nat) (cs : List Int) (i : Nat) (h : i < cs.length), (pairs bias j cs)[i]? = some (.tup [.int cs[i], .int (36 - tau bias (j + i))])
  | j, c :: cs, 0, _ => rfl
  | j, c :: cs, i + 1, h => by rw [pairs, List.getElem?_cons_succ, pairs_get (j + 1) cs i (by simpa using h), show j + 1 + i = j + (i + 1) by omega]; rfl
theorem pairs_rev_get {bias : Int} {cs : List Int} {i : Nat} {d : D} (h : (pairs bias 0 cs).reverse[i]? = some d) : ∃ hi : cs.length - 1 - i < cs.length, i < cs.length ∧ d = .tup [.int cs[cs.length - 1 - i], .int (36 - tau bias (cs.length - 1 - i))] := by
  have hi : i < cs.length := by
    have := (List.getElem?_eq_some_iff.mp h).1
    rwa [List.length_reverse, pairs_length] at this
  rw [List.getElem?_reverse (by rw [pairs_length]; exact hi), pairs_length, pairs_get 0 cs _ (by omega)] at h
  cases h
  exact ⟨by omega, hi, by rw [Nat.zero_add]⟩
theorem valI_drop {bias : Int} {cs : List Int} {d : Int} {i : Nat} (h : i < cs.length) : valI bias i (cs.drop i) d = cs[i] + (36 - tau bias i) * valI bias (i + 1) (cs.drop (i + 1)) d := by
  rw [List.drop_eq_getElem_cons h, valI]

/-! a row, figure by figure -/
structure RowSt (bias : Int) (fs : List Int) (segs : List (Int × List Int)) (cur : List Int) : Prop where
  ok : SegsI bias segs
  op : OpF bias 0 cur
  all : fs.map oct = octsI segs ++ cur.map oct
theorem RowSt.nil {bias : Int} : RowSt bias [] [] [] := ⟨fun _ h => (nomatch h), .nil _, rfl⟩
theorem RowSt.last {bias : Int} {fs : List Int} {segs : List (Int × List Int)} {cur : List Int} {d : Int} (r : RowSt bias fs segs cur) (h0 : 0 ≤ d) (h : d < tau bias cur.length) : RowSt bias (fs ++ [d]) (segs ++ [(valI bias 0 cur d, (cur ++ [d]).map oct)]) [] := by
  refine ⟨fun s hs => ?_, .nil _, ?_⟩
  · rcases List.mem_append.mp hs with h' | h'
    · exact r.ok s h'
    · rw [List.mem_singleton.mp h']; exact r.op.num h0 (by rwa [Nat.zero_add])
  · rw [List.map_append, r.all, octsI_append]
    simp [octsI]
theorem RowSt.more {bias : Int} {fs : List Int} {segs : List (Int × List Int)} {cur : List Int} {d : Int} (r : RowSt bias fs segs cur) (h0 : 0 ≤ d) (h1 : d < 36) (h : ¬ d < tau bias cur.length) : RowSt bias (fs ++ [d]) segs (cur ++ [d]) :=
  ⟨r.ok, r.op.snoc h0 h1 (by rwa [Nat.zero_add]), by rw [List.map_append, r.all, List.map_append, List.append_assoc]⟩
theorem RowSt.len {bias : Int} {fs : List Int} {segs : List (Int × List Int)} {cur : List Int} (r : RowSt bias fs segs cur) : fs.length = (octsI segs).length + cur.length := by
  have := congrArg List.length r.all
  rwa [List.length_map, List.length_append, List.length_map] at this
theorem SegsI.count {bias : Int} : ∀ {segs : List (Int × List Int)}, SegsI bias segs → segs.length ≤ (octsI segs).length
  | [], _ => Nat.zero_le _
  | (q, ds) :: segs, h => by
    have h1 := SegsI.count (segs := segs) fun s hs => h s (List.mem_cons_of_mem _ hs)
    have h2 : 0 < ds.length := List.length_pos_iff.mpr (h (q, ds) (List.mem_cons_self ..)).ne
    rw [List.length_cons, octsI_cons]; omega
/-- what is heard of the ends -/
def hear (acc : Nat) : Nat → List (Int × List Int) → Nat
  | _, [] => acc
  | p, (_, ds) :: segs => hear (acc ||| 2 ^ (p + ds.length - 1)) (p + ds.length) segs
theorem hear_append {acc p : Nat} {a b : List (Int × List Int)} : hear acc p (a ++ b) = hear (hear acc p a) (p + (octsI a).length) b := by
  induction a generalizing acc p with
  | nil => rfl
  | cons s a ih =>
    obtain ⟨q, ds⟩ := s
    rw [List.cons_append, hear, ih, hear, octsI_cons, Nat.add_assoc]
/-- bits, told one by one -/
def hv (f : Nat → Bool) : Nat → Nat
  | 0 => 0
  | n + 1 => hv f n ^^^ (if f n then 2 ^ n else 0)
theorem hv_lt (f : Nat → Bool) (n : Nat) : hv f n < 2 ^ n := by
  induction n with
  | zero => exact Nat.one_pos
  | succ n ih =>
    have h2 : (2 : Nat) ^ n < 2 ^ (n + 1) := by rw [Nat.pow_succ]; have := Nat.two_pow_pos n; omega
    rw [hv]
    refine xor_lt (Nat.lt_trans ih h2) ?_
    split
    · exact h2
    · exact Nat.two_pow_pos _
theorem or_xor {a n : Nat} (h : a < 2 ^ n) : a ||| 2 ^ n = a ^^^ 2 ^ n := by
  apply Nat.eq_of_testBit_eq
  intro i
  rw [Nat.testBit_or, Nat.testBit_xor, Nat.testBit_two_pow]
  by_cases e : n = i
  · subst e
    rw [Nat.testBit_lt_two_pow h]; simp
  · simp [e]
end Mine
end
section
set_option maxRecDepth 100000
open PySem PySem.W PyProof.Rows PySem.Calls
namespace Mine

theorem Sub.nil {σ : Loc} : Sub [] σ := fun _ _ h => nomatch h
theorem Sub.cons {σ σ' : Loc} {x : Str} {sl : Sl} (h : σ.lookup x = some sl) (r : Sub σ' σ) : Sub ((x, sl) :: σ') σ := by
  intro y s hy
  rw [List.lookup_cons] at hy
  by_cases e : (y == x) = true
  · rw [e] at hy
    rw [beq_iff_eq] at e
    cases hy; rw [e]; exact h
  · rw [Bool.not_eq_true] at e
    rw [e] at hy
    exact r y s hy

theorem SS.sub {X : Cx} {σ σ' : Loc} {st : List Stmt} {P : Fl → Loc → Prop} (H : Sub σ' σ) (h : SS X σ' st P) : SS X σ st P := by
  intro A s m K R S hK
  refine h A s m K R (S.sub H) fun fl fl' σ1 m' h' tk hp hf S' hs => hK _ _ _ _ _ _ hp hf S' ⟨fun b o e d n q => hs.pres b o e d n fun y ds hy => q y ds (H y _ hy), fun b o e d n q => hs.own b o e d n fun y ds hy => q y ds (H y _ hy)⟩
theorem S1.mono {X : Cx} {σ : Loc} {st : Stmt} {P P' : Fl → Loc → Prop} (h : S1 X σ st P) (hp : ∀ fl σ', P fl σ' → P' fl σ') : S1 X σ st P' :=
  fun A s m K R S hK => h A s m K R S fun fl fl' σ' m' h' tk q => hK fl fl' σ' m' h' tk (hp _ _ q)
/-- a statement that goes on, with the names told anew -/
theorem SS.to {X : Cx} {σ : Loc} {st : Stmt} {rest : List Stmt} {P : Fl → Loc → Prop} (σ' : Loc) (h : S1 X σ st (fun fl σ₁ => fl = .next ∧ Sub σ' σ₁)) (hr : SS X σ' rest P) : SS X σ (st :: rest) P :=
  SS.cons (h.mono fun fl σ₁ q => by obtain ⟨rfl, q⟩ := q; exact hr.sub q)
theorem cmpW_lt {a b : Int} {P : Bool → Prop} (h : P (decide (a < b))) : cmpW .Lt (.int a) (.int b) P := h
theorem cmpW_le {a b : Int} {P : Bool → Prop} (h : P (decide (a ≤ b))) : cmpW .LtE (.int a) (.int b) P := h
theorem cmpW_gt {a b : Int} {P : Bool → Prop} (h : P (decide (b < a))) : cmpW .Gt (.int a) (.int b) P := h
theorem cmpW_ge {a b : Int} {P : Bool → Prop} (h : P (decide (b ≤ a))) : cmpW .GtE (.int a) (.int b) P := h
theorem cmpW_eq {a b : Int} {P : Bool → Prop} (h : P (decide (a = b))) : cmpW .Eq (.int a) (.int b) P := h
theorem cmpW_eqs {a b : Str} {P : Bool → Prop} (h : P (a == b)) : cmpW .Eq (.str a) (.str b) P := h
theorem cmpW_is {a b : Bool} {P : Bool → Prop} (h : P (a == b)) : cmpW .Is (.bool a) (.bool b) P := h
theorem cmpW_isnot {a b : Bool} {P : Bool → Prop} (h : P (!(a == b))) : cmpW .IsNot (.bool a) (.bool b) P := h
theorem opW_add {a b : Int} {P : D → Prop} (h : P (.int (a + b))) : opW .Add (.int a) (.int b) P := h
theorem opW_sub {a b : Int} {P : D → Prop} (h : P (.int (a - b))) : opW .Sub (.int a) (.int b) P := h
theorem opW_mul {a b : Int} {P : D → Prop} (h : IntMulOk a b ∧ P (.int (a * b))) : opW .Mult (.int a) (.int b) P := h
theorem opW_mod {a b : Int} {P : D → Prop} (h : b ≠ 0 ∧ P (.int (a.fmod b))) : opW .Mod (.int a) (.int b) P := h
theorem opW_pow {a b : Int} {P : D → Prop} (h : 0 ≤ b ∧ b ≤ 1000000 ∧ a.natAbs < 2 ^ 64 ∧ P (.int (a ^ b.toNat))) : opW .Pow (.int a) (.int b) P := h
theorem opW_shl {a b : Int} {P : D → Prop} (h : 0 ≤ b ∧ (Builtin.Int.intBits a : Int) + b ≤ 2 ^ 27 ∧ P (.int (a * 2 ^ b.toNat))) : opW .LShift (.int a) (.int b) P := h
theorem opW_shr {a b : Int} {P : D → Prop} (h : 0 ≤ b ∧ P (.int (a.fdiv (2 ^ b.toNat)))) : opW .RShift (.int a) (.int b) P := h
theorem opW_and {a b : Int} {P : D → Prop} (h : P (.int (Builtin.bitAnd a b))) : opW .BitAnd (.int a) (.int b) P := h
theorem opW_or {a b : Int} {P : D → Prop} (h : P (.int (Builtin.bitOr a b))) : opW .BitOr (.int a) (.int b) P := h
theorem opW_xor {a b : Int} {P : D → Prop} (h : P (.int (Builtin.bitXor a b))) : opW .BitXor (.int a) (.int b) P := h
theorem iopW_add {a b : Int} {P : Int → Prop} (h : P (a + b)) : iopW .Add a (.int b) P := h
theorem iopW_and {a b : Int} {P : Int → Prop} (h : P (Builtin.bitAnd a b)) : iopW .BitAnd a (.int b) P := h
theorem iopW_or {a b : Int} {P : Int → Prop} (h : P (Builtin.bitOr a b)) : iopW .BitOr a (.int b) P := h
theorem iopW_xor {a b : Int} {P : Int → Prop} (h : P (Builtin.bitXor a b)) : iopW .BitXor a (.int b) P := h
theorem iopW_shr {a b : Int} {P : Int → Prop} (h : 0 ≤ b ∧ P (a.fdiv (2 ^ b.toNat))) : iopW .RShift a (.int b) P := h
theorem subW_bytes {b : Array UInt8} {i : Int} {P : D → Prop} (h : 0 ≤ i ∧ i < b.size ∧ b.size ≤ 1099511627776 ∧ P (.int (b.toList.getD i.toNat 0).toNat)) : subW (.bytes b) (.int i) P := h
theorem subW_tup {ds : List D} {i : Int} {P : D → Prop} (h : 0 ≤ i ∧ i < 2 ^ 63 ∧ ∃ d, ds[i.toNat]? = some d ∧ P d) : subW (.tup ds) (.int i) P := h
theorem subW_lst {ds : List D} {i : Int} {P : D → Prop} (h : (0 ≤ i ∧ i < 2 ^ 63 ∧ ∃ d, ds[i.toNat]? = some d ∧ P d) ∨ (i = -1 ∧ ∃ d, ds.getLast? = some d ∧ P d)) : subW (.lst ds) (.int i) P := h
theorem truW_b {b : Bool} {P : Bool → Prop} (h : P b) : truW (.bool b) P := h
theorem truW_i {i : Int} {P : Bool → Prop} (h : P (i != 0)) : truW (.int i) P := h
theorem SE.flat {X : Cx} {σ : Loc} {sf : Bool} {e : Expr} {P : D → Prop} (h : SE X σ false e (fun d => Mine.flat d ∧ P d)) : SE X σ sf e P :=
  fun A s m K R S hK => h A s m K R S fun d v h' tk hp he hr => hK d v h' tk hp.2 he (Rep.flat hp.1 hr)
theorem fmod_pos {a b : Int} (h : 0 < b) : a.fmod b = a % b := Int.fmod_eq_emod_of_nonneg a (Int.le_of_lt h)
theorem shl_nat (a k : Nat) : (a : Int) * 2 ^ ((k : Int) - 1).toNat = ((a * 2 ^ (k - 1) : Nat) : Int) := by
  rw [show ((k : Int) - 1).toNat = k - 1 by omega, Int.natCast_mul]; rfl
theorem shl_nat' (a : Nat) {k : Int} {j : Nat} (h : k = j) : (a : Int) * 2 ^ k.toNat = ((a * 2 ^ j : Nat) : Int) := by
  rw [h, Int.toNat_natCast, Int.natCast_mul]; rfl
theorem bit_odd (n : Nat) : (Builtin.bitAnd (n : Int) 1 != 0) = decide (n % 2 = 1) := by
  have := bitAnd_nat n 1
  rw [Nat.and_one_is_mod] at this
  rw [show (1 : Int) = ((1 : Nat) : Int) from rfl, this]
  rcases Nat.mod_two_eq_zero_or_one n with e | e <;> rw [e] <;> decide
theorem half_int (n : Nat) : (n : Int).fdiv (2 ^ (1 : Int).toNat) = ((n / 2 : Nat) : Int) := by
  have := fdiv_nat n 1
  simpa using this
theorem stps_succ (i r : Nat) : stps (i + 1) r = stp (stps i r) := (stps_add i 1 r).symm

def drOf (p : Program) (i : Nat) : DefRec := match p.main.body[i]? with
  | some (.FunctionDef name args body _ _ _ scope _ _ pos) => ⟨name, args, body, scope, pos⟩
  | _ => ⟨Str.ofString "", ⟨[], [], none, [], [], none, []⟩, [], { kind := .function, names := [], isGenerator := false, isCoroutine := false, more := [] }, ⟨0, 0, 0, 0⟩⟩
abbrev dr1 (i : Nat) : DefRec := drOf PySem.Challenge.pw_wo0005_01 i

structure Fns1 (G : GG) : Prop where
  GO : G.Ok
  h1 : HasDef G (dr1 4)
  h2 : HasDef G (dr1 5)
  hT : HasDef G (dr1 1)
  hD : HasDef G (dr1 2)
  hG : HasDef G (dr1 7)
  hc : HasDef G (dr1 9)
  hf : HasDef G (dr1 10)
  hw : HasDef G (dr1 11)
  ho : HasDef G (dr1 12)
  hr : HasDef G (dr1 13)
  ht : HasDef G (dr1 14)
  len : G.mg (Str.ofString "len") = none ∧ G.mb (Str.ofString "len") = some (.builtin "len")
  mx : G.mg (Str.ofString "max") = none ∧ G.mb (Str.ofString "max") = some (.builtin "max")
  mn : G.mg (Str.ofString "min") = none ∧ G.mb (Str.ofString "min") = some (.builtin "min")
  sm : G.mg (Str.ofString "sum") = none ∧ G.mb (Str.ofString "sum") = some (.builtin "sum")
  rg : G.mg (Str.ofString "range") = none ∧ G.mb (Str.ofString "range") = some (.type "range")
  byt : G.mg (Str.ofString "bytes") = none ∧ G.mb (Str.ofString "bytes") = some (.type "bytes")
  ie : G.mg (Str.ofString "IndexError") = none ∧ G.mb (Str.ofString "IndexError") = some (.type "IndexError")
  ue : G.mg (Str.ofString "UnicodeDecodeError") = none ∧ G.mb (Str.ofString "UnicodeDecodeError") = some (.type "UnicodeDecodeError")
end Mine
end
section
set_option maxRecDepth 100000
open PySem PySem.W PyProof.Rows PySem.Calls
namespace Mine
section
local macro_rules | `(tactic| walk_at "pw") => `(tactic| first
  | with_reducible refine SS.nil ?_
  | with_reducible refine SS.cons ?_
  | with_reducible refine S1.ret ?_
  | with_reducible refine S1.ife ?_
  | ((with_reducible show S1 _ _ (.Assign [.Name _ _] (.List _ _) _) _); refine S1.assignL ‹_› ?_ (by rfl))
  | ((with_reducible show S1 _ _ (.Assign [.Name _ _] _ _) _); refine S1.assign ‹_› ?_ (by rfl))
  | ((with_reducible show S1 _ _ (.AugAssign (.Name _ _) _ _ _) _); refine S1.aug ‹_› (by rfl) ?_ (by rfl))
  | ((with_reducible show S1 _ _ (.AugAssign (.Name _ _) .Add _ _) _); refine S1.augL ‹_› (by rfl) ?_ (by rfl))
  | ((with_reducible show S1 _ _ (.Expr (.Call (.Attribute (.Name _ _) _ _) [_] [] _) _) _); refine S1.append ‹_› (by rfl) ?_ ?_ (by rfl) (by rfl); rotate_left)
  | with_reducible refine SE.cint ?_
  | with_reducible refine SE.cnone ?_
  | with_reducible refine SE.cstr ?_
  | ((with_reducible show SE _ _ _ (.Name _ _) _); refine SE.name ‹_› (by rfl) ?_ (by rfl))
  | ((with_reducible show SE _ _ _ (.Name _ _) _); refine SE.nameO ‹_› (by rfl) ?_ (by rfl))
  | with_reducible refine SE.bin ‹_› ?_
  | with_reducible refine SE.cbool ?_
  | ((with_reducible refine SE.cmp ?_ ?_); rotate_left; with_unfolding_all rfl)
  | with_reducible refine SE.neg ?_
  | with_reducible refine SE.ifexp ?_
  | ((with_reducible refine SE.sub ?_ ?_); rotate_left; (intro _ _; rfl))
  | ((with_reducible refine SE.bitlen ?_ ?_ ?_); rotate_left; (intro _; rfl); rfl)
  | ((with_reducible refine ST.cmp ?_ ?_); rotate_left; with_unfolding_all rfl)
  | ((with_reducible refine ST.chain ?_ ?_); rotate_left; with_unfolding_all rfl)
  | with_reducible refine ST.not ?_
  | ((with_reducible show ST _ _ (.BinOp _ _ _ _) _); refine ST.plain ?_)
  | ((with_reducible show ST _ _ (.Call _ _ _ _) _); refine ST.plain ?_)
  | ((with_reducible show ST _ _ (.Constant _ _ _) _); refine ST.plain ?_)
  | with_reducible refine SE.tuple ?_
  | with_reducible refine SE.list ‹_› ?_
  | ((with_reducible refine SEs.cons ?_ ?_); rotate_left; (intro _; rfl))
  | with_reducible refine SEs.nil ?_
  | with_reducible refine S1.try ?_
  | ((with_reducible show SE _ _ _ (.Call (.Name (Str.ofString "len") _) _ [] _) _); refine SE.bcall (b := .builtin "len") ‹_› ?_ (.inl ⟨_, rfl⟩) ‹Fns1 _›.len.1 ‹Fns1 _›.len.2 (by rfl))
  | ((with_reducible show SE _ _ _ (.Call (.Name (Str.ofString "max") _) _ [] _) _); refine SE.bcall (b := .builtin "max") ‹_› ?_ (.inl ⟨_, rfl⟩) ‹Fns1 _›.mx.1 ‹Fns1 _›.mx.2 (by rfl))
  | ((with_reducible show SE _ _ _ (.Call (.Name (Str.ofString "min") _) _ [] _) _); refine SE.bcall (b := .builtin "min") ‹_› ?_ (.inl ⟨_, rfl⟩) ‹Fns1 _›.mn.1 ‹Fns1 _›.mn.2 (by rfl))
  | ((with_reducible show SE _ _ _ (.Call (.Name (Str.ofString "sum") _) _ [] _) _); refine SE.bcall (b := .builtin "sum") ‹_› ?_ (.inl ⟨_, rfl⟩) ‹Fns1 _›.sm.1 ‹Fns1 _›.sm.2 (by rfl))
  | ((with_reducible show SE _ _ _ (.Call (.Name (Str.ofString "range") _) _ [] _) _); refine SE.bcall (b := .type "range") ‹_› ?_ (.inr ⟨_, rfl⟩) ‹Fns1 _›.rg.1 ‹Fns1 _›.rg.2 (by rfl))
  | ((with_reducible show SE _ _ _ (.Call (.Name (Str.ofString "bytes") _) _ [] _) _); refine SE.bcall (b := .type "bytes") ‹_› ?_ (.inr ⟨_, rfl⟩) ‹Fns1 _›.byt.1 ‹Fns1 _›.byt.2 (by rfl))
  | ((with_reducible show SE _ _ _ (.Call (.Name (Str.ofString "_is_single_bit") _) _ [] _) _); refine SE.call (k := 1) (nh := True) ‹_› ?_ ‹Fns1 _›.h1.fn (Nat.le_of_ble_eq_true rfl) (fun _ => trivial) (by rfl))
  | ((with_reducible show SE _ _ _ (.Call (.Name (Str.ofString "_high_bit") _) _ [] _) _); refine SE.call (k := 1) (nh := True) ‹_› ?_ ‹Fns1 _›.h2.fn (Nat.le_of_ble_eq_true rfl) (fun _ => trivial) (by rfl))
  | ((with_reducible show SE _ _ _ (.Call (.Name (Str.ofString "T") _) _ [] _) _); refine SE.call (k := 1) (nh := False) ‹_› ?_ ‹Fns1 _›.hT.fn (Nat.le_of_ble_eq_true rfl) (fun h => h.elim) (by rfl))
  | ((with_reducible show SE _ _ _ (.Call (.Name (Str.ofString "_gen_crc") _) _ [] _) _); refine SE.call (k := 1) (nh := True) ‹_› ?_ ‹Fns1 _›.hG.fn (Nat.le_of_ble_eq_true rfl) (fun _ => trivial) (by rfl))
  | with_reducible refine cmpW_lt ?_
  | with_reducible refine cmpW_le ?_
  | with_reducible refine cmpW_gt ?_
  | with_reducible refine cmpW_ge ?_
  | with_reducible refine cmpW_eq ?_
  | with_reducible refine cmpW_ne ?_
  | with_reducible refine cmpW_eqs ?_
  | with_reducible refine cmpW_is ?_
  | with_reducible refine cmpW_isnot ?_
  | with_reducible refine opW_add ?_
  | with_reducible refine opW_sub ?_
  | with_reducible refine opW_mul ?_
  | with_reducible refine opW_fdiv ?_
  | with_reducible refine opW_mod ?_
  | with_reducible refine opW_pow ?_
  | with_reducible refine opW_shl ?_
  | with_reducible refine opW_shr ?_
  | with_reducible refine opW_and ?_
  | with_reducible refine opW_or ?_
  | with_reducible refine opW_xor ?_
  | with_reducible refine opW_cat ?_
  | with_reducible refine iopW_add ?_
  | with_reducible refine iopW_sub ?_
  | with_reducible refine iopW_and ?_
  | with_reducible refine iopW_or ?_
  | with_reducible refine iopW_xor ?_
  | with_reducible refine iopW_shr ?_
  | with_reducible refine subW_bytes ?_
  | with_reducible refine subW_tup ?_
  | with_reducible refine subW_lst ?_
  | with_reducible refine truW_b ?_
  | with_reducible refine truW_i ?_
  | ((with_reducible show BSpec _ _ _ (.type "range") _ _); refine BSpec.range ?_ ?_)
  | ((with_reducible show BSpec _ _ _ (.builtin "max") _ _); refine BSpec.max trivial ?_)
  | ((with_reducible show BSpec _ _ _ (.builtin "min") _ _); refine BSpec.min trivial ?_)
  | ((with_reducible show BSpec _ _ _ (.builtin "len") _ _); refine BSpec.len ?_)
  | with_reducible refine ST.and ?_
  | with_reducible refine ST.and_nil ?_
  | with_reducible refine ST.or ?_
  | with_reducible refine ST.or_nil ?_)

theorem isb_spec {G : GG} (F : Fns1 G) (n : Int) : Spec G 1 True (Str.ofString "_is_single_bit") [.int n] (fun d => d = .bool (isbI n)) := by
  refine Spec.intro (d := dr1 4) (k := 0) (σ := [(Str.ofString "num", .fr (.int n))]) F.GO F.h1 ?_ ?_ (by rfl) (by decide +kernel) (by rfl) (by rfl) (by rfl) (by decide +kernel)
  · intro h₀ L a cd ok fs O
    unfold isbI
    refine SS.cons ?_
    repeat walk_at "pw"

    split
    · rename_i h
      repeat walk_at "pw"
      show (_ : D) = _
      rw [if_pos (of_decide_eq_true h)]
    · rename_i h
      repeat walk_at "pw"
      show (_ : D) = _
      rw [if_neg (fun e => h (decide_eq_true e))]
  · intro pm code doc vs hl
    match vs, hl with
    | [_], _ => rfl
theorem hb_spec {G : GG} (F : Fns1 G) (n : Int) : Spec G 1 True (Str.ofString "_high_bit") [.int n] (fun d => d = .int ((Builtin.Int.intBits n : Nat) - 1)) := by
  refine Spec.intro (d := dr1 5) (k := 0) (σ := [(Str.ofString "value", .fr (.int n))]) F.GO F.h2 ?_ ?_ (by rfl) (by decide +kernel) (by rfl) (by rfl) (by rfl) (by decide +kernel)
  · intro h₀ L a cd ok fs O
    refine SS.cons ?_
    repeat walk_at "pw"
    exact (rfl : (_ : D) = _)
  · intro pm code doc vs hl
    match vs, hl with
    | [_], _ => rfl

theorem T_spec {G : GG} (F : Fns1 G) {nh : Prop} (j : Nat) (bias : Int) : Spec G 1 nh (Str.ofString "T") [.int j, .int bias] (fun d => d = .int (tau bias j)) := by
  refine Spec.intro (d := dr1 1) (k := 0) (σ := [(Str.ofString "bias", .fr (.int bias)), (Str.ofString "j", .fr (.int j))]) F.GO F.hT ?_ ?_ (by rfl) (by decide +kernel) (by rfl) (by rfl) (by rfl) (by decide +kernel)
  · intro h₀ L a cd ok fs O
    refine SS.cons ?_
    repeat walk_at "pw"
    refine ⟨.of_left (intBits_le_64 (by decide) (by decide)), ?_⟩
    repeat walk_at "pw"
    split
    · rename_i h
      repeat walk_at "pw"
      refine congrArg D.int ?_
      rw [tau, if_pos (of_decide_eq_true h)]
    · rename_i h
      repeat walk_at "pw"
      have h := fun e => h (decide_eq_true e)
      split
      · rename_i h2
        repeat walk_at "pw"
        refine congrArg D.int ?_
        rw [tau, if_neg h, if_pos (of_decide_eq_true h2)]
      · rename_i h2
        repeat walk_at "pw"
        refine congrArg D.int ?_
        rw [tau, if_neg h, if_neg (fun e => h2 (decide_eq_true e))]
  · intro pm code doc vs hl
    match vs, hl with
    | [_, _], _ => rfl

theorem gen_spec {G : GG} (F : Fns1 G) (r : Nat) : Spec G 1 True (Str.ofString "_gen_crc") [.int r] (fun d => d = .int (stps 8 r : Nat)) := by
  refine Spec.intro (d := dr1 7) (k := 0) (σ := [(Str.ofString "crc", .fr (.int r))]) F.GO F.hG ?_ ?_ (by rfl) (by decide +kernel) (by rfl) (by rfl) (by rfl) (by decide +kernel)
  · intro h₀ L a cd ok fs O
    refine SS.cons ?_
    refine S1.for O trivial ?_ (by rfl)
    repeat walk_at "pw"
    · refine ⟨_, rfl, fun i σ' => σ' = [(Str.ofString "crc", .fr (.int (stps i r : Nat)))], ⟨_, Sub.cons (by rfl) Sub.nil, rfl⟩, ?_, ?_⟩
      · rintro i d σ' hd rfl
        show SS _ _ _ _
        refine SS.cons ?_
        repeat walk_at "pw"
        rw [bit_odd]
        split
        · rename_i h
          have h := of_decide_eq_true h
          repeat walk_at "pw"
          refine ⟨by decide, ?_⟩
          repeat walk_at "pw"
          refine ⟨_, ?_, rfl⟩
          rw [half_int, show (3988292384 : Int) = ((3988292384 : Nat) : Int) from rfl, bitXor_nat, stps_succ, stp, if_pos h]
          exact Sub.cons (by rfl) Sub.nil
        · rename_i h
          have h := fun e => h (decide_eq_true e)
          repeat walk_at "pw"
          refine ⟨by decide, ?_⟩
          repeat walk_at "pw"
          refine ⟨_, ?_, rfl⟩
          rw [half_int, stps_succ, stp, if_neg h]
          exact Sub.cons (by rfl) Sub.nil
      · rintro σ' rfl
        repeat walk_at "pw"
        rfl
    · decide
  · intro pm code doc vs hl
    match vs, hl with
    | [_], _ => rfl
local macro_rules | `(tactic| walk_at "pw") => `(tactic| first
  | ((with_reducible show Spec _ _ _ (Str.ofString "_is_single_bit") _ _); refine Spec.mono (isb_spec ‹_› _) ?_; intro d hd; subst hd)
  | ((with_reducible show Spec _ _ _ (Str.ofString "_high_bit") _ _); refine Spec.mono (hb_spec ‹_› _) ?_; intro d hd; subst hd)
  | ((with_reducible show Spec _ _ _ (Str.ofString "T") _ _); refine Spec.mono (T_spec ‹_› _ _) ?_; intro d hd; subst hd)
  | ((with_reducible show Spec _ _ _ (Str.ofString "_gen_crc") _ _); refine Spec.mono (gen_spec ‹_› _) ?_; intro d hd; subst hd)
  | ((with_reducible show ST _ _ (.Subscript _ _ _) _); refine ST.plain ?_))

abbrev decSt (bias : Int) (word : Str) (ns : List Int) (j e : Nat) (res w : Int) : Mine.Loc :=
  [(Str.ofString "errors", .fr (.str word)), (Str.ofString "bias", .fr (.int bias)), (Str.ofString "extpos", .fr (.int (e : Nat))), (Str.ofString "extended", .fr (.bytes (byteArr ns))), (Str.ofString "result", .fr (.int res)), (Str.ofString "w", .fr (.int w)), (Str.ofString "j", .fr (.int (j : Nat)))]
def decBody : List Stmt := match (dr1 2).body with
  | [_, _, _, .While _ b [] _] => b
  | _ => []
theorem decode_turn {G : GG} (F : Fns1 G) {nh : Prop} {h₀ : Heap} {L a : Addr} {cd : Value} {ok : Addr → Prop} {fs : List Env} (O : Cx.Ok ⟨G, h₀, envOf (dr1 2).name (dr1 2).scope L a cd, ok, 1, nh, fs⟩)
    {bias : Int} {word : Str} {ns : List Int} (hr : ∀ n ∈ ns, 0 ≤ n ∧ n < 256) (hz : ns.length ≤ 1000000) {j e : Nat} {res w d : Int} (hd0 : 0 ≤ d) (hd1 : d < 36) (hget : ns[e]? = some (oct d)) :
    SS ⟨G, h₀, envOf (dr1 2).name (dr1 2).scope L a cd, ok, 1, nh, fs⟩ (decSt bias word ns j e res w) decBody (fun fl σ' => match fl with
      | .next => ¬ d < tau bias j ∧ Sub (decSt bias word ns (j + 1) (e + 1) (res + d * w) (w * (36 - tau bias j))) σ'
      | .ret r => d < tau bias j ∧ r = .tup [.int ((e + 1 : Nat) : Int), .int (res + d * w)]
      | _ => False) := by
  have hlt : e < ns.length := (List.getElem?_eq_some_iff.mp hget).1
  unfold decBody
  refine SS.to (decSt bias word ns j e res w ++ [(Str.ofString "char", .fr (.int (oct d)))]) ?_ ?_
  · repeat walk_at "pw"
    refine ⟨Int.natCast_nonneg _, ?_, ?_, ?_⟩
    · rw [byteArr_size]; omega
    · rw [byteArr_size]; omega
    · rw [Int.toNat_natCast, byteArr_get hr hget]
      repeat walk_at "pw"
      exact ⟨rfl, (Sub.cons (by rfl) (Sub.cons (by rfl) (Sub.cons (by rfl) (Sub.cons (by rfl) (Sub.cons (by rfl) (Sub.cons (by rfl) (Sub.cons (by rfl) (Sub.cons (by rfl) Sub.nil))))))))⟩
  refine SS.to (decSt bias word ns j (e + 1) res w ++ [(Str.ofString "char", .fr (.int (oct d)))]) ?_ ?_
  · repeat walk_at "pw"
    exact ⟨rfl, (Sub.cons (by rfl) (Sub.cons (by rfl) (Sub.cons (by rfl) (Sub.cons (by rfl) (Sub.cons (by rfl) (Sub.cons (by rfl) (Sub.cons (by rfl) (Sub.cons (by rfl) Sub.nil))))))))⟩
  refine SS.to (decSt bias word ns j (e + 1) res w ++ [(Str.ofString "digit", .fr (.int d))]) ?_ ?_
  · repeat walk_at "pw"
    by_cases hd26 : d < 26
    · have e1 : oct d = 65 + d := by rw [oct, if_pos hd26]
      rw [e1, if_pos (decide_eq_true (by omega))]
      repeat walk_at "pw"
      rw [if_pos (decide_eq_true (by omega))]
      repeat walk_at "pw"
      rw [show 65 + d - 65 = d by omega]
      exact ⟨rfl, (Sub.cons (by rfl) (Sub.cons (by rfl) (Sub.cons (by rfl) (Sub.cons (by rfl) (Sub.cons (by rfl) (Sub.cons (by rfl) (Sub.cons (by rfl) (Sub.cons (by rfl) Sub.nil))))))))⟩
    · have e1 : oct d = 22 + d := by rw [oct, if_neg hd26]
      rw [e1]
      by_cases hd43 : 43 ≤ d
      · omega
      · rw [if_neg (fun h => by have := of_decide_eq_true h; omega), if_neg Bool.false_ne_true]
        repeat walk_at "pw"
        rw [if_pos (decide_eq_true (by omega))]
        repeat walk_at "pw"
        rw [if_pos (decide_eq_true (by omega))]
        repeat walk_at "pw"
        rw [show 22 + d - 22 = d by omega]
        exact ⟨rfl, (Sub.cons (by rfl) (Sub.cons (by rfl) (Sub.cons (by rfl) (Sub.cons (by rfl) (Sub.cons (by rfl) (Sub.cons (by rfl) (Sub.cons (by rfl) (Sub.cons (by rfl) Sub.nil))))))))⟩
  refine SS.cons ?_
  repeat walk_at "pw"
  refine ⟨.of_left (intBits_le_64 (by omega) (by omega)), ?_⟩
  repeat walk_at "pw"
  have ht1 := tau_ge bias j
  have ht2 := tau_le bias j
  split
  · rename_i hlt
    repeat walk_at "pw"
    exact ⟨Nat.le_of_ble_eq_true rfl, of_decide_eq_true hlt, rfl⟩
  · rename_i hlt
    repeat walk_at "pw"
    refine ⟨.of_right (intBits_le_64 (by omega) (by omega)), ?_⟩
    repeat walk_at "pw"
    exact ⟨fun e => hlt (decide_eq_true e), (Sub.cons (by rfl) (Sub.cons (by rfl) (Sub.cons (by rfl) (Sub.cons (by rfl) (Sub.cons (by rfl) (Sub.cons (by rfl) (Sub.cons (by rfl) Sub.nil)))))))⟩

theorem decode_spec {G : GG} (F : Fns1 G) {bias q : Int} {ns ds rest : List Int} {p : Nat} (hr : ∀ n ∈ ns, 0 ≤ n ∧ n < 256) (hz : ns.length ≤ 1000000) (h : Num bias 0 q ds) (hd : ns.drop p = ds ++ rest) :
    Spec G 2 True (Str.ofString "decode_generalized_number") [.bytes (byteArr ns), .int p, .int bias, .str (Str.ofString "strict")] (fun d => d = .tup [.int (p + ds.length : Nat), .int q]) := by
  refine Spec.intro (d := dr1 2) (k := 1) (σ := [(Str.ofString "errors", .fr (.str (Str.ofString "strict"))), (Str.ofString "bias", .fr (.int bias)), (Str.ofString "extpos", .fr (.int p)), (Str.ofString "extended", .fr (.bytes (byteArr ns)))]) F.GO F.hD ?_ ?_ (by rfl) (by decide +kernel) (by rfl) (by rfl) (by rfl) (by decide +kernel)
  · intro h₀ L a cd ok fs O
    refine SS.cons ?_
    repeat walk_at "pw"
    refine S1.while (fun n σ' => ∃ (j e : Nat) (ds' : List Int) (q' w res : Int), n = ds'.length ∧ Num bias j q' ds' ∧ ns.drop e = ds' ++ rest ∧ res + w * q' = q ∧ e + ds'.length = p + ds.length ∧
      σ' = decSt bias (Str.ofString "strict") ns j e res w) ?_ ?_
    · exact ⟨_, _, (Sub.cons (by rfl) (Sub.cons (by rfl) (Sub.cons (by rfl) (Sub.cons (by rfl) (Sub.cons (by rfl) (Sub.cons (by rfl) (Sub.cons (by rfl) Sub.nil))))))), 0, p, ds, q, 1, 0, rfl, h, hd, by omega, rfl, rfl⟩
    · rintro n σ' ⟨j, e, ds', q', w, res, rfl, hN, hdr, hq, he, rfl⟩
      repeat walk_at "pw"
      rw [if_pos (by decide)]
      obtain ⟨d, tl, rfl, hd0, hd1, hl1, hl2⟩ := hN.open
      have hdr' := drop_more hdr
      have hget := get_drop (i := 0) hdr rfl
      rw [Nat.add_zero] at hget
      refine (decode_turn F O (word := Str.ofString "strict") hr hz hd0 hd1 hget).mono fun fl σ' hp => ?_
      cases fl with
      | next =>
        obtain ⟨n', hN', hq'⟩ := hl2 hp.1
        refine ⟨tl.length, by rw [List.length_cons]; omega, _, hp.2, j + 1, e + 1, tl, n', w * (36 - tau bias j), res + d * w, rfl, hN', hdr', ?_, ?_, rfl⟩
        · rw [← hq, hq', Int.mul_add, Int.mul_assoc, Int.mul_comm d w, Int.add_assoc]
        · rw [List.length_cons] at he; omega
      | ret r =>
        obtain ⟨rfl, rfl⟩ := hl1 hp.1
        have e2 : e + 1 = p + ds.length := he
        show (_ : D) = _
        rw [hp.2, e2, ← hq, Int.mul_comm]
      | _ => exact hp.elim
  · intro pm code doc vs hl
    match vs, hl with
    | [_, _, _, _], _ => rfl
theorem decode_tail_strict {G : GG} (F : Fns1 G) {h₀ : Heap} {L a : Addr} {cd : Value} {ok : Addr → Prop} {fs : List Env} (O : Cx.Ok ⟨G, h₀, envOf (dr1 2).name (dr1 2).scope L a cd, ok, 1, False, envOf (dr1 2).name (dr1 2).scope L a cd :: fs⟩)
    {bias : Int} {ns : List Int} (hz : ns.length ≤ 1000000) {j e : Nat} {res w : Int} (he : e = ns.length) {P : Fl → Mine.Loc → Prop} :
    SSG ⟨G, h₀, envOf (dr1 2).name (dr1 2).scope L a cd, ok, 1, False, envOf (dr1 2).name (dr1 2).scope L a cd :: fs⟩ (fun v => v = none) (decSt bias (Str.ofString "strict") ns j e res w) decBody P (fun _ => Upon "UnicodeDecodeError") := by
  subst he
  unfold decBody
  refine SSG.cons ?_
  intro A s m K E R S hh hO hE hK
  refine try_sub (i := ns.length) (bs := byteArr ns) O R S (outer := fs) rfl rfl (ctx := .none) (.inl ⟨hh, rfl⟩) hO (by rfl) (by rfl) (by rfl) (by rfl) (by rw [byteArr_size]; omega) (by omega) (by rfl) F.ie.1 F.ie.2 (by decide) (by decide) (by decide) ?_
  intro h1 h' e1 tk x f
  have S' := (S.ext x).ext f.ext
  obtain ⟨ob, vs, _, _, _, _, g1, _, g2, _, _, g3, _⟩ := f.trk
  have R' : Room ⟨G, h₀, envOf (dr1 2).name (dr1 2).scope L a cd, ok, 1, False, envOf (dr1 2).name (dr1 2).scope L a cd :: fs⟩ (A.mark (some (.ref e1))) := ⟨R.d, R.u, fun q => q.elim, R.fr⟩
  refine wpAny_execs_cons (wpAny_If (wpAny_noRaise ?_))
  refine ST.run (σ := decSt bias (Str.ofString "strict") ns j ns.length res w) (P := fun c => c = true) ?_ R' S' fun c h2 t2 hc e2 => ?_
  · repeat walk_at "pw"
    rfl
  subst hc
  rw [if_pos rfl]
  refine wpAny_execs_cons (raise_ude (s := { s with heap := h2, toks := t2 }) (x := Str.ofString "punycode") (y := Str.ofString "incomplete punycode string") (b := byteArr ns) (i := ns.length) (j := ns.length + 1) O R' (S'.ext e2) rfl (e2.nd _ _ g1 (.fields g2)) g2 g3 (by rfl) F.ue.1 F.ue.2 (by decide) (by omega) (by omega) ?_ (by intro _; rfl) (by intro _ _; rfl) ?_)
  · repeat walk_at "pw"
    rfl
  · intro h3 h4 tk4 a' e3 hu
    exact hE _ m h3 h4 tk4 a' hu (((S.ext x).ext f.ext).ext (e2.trans e3)) (.ofExt (((x.trans f.ext).trans e2).trans e3))

theorem decode_tail_skip {G : GG} (F : Fns1 G) {h₀ : Heap} {L a : Addr} {cd : Value} {ok : Addr → Prop} {fs : List Env} (O : Cx.Ok ⟨G, h₀, envOf (dr1 2).name (dr1 2).scope L a cd, ok, 1, False, envOf (dr1 2).name (dr1 2).scope L a cd :: fs⟩) {U : Addr} (hC : Chain h₀ U)
    {bias : Int} {word : Str} (hw : (word == Str.ofString "strict") = false) {ns : List Int} (hz : ns.length ≤ 1000000) {j e : Nat} {res w : Int} (he : e = ns.length) {P : Fl → Mine.Loc → Prop} (hP : ∀ σ, P (.ret (.tup [.int ((ns.length : Int) + 1), .none])) σ) {Z : Mine.Loc → Heap → Heap → Addr → Prop} :
    SSG ⟨G, h₀, envOf (dr1 2).name (dr1 2).scope L a cd, ok, 1, False, envOf (dr1 2).name (dr1 2).scope L a cd :: fs⟩ (fun v => v = some (.ref U)) (decSt bias word ns j e res w) decBody P Z := by
  subst he
  unfold decBody
  refine SSG.cons ?_
  intro A s m K E R S hh hO hE hK
  refine try_sub (i := ns.length) (bs := byteArr ns) O R S (outer := fs) rfl rfl (ctx := .ref U) (.inr ⟨U, hh, hC.ext S.F.keep, rfl⟩) hO (by rfl) (by rfl) (by rfl) (by rfl) (by rw [byteArr_size]; omega) (by omega) (by rfl) F.ie.1 F.ie.2 (by decide) (by decide) (by decide) ?_
  intro h1 h' e1 tk x f
  have S' := (S.ext x).ext f.ext
  have R' : Room ⟨G, h₀, envOf (dr1 2).name (dr1 2).scope L a cd, ok, 1, False, envOf (dr1 2).name (dr1 2).scope L a cd :: fs⟩ (A.mark (some (.ref e1))) := ⟨R.d, R.u, fun q => q.elim, R.fr⟩
  refine wpAny_noRaise ?_
  refine SS.run (σ := decSt bias word ns j ns.length res w) (P := fun fl _ => fl = .ret (.tup [.int ((ns.length : Int) + 1), .none])) ?_ R' S' fun fl fl' σ' m' h2 t2 hp hf S2 st2 => ?_
  · repeat walk_at "pw"
    rw [hw, if_neg Bool.false_ne_true]
    repeat walk_at "pw"
    exact ⟨Nat.le_of_ble_eq_true rfl, rfl⟩
  subst hp
  cases hf with
  | ret r => exact hK _ _ _ _ _ _ (hP σ') (.ret r) S2 ((Step.ofExt (x.trans f.ext)).trans st2)

/-- the end of a row is refused -/
theorem decode_raises {G : GG} (F : Fns1 G) {bias : Int} {ns tl : List Int} {p : Nat} (hr : ∀ n ∈ ns, 0 ≤ n ∧ n < 256) (hz : ns.length ≤ 1000000) (h : Opn bias 0 tl) (hp : p ≤ ns.length) (hd : ns.drop p = tl) :
    RSpec G 2 (Str.ofString "decode_generalized_number") [.bytes (byteArr ns), .int p, .int bias, .str (Str.ofString "strict")] "UnicodeDecodeError" := by
  refine RSpec.intro (d := dr1 2) (k := 1) (σ := [(Str.ofString "errors", .fr (.str (Str.ofString "strict"))), (Str.ofString "bias", .fr (.int bias)), (Str.ofString "extpos", .fr (.int p)), (Str.ofString "extended", .fr (.bytes (byteArr ns)))]) F.GO F.hD ?_ ?_ (by rfl) (by decide +kernel) (by rfl) (by rfl) (by rfl) (by decide +kernel)
  · intro h₀ L a cd ok fs O
    refine SSG.cons1 ?_
    repeat walk_at "pw"
    refine SSG.cons1 ?_
    repeat walk_at "pw"
    refine SSG.cons1 ?_
    repeat walk_at "pw"
    refine SSG.cons ?_
    refine S1G.while (fun n σ' => ∃ (j e : Nat) (tl' : List Int) (w res : Int), n = tl'.length ∧ Opn bias j tl' ∧ ns.drop e = tl' ∧ e + tl'.length = ns.length ∧ σ' = decSt bias (Str.ofString "strict") ns j e res w) ?_ ?_
    · exact ⟨_, _, (Sub.cons (by rfl) (Sub.cons (by rfl) (Sub.cons (by rfl) (Sub.cons (by rfl) (Sub.cons (by rfl) (Sub.cons (by rfl) (Sub.cons (by rfl) Sub.nil))))))), 0, p, tl, 1, 0, rfl, h, hd, by rw [← hd, List.length_drop]; omega, rfl⟩
    · rintro n σ' ⟨j, e, tl', w, res, rfl, hN, hdr, he, rfl⟩
      repeat walk_at "pw"
      rw [if_pos (by decide)]
      cases hN with
      | nil => exact decode_tail_strict F O hz (by simpa using he)
      | @cons j d ds hd0 hd1 hd2 hN =>
        have hdr' : ns.drop e = (oct d :: ds) ++ [] := by rw [List.append_nil]; exact hdr
        have hdr2 := drop_more hdr'
        have hget := get_drop (i := 0) hdr' rfl
        rw [Nat.add_zero] at hget
        refine SSG.ofSS ((decode_turn F O (word := Str.ofString "strict") hr hz hd0 hd1 hget).mono fun fl σ' hp => ?_)
        cases fl with
        | next => exact ⟨ds.length, by rw [List.length_cons]; omega, _, hp.2, j + 1, e + 1, ds, _, _, rfl, hN, by rw [hdr2, List.append_nil], by rw [List.length_cons] at he; omega, rfl⟩
        | ret r => exact absurd hp.1 hd2
        | _ => exact hp.elim
  · intro pm code doc vs hl
    match vs, hl with
    | [_, _, _, _], _ => rfl

/-- and told by the other words -/
theorem decode_skips {G : GG} (F : Fns1 G) {bias : Int} {word : Str} (hw : (word == Str.ofString "strict") = false) {ns tl : List Int} {p : Nat} (hr : ∀ n ∈ ns, 0 ≤ n ∧ n < 256) (hz : ns.length ≤ 1000000) (h : Opn bias 0 tl) (hp : p ≤ ns.length) (hd : ns.drop p = tl) :
    SpecH G 2 (Str.ofString "decode_generalized_number") [.bytes (byteArr ns), .int p, .int bias, .str word] (fun d => d = .tup [.int ((ns.length : Int) + 1), .none]) := by
  refine SpecH.intro (d := dr1 2) (k := 1) (σ := [(Str.ofString "errors", .fr (.str word)), (Str.ofString "bias", .fr (.int bias)), (Str.ofString "extpos", .fr (.int p)), (Str.ofString "extended", .fr (.bytes (byteArr ns)))]) F.GO F.hD ?_ ?_ (by rfl) (by decide +kernel) (by rfl) (by rfl) (by rfl) (by decide +kernel)
  · intro h₀ L a cd ok fs U hC O
    refine SSG.cons1 ?_
    repeat walk_at "pw"
    refine SSG.cons1 ?_
    repeat walk_at "pw"
    refine SSG.cons1 ?_
    repeat walk_at "pw"
    refine SSG.cons ?_
    refine S1G.while (fun n σ' => ∃ (j e : Nat) (tl' : List Int) (w res : Int), n = tl'.length ∧ Opn bias j tl' ∧ ns.drop e = tl' ∧ e + tl'.length = ns.length ∧ σ' = decSt bias word ns j e res w) ?_ ?_
    · exact ⟨_, _, (Sub.cons (by rfl) (Sub.cons (by rfl) (Sub.cons (by rfl) (Sub.cons (by rfl) (Sub.cons (by rfl) (Sub.cons (by rfl) (Sub.cons (by rfl) Sub.nil))))))), 0, p, tl, 1, 0, rfl, h, hd, by rw [← hd, List.length_drop]; omega, rfl⟩
    · rintro n σ' ⟨j, e, tl', w, res, rfl, hN, hdr, he, rfl⟩
      repeat walk_at "pw"
      rw [if_pos (by decide)]
      cases hN with
      | nil => exact decode_tail_skip F O hC hw hz (by simpa using he) fun _ => rfl
      | @cons j d ds hd0 hd1 hd2 hN =>
        have hdr' : ns.drop e = (oct d :: ds) ++ [] := by rw [List.append_nil]; exact hdr
        have hdr2 := drop_more hdr'
        have hget := get_drop (i := 0) hdr' rfl
        rw [Nat.add_zero] at hget
        refine SSG.ofSS ((decode_turn F O (word := word) hr hz hd0 hd1 hget).mono fun fl σ' hp => ?_)
        cases fl with
        | next => exact ⟨ds.length, by rw [List.length_cons]; omega, _, hp.2, j + 1, e + 1, ds, _, _, rfl, hN, by rw [hdr2, List.append_nil], by rw [List.length_cons] at he; omega, rfl⟩
        | ret r => exact absurd hp.1 hd2
        | _ => exact hp.elim
  · intro pm code doc vs hl
    match vs, hl with
    | [_, _, _, _], _ => rfl
abbrev toldSt (bias : Int) (ns : List Int) (told : List D) (p : Nat) : Mine.Loc :=
  [(Str.ofString "bias", .fr (.int bias)), (Str.ofString "octets", .fr (.bytes (byteArr ns))), (Str.ofString "told", .ow told), (Str.ofString "place", .fr (.int (p : Nat)))]

/-- a row is read -/
theorem told_spec {G : GG} (F : Fns1 G) {bias : Int} {segs : List (Int × List Int)} {ns tl : List Int} (hs : SegsI bias segs) (ht : Opn bias 0 tl) (hns : ns = octsI segs ++ tl) (hz : ns.length ≤ 100000) (hz2 : segs.length ≤ 1000) :
    Spec G 3 True (Str.ofString "_law_told") [.bytes (byteArr ns), .int bias] (fun d => d = .lst (endsI 0 segs ++ [.tup [.int ((ns.length : Int) + 1), .none], .tup [.int ((ns.length : Int) + 1), .none]])) := by
  have hr : ∀ n ∈ ns, 0 ≤ n ∧ n < 256 := by
    intro n hn
    rw [hns] at hn
    rcases List.mem_append.mp hn with h | h
    · exact hs.range n h
    · exact ht.range n h
  have hp : (octsI segs).length ≤ ns.length := by rw [hns, List.length_append]; omega
  have hd : ns.drop (octsI segs).length = tl := by rw [hns, List.drop_left]
  refine Spec.intro (d := dr1 12) (k := 2) (σ := [(Str.ofString "bias", .fr (.int bias)), (Str.ofString "octets", .fr (.bytes (byteArr ns)))]) F.GO F.ho ?_ ?_ (by rfl) (by decide +kernel) (by rfl) (by rfl) (by rfl) (by decide +kernel)
  · intro h₀ L a cd ok fs O
    refine SS.to (toldSt bias ns [] 0) ?_ ?_
    · refine S1.slots (xs := [Str.ofString "told", Str.ofString "place"]) O trivial (by show ∀ x ∈ _, (dr1 12).scope.names.lookup x = some .local; decide +kernel) ?_ (by decide) (by rfl) (by rfl)
      refine SD.ow (SD.fl ?_)
      repeat walk_at "pw"
      refine ⟨trivial, SD.nil ⟨rfl, rfl, ?_⟩⟩
      exact (Sub.cons (by rfl) (Sub.cons (by rfl) (Sub.cons (by rfl) (Sub.cons (by rfl) Sub.nil))))
    refine SS.cons ?_
    intro A s m K R S hK
    have hh := R.h trivial
    refine wpAny_Try_except (wpAny_execs_cons ?_)
    refine S1G.run (H := fun v => v = none) (σ := toldSt bias ns [] 0) (P := fun _ _ => False) (Z := fun σ' h1 h' e => σ' = toldSt bias ns (endsI 0 segs) (octsI segs).length ∧ UFly G.n "UnicodeDecodeError" h1 h' e) ?_ R S hh ?_ ?_ (fun _ _ _ _ _ _ q => q.elim)
    · refine S1G.while (fun n σ' => ∃ done left, segs = done ++ left ∧ n = left.length ∧ σ' = toldSt bias ns (endsI 0 done) (octsI done).length) ?_ ?_
      · exact ⟨_, _, fun _ _ h => h, [], segs, rfl, rfl, rfl⟩
      · rintro n σ' ⟨done, left, hseg, rfl, rfl⟩
        have hdl : (octsI done).length ≤ ns.length := by rw [hns, hseg, octsI_append, List.length_append, List.length_append]; omega
        have hel : (endsI 0 done).length ≤ 1000000 := by rw [endsI_length]; rw [hseg, List.length_append] at hz2; omega
        repeat walk_at "pw"
        refine ⟨by rw [byteArr_size]; exact Nat.le_trans hz (by decide), ?_⟩
        repeat walk_at "pw"
        rw [byteArr_size, if_pos (decide_eq_true (by omega))]
        cases left with
        | nil =>
          rw [List.append_nil] at hseg
          subst hseg
          refine SSG.cons ?_
          intro A s m K E R S hh hO hE hK
          refine append_any (Q := fun _ => False) O S (by rfl) hel (by rfl) (by rfl) (by intro _; rfl) (by decide) ?_ (fun _ _ _ q => q.elim)
          intro K' _
          refine call_raises (k := 2) (T := "UnicodeDecodeError") (sf := true) O R S hh ?_ F.hD.fn (Nat.le_of_ble_eq_true rfl) (by rfl) (by intro _; rfl) (by decide) ?_
          · repeat walk_at "pw"
            exact decode_raises F hr (Nat.le_trans hz (by decide)) ht hp hd
          · intro h1 h' tk a' x f
            exact hE _ m h1 h' tk a' ⟨rfl, f⟩ (S.ext x) (.ofExt x)
        | cons sg left =>
          obtain ⟨q, ds⟩ := sg
          have hN : Num bias 0 q ds := hs (q, ds) (by rw [hseg]; simp)
          refine SSG.ofSS (SS.cons ?_)
          repeat walk_at "pw"
          · refine SE.call (k := 2) (nh := True) O ?_ F.hD.fn (Nat.le_of_ble_eq_true rfl) (fun _ => trivial) (by rfl)
            repeat walk_at "pw"
            refine Spec.mono (decode_spec F (rest := octsI left ++ tl) hr (Nat.le_trans hz (by decide)) hN (by rw [hns, hseg]; exact octsI_drop)) ?_
            rintro _ rfl
            refine SS.cons (S1.assign O (SE.flat ?_) (by rfl))
            repeat walk_at "pw"
            refine .inr ⟨rfl, _, List.getLast?_concat, ?_⟩
            repeat walk_at "pw"
            refine ⟨by decide, by decide, _, rfl, ?_⟩
            refine ⟨trivial, ?_⟩
            repeat walk_at "pw"
            refine ⟨left.length, Nat.lt_succ_self _, _, ?_, done ++ [(q, ds)], left, by rw [hseg]; simp, rfl, rfl⟩
            have e1 : (octsI (done ++ [(q, ds)])).length = (octsI done).length + ds.length := by
              rw [octsI_append, List.length_append]; congr 1; unfold octsI; simp
            have e2 : endsI 0 (done ++ [(q, ds)]) = endsI 0 done ++ [.tup [.int (((octsI done).length + ds.length : Nat) : Int), .int q]] := by
              rw [endsI_append, Nat.zero_add]; rfl
            rw [e1, e2]
            exact (Sub.cons (by rfl) (Sub.cons (by rfl) (Sub.cons (by rfl) (Sub.cons (by rfl) Sub.nil))))
          · exact hel
    · intro A' A'' hAA
      exact PassesOwnAt.lookingOf hAA
    · rintro σ' m' h1 h' tk e ⟨rfl, e1, o1, vs1, f, g1, g2, g3⟩ S' st
      refine caught_fly (s := { s with heap := h', toks := tk }) O S' R.fr rfl rfl f (by rfl) F.ue.1 F.ue.2 (by decide) (by rw [isSubtype_type]; kernel_rfl) (by rw [isSubtype_type]; kernel_rfl) (by rw [isSubtype_type]; kernel_rfl) PassesOwnAt.never fun h'' f'' => ?_
      have O' : Cx.Ok ⟨G, h₀, envOf (dr1 12).name (dr1 12).scope L a cd, ok, 2, False, envOf (dr1 12).name (dr1 12).scope L a cd :: fs⟩ := ⟨O.GO, O.hk, O.hg, O.hb, O.tp, O.tz, O.okb, O.fo⟩
      have R' : Room ⟨G, h₀, envOf (dr1 12).name (dr1 12).scope L a cd, ok, 2, False, envOf (dr1 12).name (dr1 12).scope L a cd :: fs⟩ (A.mark (some (.ref e))) := ⟨R.d, R.u, fun q => q.elim, R.fr⟩
      have S'' := S'.ext f''.ext
      refine SSH.run (X := ⟨G, h₀, envOf (dr1 12).name (dr1 12).scope L a cd, ok, 2, False, envOf (dr1 12).name (dr1 12).scope L a cd :: fs⟩) (σ := toldSt bias ns (endsI 0 segs) (octsI segs).length) (P := fun fl _ => fl = .ret (.lst (endsI 0 segs ++ [.tup [.int ((ns.length : Int) + 1), .none], .tup [.int ((ns.length : Int) + 1), .none]]))) ?_ R' S'' rfl (f''.chainU g1 g2 g3) ?_
      · clear O
        refine SSH.cons ?_
        refine S1H.for O' (by rfl) ?_ (by intro _ _; rfl)
        repeat walk_at "pw"
        refine ⟨Nat.le_of_ble_eq_true rfl, _, rfl, fun i σ' => σ' = toldSt bias ns (endsI 0 segs ++ List.replicate i (.tup [.int ((ns.length : Int) + 1), .none])) (octsI segs).length, ⟨_, (Sub.cons (by rfl) (Sub.cons (by rfl) (Sub.cons (by rw [List.replicate_zero, List.append_nil]; rfl) (Sub.cons (by rfl) Sub.nil)))), rfl⟩, ?_, ?_⟩
        · rintro i d σ' hdi rfl
          have hw : ∃ w : Str, d = .str w ∧ (w == Str.ofString "strict") = false := by
            match i, hdi with
            | 0, hdi => cases hdi; exact ⟨_, rfl, by decide⟩
            | 1, hdi => cases hdi; exact ⟨_, rfl, by decide⟩
          have hi : i < 2 := by
            match i, hdi with
            | 0, _ => decide
            | 1, _ => decide
          obtain ⟨w, rfl, hw⟩ := hw
          refine SSH.cons (S1H.append O' (by rfl) (by rw [List.length_append, endsI_length, List.length_replicate]; omega) ?_ (by rfl) (by rfl))
          refine SEH.call (k := 2) O' ?_ F.hD.fn (Nat.le_of_ble_eq_true rfl) (by rfl)
          repeat walk_at "pw"
          refine SpecH.mono (decode_skips F hw hr (Nat.le_trans hz (by decide)) ht hp hd) ?_
          rintro _ rfl
          refine SSH.ofSS ?_
          repeat walk_at "pw"
          refine ⟨_, ?_, rfl⟩
          rw [List.replicate_succ', ← List.append_assoc]
          exact (Sub.cons (by rfl) (Sub.cons (by rfl) (Sub.cons (by rfl) (Sub.cons (by rfl) Sub.nil))))
        · rintro σ' rfl
          refine SSH.ofSS ?_
          repeat walk_at "pw"
          rfl
      · intro fl fl' σ' m2 h2 t2 hp hf S2 st2
        subst hp
        cases hf with
        | ret r => exact hK _ _ _ _ _ _ rfl (.ret r) S2 ((st.trans (.ofExt f''.ext)).trans st2)
  · intro pm code doc vs hl
    match vs, hl with
    | [_, _], _ => rfl
theorem one_shl (k : Nat) : (1 : Int) * 2 ^ ((k : Int) - 1).toNat = ((2 ^ (k - 1) : Nat) : Int) := by
  have := shl_nat 1 k
  rwa [Nat.one_mul] at this
theorem one_shl' {k : Int} {j : Nat} (h : k = j) : (1 : Int) * 2 ^ k.toNat = ((2 ^ j : Nat) : Int) := by
  have := shl_nat' 1 h
  rwa [Nat.one_mul] at this
theorem times_spec {G : GG} (F : Fns1 G) {a b : Nat} (hb0 : b ≠ 0) (ha : bl a ≤ 100000) (hb : bl b ≤ 100000) : Spec G 2 True (Str.ofString "_law_times") [.int a, .int b] (fun d => d = .int (cm a b : Nat)) := by
  refine Spec.intro (d := dr1 14) (k := 1) (σ := [(Str.ofString "other", .fr (.int b)), (Str.ofString "number", .fr (.int a))]) F.GO F.ht ?_ ?_ (by rfl) (by decide +kernel) (by rfl) (by rfl) (by rfl) (by decide +kernel)
  · intro h₀ L ad cd ok fs O
    refine SS.to [(Str.ofString "other", .fr (.int b)), (Str.ofString "number", .fr (.int a)), (Str.ofString "total", .fr (.int ((0 : Nat) : Int)))] ?_ ?_
    · repeat walk_at "pw"
      exact ⟨rfl, (Sub.cons (by rfl) (Sub.cons (by rfl) (Sub.cons (by rfl) Sub.nil)))⟩
    refine SS.cons ?_
    refine S1.while (fun n σ' => ∃ t o : Nat, n = bl o ∧ t ^^^ cm a o = cm a b ∧ o ≠ 0 ∧ bl o ≤ bl b ∧ σ' = [(Str.ofString "other", .fr (.int o)), (Str.ofString "number", .fr (.int a)), (Str.ofString "total", .fr (.int t))]) ?_ ?_
    · exact ⟨_, _, (Sub.cons (by rfl) (Sub.cons (by rfl) (Sub.cons (by rfl) Sub.nil))), 0, b, rfl, Nat.zero_xor _, hb0, Nat.le_refl _, rfl⟩
    · rintro n σ' ⟨t, o, rfl, ht, ho, hbo, rfl⟩
      have hpo := bl_pos ho
      repeat walk_at "pw"
      rw [isbI_nat]
      cases hs : sb o with
      | false =>
        rw [if_pos (show (!false) = true from rfl)]
        refine SS.cons ?_
        repeat walk_at "pw"
        rw [intBits_nat]
        refine ⟨by omega, by rw [intBits_nat]; omega, ?_⟩
        rw [shl_nat]
        repeat walk_at "pw"
        refine ⟨by omega, by rw [show Builtin.Int.intBits 1 = 1 from rfl]; omega, ?_⟩
        rw [one_shl, bitXor_nat]
        repeat walk_at "pw"
        rw [bitXor_nat]
        have hlt : bl (o ^^^ 2 ^ (bl o - 1)) < bl o := bl_xor_eq (by rw [bl_eq (k := bl o - 1) (Nat.le_refl _) (by rw [Nat.pow_succ]; have := Nat.two_pow_pos (bl o - 1); omega)]; omega) ho
        refine ⟨_, hlt, _, ?_, t ^^^ a * 2 ^ (bl o - 1), o ^^^ 2 ^ (bl o - 1), rfl, ?_, sb_not hs ho, by omega, rfl⟩
        · exact (Sub.cons (by rfl) (Sub.cons (by rfl) (Sub.cons (by rfl) Sub.nil)))
        · rw [cm_xor_right, cm_pow, Nat.xor_comm (cm a o), ← Nat.xor_assoc, xor_cancel, ht]
      | true =>
        rw [if_neg (show ¬ (!true) = true from Bool.false_ne_true)]
        repeat walk_at "pw"
        rw [intBits_nat]
        refine ⟨by omega, by rw [intBits_nat]; omega, ?_⟩
        rw [shl_nat]
        repeat walk_at "pw"
        rw [bitXor_nat, ← ht]
        have e := (sb_pow hs).2
        refine congrArg D.int (congrArg (fun x : Nat => (x : Int)) ?_)
        conv => rhs; rw [e]
        rw [cm_pow]
  · intro pm code doc vs hl
    match vs, hl with
    | [_, _], _ => rfl
theorem bitOr_nat (a b : Nat) : Builtin.bitOr (a : Int) (b : Int) = ((a ||| b : Nat) : Int) := by
  have nn : ∀ x : Nat, Builtin.bitNot (Builtin.bitNot (x : Int)) = x := fun x => by unfold Builtin.bitNot; omega
  have h : ∀ x : Nat, decide (0 ≤ Builtin.bitNot (x : Int)) = false := fun x => decide_eq_false (by unfold Builtin.bitNot; omega)
  unfold Builtin.bitOr Builtin.bitAnd
  rw [h, h]
  dsimp only
  rw [nn, nn, nn, Int.toNat_natCast, Int.toNat_natCast]

theorem stp_mod (r n : Nat) : stp r % 2 ^ n = stp (r % 2 ^ (n + 1)) % 2 ^ n := by
  have e1 : r % 2 ^ (n + 1) % 2 = r % 2 := by
    rw [Nat.pow_succ, Nat.mul_comm, Nat.mod_mul_right_mod]
  have e2 : r % 2 ^ (n + 1) / 2 = r / 2 % 2 ^ n := by
    rw [Nat.pow_succ, Nat.mul_comm, Nat.mod_mul_right_div_self]
  unfold stp
  rw [e1, e2]
  split
  · rw [Nat.xor_mod_two_pow, Nat.xor_mod_two_pow, Nat.mod_mod]
  · rw [Nat.mod_mod]
theorem stps_mod (t : Nat) : ∀ (r n : Nat), stps t r % 2 ^ n = stps t (r % 2 ^ (n + t)) % 2 ^ n := by
  induction t with
  | zero => intro r n; rw [Nat.add_zero]; show r % _ = r % _ % _; rw [Nat.mod_mod]
  | succ t ih =>
    intro r n
    show stps t (stp r) % 2 ^ n = stps t (stp (r % 2 ^ (n + (t + 1)))) % 2 ^ n
    rw [ih (stp r) n, ih (stp (r % _)) n, ← Nat.add_assoc, ← stp_mod r (n + t)]
/-- does one fall -/
def fb (R k : Nat) : Bool := decide (stps k R % 2 = 1)
def msk (t : Nat) : Nat := 2 ^ t ||| 2 ^ t / 64
theorem and_low {r m : Nat} (h : m < 256) : r &&& m = (r % 256) &&& m := by
  apply Nat.eq_of_testBit_eq
  intro i
  rw [Nat.testBit_and, Nat.testBit_and]
  by_cases hi : i < 8
  · rw [show (256 : Nat) = 2 ^ 8 from rfl, Nat.testBit_mod_two_pow, decide_eq_true hi, Bool.true_and]
  · have : m.testBit i = false := Nat.testBit_lt_two_pow (Nat.lt_of_lt_of_le h (Nat.le_trans (show 256 ≤ 2 ^ 8 from Nat.le_refl _) (Nat.pow_le_pow_right (by decide) (by omega))))
    rw [this, Bool.and_false, Bool.and_false]
theorem fell_all : (List.range 8).all (fun t => (List.range 256).all fun r => sb (r &&& msk t) == decide (stps t r % 2 = 1)) = true := by decide +kernel
theorem fell {r t : Nat} (h : t < 8) : sb (r &&& msk t) = decide (stps t r % 2 = 1) := by
  have h1 := List.all_eq_true.mp fell_all t (List.mem_range.mpr h)
  have h2 := List.all_eq_true.mp h1 (r % 256) (List.mem_range.mpr (Nat.mod_lt _ (by decide)))
  have h2 := beq_iff_eq.mp h2
  have hm : msk t < 256 := by
    match t, h with
    | 0, _ => decide
    | 1, _ => decide
    | 2, _ => decide
    | 3, _ => decide
    | 4, _ => decide
    | 5, _ => decide
    | 6, _ => decide
    | 7, _ => decide
  rw [and_low hm, h2]
  have e1 := stps_mod t r 1
  have e2 := stps_mod t (r % 256) 1
  have e3 : r % 256 % 2 ^ (1 + t) = r % 2 ^ (1 + t) := by
    rw [show (256 : Nat) = 2 ^ (1 + t) * 2 ^ (7 - t) by rw [← Nat.pow_add, show 1 + t + (7 - t) = 8 by omega], Nat.mod_mul_right_mod]
  rw [e3] at e2
  rw [Nat.pow_one] at e1 e2
  rw [e1, e2]

theorem cells_spec {G : GG} (F : Fns1 G) {ns : List Int} (hz : ns.length ≤ 1000) : Spec G 1 True (Str.ofString "_law_cells") [.lst (ns.map .int)] (fun d => ∃ a b c e : Nat, a < 2 ^ 32 ∧ b < 2 ^ 32 ∧ c < 2 ^ 32 ∧ e < 2 ^ 32 ∧ d = .lst [.int a, .int b, .int c, .int e]) := by
  refine Spec.intro (d := dr1 9) (k := 0) (σ := [(Str.ofString "script", .fr (.lst (ns.map .int)))]) F.GO F.hc ?_ ?_ (by rfl) (by decide +kernel) (by rfl) (by rfl) (by rfl) (by decide +kernel)
  · intro h₀ L ad cd ok fs O
    refine SS.to [(Str.ofString "script", .fr (.lst (ns.map .int))), (Str.ofString "cells", .ow ([1, 112, 5, 11].map .int))] ?_ ?_
    · repeat walk_at "pw"
      exact ⟨Nat.le_of_ble_eq_true rfl, rfl, (Sub.cons (by rfl) (Sub.cons (by rfl) Sub.nil))⟩
    refine SS.cons ?_
    refine S1.for O trivial ?_ (by rfl)
    repeat walk_at "pw"
    refine ⟨by rw [List.length_map]; exact Nat.le_trans hz (by decide), ?_⟩
    rw [List.length_map]
    repeat walk_at "pw"
    · refine ⟨_, if_pos (Nat.le_trans (show _ ≤ 1000 by omega) (by decide)), fun i σ' => ∃ cs : List Int, cs.length = 4 ∧ σ' = [(Str.ofString "script", .fr (.lst (ns.map .int))), (Str.ofString "cells", .ow (cs.map .int))], ⟨_, (Sub.cons (by rfl) (Sub.cons (by rfl) Sub.nil)), [1, 112, 5, 11], rfl, rfl⟩, ?_, ?_⟩
      · rintro i d σ' hd ⟨cs, hcs, rfl⟩
        have hi : i < ns.length := by
          have := (List.getElem?_eq_some_iff.mp hd).1
          simpa using this
        have hd' : d = .int (i : Nat) := by
          have := (List.getElem?_eq_some_iff.mp hd).2
          simpa using this.symm
        subst hd'
        show SS _ _ _ _
        refine SS.cons ?_
        refine S1.augSub O (by rfl) ?_ (by rfl)
        repeat walk_at "pw"
        refine ⟨by decide, ?_⟩
        rw [fmod_pos (by decide : (0 : Int) < 4)]
        have h3 : ((i : Int) % 4).toNat < cs.length := by omega
        refine ⟨by omega, by omega, cs[((i : Int) % 4).toNat], ?_, ?_⟩
        · rw [List.getElem?_map, List.getElem?_eq_getElem h3]; rfl
        repeat walk_at "pw"
        refine .inl ⟨by omega, by omega, .int (ns[i]), ?_, ?_⟩
        · rw [Int.toNat_natCast, List.getElem?_map, List.getElem?_eq_getElem hi]; rfl
        repeat walk_at "pw"
        refine ⟨_, ?_, cs.set ((i : Int) % 4).toNat (cs[((i : Int) % 4).toNat] + ns[i]), by rw [List.length_set]; exact hcs, rfl⟩
        rw [List.map_set]
        exact (Sub.cons (by rfl) (Sub.cons (by rfl) Sub.nil))
      · rintro σ' ⟨cs, hcs, rfl⟩
        refine SS.freeze (x := Str.ofString "cells") (by rfl) ?_
        repeat walk_at "pw"
        refine SE.comp O trivial ?_ (by intro _ _ _; rfl) (by decide +kernel) (by decide +kernel) (by rfl) (by decide +kernel)
        repeat walk_at "pw"
        match cs, hcs with
        | [a, b, c, e], _ =>
          have key : ∀ x : Int, ∃ n : Nat, n < 2 ^ 32 ∧ x.fmod 4294967296 = n := fun x => by
            rw [fmod_pos (by decide)]
            exact ⟨(x % 4294967296).toNat, by omega, by omega⟩
          obtain ⟨na, ha, ea⟩ := key a
          obtain ⟨nb, hb, eb⟩ := key b
          obtain ⟨nc, hc, ec⟩ := key c
          obtain ⟨ne, he, ee⟩ := key e
          refine ⟨_, [.int na, .int nb, .int nc, .int ne], rfl, rfl, by show 4 ≤ 1000000; decide, ?_, ⟨na, nb, nc, ne, ha, hb, hc, he, rfl⟩, ?_⟩
          · intro r hr
            simp only [List.mem_cons, List.not_mem_nil, or_false] at hr
            rcases hr with rfl | rfl | rfl | rfl <;> trivial
          · intro i d r hd hr h₀ e' ok O'
            obtain ⟨x, n, rfl, rfl, hx⟩ : ∃ (x : Int) (n : Nat), d = .int x ∧ r = .int n ∧ x.fmod 4294967296 = n := by
              match i, hd, hr with
              | 0, hd, hr => cases hd; cases hr; exact ⟨_, _, rfl, rfl, ea⟩
              | 1, hd, hr => cases hd; cases hr; exact ⟨_, _, rfl, rfl, eb⟩
              | 2, hd, hr => cases hd; cases hr; exact ⟨_, _, rfl, rfl, ec⟩
              | 3, hd, hr => cases hd; cases hr; exact ⟨_, _, rfl, rfl, ee⟩
            show SE _ _ _ _ _
            repeat walk_at "pw"
            refine ⟨by decide, by decide, by decide, ?_⟩
            repeat walk_at "pw"
            refine ⟨by decide, ?_⟩
            rw [show (2 : Int) ^ (32 : Int).toNat = 4294967296 from rfl, hx]
    · omega
  · intro pm code doc vs hl
    match vs, hl with
    | [_], _ => rfl

theorem fallen_spec {G : GG} (F : Fns1 G) (R : Nat) : Spec G 2 True (Str.ofString "_law_fallen") [.int R] (fun d => d = .tup [.lst ((List.range 64).map fun k => .bool (fb R k)), .int (stps 64 R : Nat)]) := by
  refine Spec.intro (d := dr1 10) (k := 1) (σ := [(Str.ofString "register", .fr (.int R))]) F.GO F.hf ?_ ?_ (by rfl) (by decide +kernel) (by rfl) (by rfl) (by rfl) (by decide +kernel)
  · intro h₀ L ad cd ok fs O
    refine SS.to [(Str.ofString "register", .fr (.int (stps (8 * 0) R : Nat))), (Str.ofString "fallen", .ow ((List.range (8 * 0)).map fun k => .bool (fb R k)))] ?_ ?_
    · repeat walk_at "pw"
      exact ⟨Nat.zero_le _, rfl, (Sub.cons (by rfl) (Sub.cons (by rfl) Sub.nil))⟩
    refine SS.to [(Str.ofString "register", .fr (.int (stps (8 * 8) R : Nat))), (Str.ofString "fallen", .ow ((List.range (8 * 8)).map fun k => .bool (fb R k)))] ?_ ?_
    · refine S1.for O trivial ?_ (by rfl)
      repeat walk_at "pw"
      · refine ⟨_, rfl, fun i σ' => σ' = [(Str.ofString "register", .fr (.int (stps (8 * i) R : Nat))), (Str.ofString "fallen", .ow ((List.range (8 * i)).map fun k => .bool (fb R k)))], ⟨_, (Sub.cons (by rfl) (Sub.cons (by rfl) Sub.nil)), rfl⟩, ?_, ?_⟩
        · rintro i d σ' hd rfl
          have hi : i < 8 := by have := (List.getElem?_eq_some_iff.mp hd).1; simpa using this
          show SS _ _ _ _
          refine SS.to [(Str.ofString "register", .fr (.int (stps (8 * i) R : Nat))), (Str.ofString "fallen", .ow ((List.range (8 * i + 8)).map fun k => .bool (fb R k)))] ?_ ?_
          · refine S1.for O trivial ?_ (by rfl)
            repeat walk_at "pw"
            · refine ⟨_, rfl, fun j σ' => σ' = [(Str.ofString "register", .fr (.int (stps (8 * i) R : Nat))), (Str.ofString "fallen", .ow ((List.range (8 * i + j)).map fun k => .bool (fb R k)))], ⟨_, (Sub.cons (by rfl) (Sub.cons (by rfl) Sub.nil)), rfl⟩, ?_, ?_⟩
              · rintro j d σ' hd rfl
                have hj : j < 8 := by have := (List.getElem?_eq_some_iff.mp hd).1; simpa using this
                have hd' : d = .int (j : Nat) := by
                  have := (List.getElem?_eq_some_iff.mp hd).2
                  simpa using this.symm
                subst hd'
                show SS _ _ _ _
                refine SS.to [(Str.ofString "register", .fr (.int (stps (8 * i) R : Nat))), (Str.ofString "fallen", .ow ((List.range (8 * i + j)).map fun k => .bool (fb R k))), (Str.ofString "one", .fr (.int (2 ^ j : Nat)))] ?_ ?_
                · repeat walk_at "pw"
                  refine ⟨by omega, by rw [show Builtin.Int.intBits 1 = 1 from rfl]; omega, ?_⟩
                  rw [one_shl' (k := (j : Int)) (j := j) rfl]
                  exact ⟨rfl, (Sub.cons (by rfl) (Sub.cons (by rfl) (Sub.cons (by rfl) Sub.nil)))⟩
                refine SS.cons ?_
                repeat walk_at "pw"
                · rw [List.length_map, List.length_range]; omega
                · repeat walk_at "pw"
                  refine ⟨by decide, ?_⟩
                  repeat walk_at "pw"
                  have e6 : ((2 ^ j : Nat) : Int).fdiv (2 ^ (6 : Int).toNat) = ((2 ^ j / 64 : Nat) : Int) := by
                    have := fdiv_nat (2 ^ j) 6
                    simpa using this
                  rw [e6, bitOr_nat, bitAnd_nat, isbI_nat]
                  have ef := fell (r := stps (8 * i) R) hj
                  rw [show msk j = 2 ^ j ||| 2 ^ j / 64 from rfl] at ef
                  rw [ef, stps_add]
                  refine ⟨_, ?_, rfl⟩
                  have e : ((List.range (8 * i + (j + 1))).map fun k => D.bool (fb R k)) = ((List.range (8 * i + j)).map fun k => D.bool (fb R k)) ++ [.bool (decide (stps (8 * i + j) R % 2 = 1) == true)] := by
                    rw [← Nat.add_assoc, List.range_succ, List.map_append, (show ∀ b : Bool, (b == true) = b from by decide)]; rfl
                  rw [e]
                  exact (Sub.cons (by rfl) (Sub.cons (by rfl) Sub.nil))
              · rintro σ' rfl
                rw [List.length_map, List.length_range]
                exact ⟨rfl, (Sub.cons (by rfl) (Sub.cons (by rfl) Sub.nil))⟩
            · decide
          refine SS.cons ?_
          repeat walk_at "pw"
          refine ⟨_, ?_, rfl⟩
          rw [stps_add, show 8 * i + 8 = 8 * (i + 1) by omega]
          exact (Sub.cons (by rfl) (Sub.cons (by rfl) Sub.nil))
        · rintro σ' rfl
          exact ⟨rfl, (Sub.cons (by rfl) (Sub.cons (by rfl) Sub.nil))⟩
      · decide
    repeat walk_at "pw"
    exact ⟨Nat.le_of_ble_eq_true rfl, rfl⟩
  · intro pm code doc vs hl
    match vs, hl with
    | [_], _ => rfl
section
local macro_rules | `(tactic| walk_at "pw") => `(tactic| first
  | ((with_reducible refine SE.cmp ?_ ?_); rotate_left; with_unfolding_all rfl; rotate_right)
  | ((with_reducible refine SE.sub ?_ ?_); rotate_left; (intro _ _; rfl); rotate_right)
  | ((with_reducible refine SE.bitlen ?_ ?_ ?_); rotate_left; (intro _; rfl); rfl; rotate_right)
  | ((with_reducible refine ST.cmp ?_ ?_); rotate_left; with_unfolding_all rfl; rotate_right)
  | ((with_reducible refine ST.chain ?_ ?_); rotate_left; with_unfolding_all rfl; rotate_right)
  | ((with_reducible refine SEs.cons ?_ ?_); rotate_left; (intro _; rfl); rotate_right)
  | ((with_reducible show BSpec _ _ _ (.type "bytes") _ _); refine BSpec.bytes trivial ?_ ?_ ?_)
  | ((with_reducible show SE _ _ _ (.Call (.Name (Str.ofString "_law_times") _) _ [] _) _); refine SE.call (k := 2) (nh := True) ‹_› ?_ ‹Fns1 _›.ht.fn (Nat.le_of_ble_eq_true rfl) (fun _ => trivial) (by rfl)))

abbrev rowSt (f : Nat → Bool) (bias first step : Int) (fs cur : List Int) (segs : List (Int × List Int)) : Mine.Loc :=
  [(Str.ofString "fallen", .fr (.lst ((List.range 64).map fun k => D.bool (f k)))), (Str.ofString "bias", .fr (.int bias)), (Str.ofString "first", .fr (.int first)), (Str.ofString "step", .fr (.int step)),
   (Str.ofString "octets", .ow ((fs.map oct).map .int)), (Str.ofString "due", .ow (endsI 0 segs)), (Str.ofString "ahead", .ow (pairs bias 0 cur))]

theorem row_spec {G : GG} (F : Fns1 G) (f : Nat → Bool) (bias : Int) {first step : Int} (hs0 : 0 ≤ step) (hs1 : step < 2 ^ 32) :
    Spec G 1 True (Str.ofString "_law_row") [.lst ((List.range 64).map fun k => .bool (f k)), .int bias, .int first, .int step]
      (fun d => ∃ segs tl, SegsI bias segs ∧ Opn bias 0 tl ∧ (octsI segs ++ tl).length = 64 ∧ hear 0 0 segs = hv f 64 ∧ d = .tup [.bytes (byteArr (octsI segs ++ tl)), .lst (endsI 0 segs)]) := by
  refine Spec.intro (d := dr1 11) (k := 0) (σ := [(Str.ofString "step", .fr (.int step)), (Str.ofString "first", .fr (.int first)), (Str.ofString "bias", .fr (.int bias)), (Str.ofString "fallen", .fr (.lst ((List.range 64).map fun k => D.bool (f k))))]) F.GO F.hw ?_ ?_ (by rfl) (by decide +kernel) (by rfl) (by rfl) (by rfl) (by decide +kernel)
  · intro h₀ L ad cd ok fs' O
    refine SS.to (rowSt f bias first step [] [] []) ?_ ?_
    · refine S1.slots (xs := [Str.ofString "octets", Str.ofString "due", Str.ofString "ahead"]) O trivial (by show ∀ x ∈ _, (dr1 11).scope.names.lookup x = some .local; decide +kernel) ?_ (by decide) (by rfl) (by rfl)
      refine SD.ow (SD.ow (SD.ow (SD.nil ⟨rfl, rfl, ?_⟩)))
      exact (Sub.cons (by rfl) (Sub.cons (by rfl) (Sub.cons (by rfl) (Sub.cons (by rfl) (Sub.cons (by rfl) (Sub.cons (by rfl) (Sub.cons (by rfl) Sub.nil)))))))
    refine SS.cons ?_
    refine S1.for O trivial ?_ (by rfl)
    repeat walk_at "pw"
    refine ⟨by rw [List.length_map, List.length_range]; decide, ?_⟩
    rw [List.length_map, List.length_range]
    repeat walk_at "pw"
    · refine ⟨_, rfl, fun i σ' => ∃ fs cur segs, RowSt bias fs segs cur ∧ fs.length = i ∧ hear 0 0 segs = hv f i ∧ σ' = rowSt f bias first step fs cur segs, ⟨_, fun _ _ h => h, [], [], [], .nil, rfl, rfl, rfl⟩, ?_, ?_⟩
      · rintro i d σ' hd ⟨fs, cur, segs, hR, hfi, hh, rfl⟩
        have hi : i < 64 := by have := (List.getElem?_eq_some_iff.mp hd).1; simpa using this
        have hd' : d = .int (i : Nat) := by
          have := (List.getElem?_eq_some_iff.mp hd).2
          simpa using this.symm
        subst hd'
        have hlen := hR.len
        have hcnt := hR.ok.count
        have htau1 := tau_ge bias cur.length
        have htau2 := tau_le bias cur.length
        show SS _ _ _ _
        refine SS.to (rowSt f bias first step fs cur segs ++ [(Str.ofString "k", .fr (.int (i : Nat))), (Str.ofString "low", .fr (.int (tau bias cur.length)))]) ?_ ?_
        · refine S1.assign O (SE.flat ?_) (by rfl)
          repeat walk_at "pw"
          refine ⟨by rw [pairs_length]; omega, ?_⟩
          repeat walk_at "pw"
          refine ⟨.of_left (by decide), ?_⟩
          repeat walk_at "pw"
          rw [pairs_length, tau_mm bias cur.length _ (by omega)]
          exact ⟨trivial, rfl, (Sub.cons (by rfl) (Sub.cons (by rfl) (Sub.cons (by rfl) (Sub.cons (by rfl) (Sub.cons (by rfl) (Sub.cons (by rfl) (Sub.cons (by rfl) (Sub.cons (by rfl) (Sub.cons (by rfl) Sub.nil)))))))))⟩
        refine SS.to (rowSt f bias first step fs cur segs ++ [(Str.ofString "k", .fr (.int (i : Nat))), (Str.ofString "low", .fr (.int (tau bias cur.length))), (Str.ofString "pick", .fr (.int (first + step * (i : Nat))))]) ?_ ?_
        · repeat walk_at "pw"
          refine ⟨.of_left (intBits_le_64 (by omega) (by omega)), ?_⟩
          repeat walk_at "pw"
          exact ⟨rfl, (Sub.cons (by rfl) (Sub.cons (by rfl) (Sub.cons (by rfl) (Sub.cons (by rfl) (Sub.cons (by rfl) (Sub.cons (by rfl) (Sub.cons (by rfl) (Sub.cons (by rfl) (Sub.cons (by rfl) (Sub.cons (by rfl) Sub.nil))))))))))⟩
        generalize hpick : first + step * ((i : Nat) : Int) = pick
        -- the branch
        refine SS.cons ?_
        refine S1.mono (P := fun fl σ' => fl = .next ∧ ∃ (d : Int) (cur' : List Int) (segs' : List (Int × List Int)), 0 ≤ d ∧ d < 36 ∧ RowSt bias (fs ++ [d]) segs' cur' ∧ hear 0 0 segs' = hv f (i + 1) ∧ Sub (rowSt f bias first step fs cur' segs' ++ [(Str.ofString "figure", .fr (.int d))]) σ') ?_ ?_
        · repeat walk_at "pw"
          refine .inl ⟨by omega, by omega, .bool (f i), ?_, ?_⟩
          · rw [Int.toNat_natCast, List.getElem?_map, List.getElem?_range hi]; rfl
          repeat walk_at "pw"
          cases hf : f i with
          | true =>
            rw [if_pos rfl]
            have hp1 : 0 ≤ pick.fmod (tau bias cur.length) := by rw [fmod_pos (by omega)]; exact Int.emod_nonneg _ (by omega)
            have hp2 : pick.fmod (tau bias cur.length) < tau bias cur.length := by rw [fmod_pos (by omega)]; exact Int.emod_lt_of_pos _ (by omega)
            generalize hdg : pick.fmod (tau bias cur.length) = d at hp1 hp2
            refine SS.to (rowSt f bias first step fs cur segs ++ [(Str.ofString "k", .fr (.int (i : Nat))), (Str.ofString "figure", .fr (.int d))]) ?_ ?_
            · repeat walk_at "pw"
              refine ⟨by omega, ?_⟩
              rw [hdg]
              exact ⟨rfl, (Sub.cons (by rfl) (Sub.cons (by rfl) (Sub.cons (by rfl) (Sub.cons (by rfl) (Sub.cons (by rfl) (Sub.cons (by rfl) (Sub.cons (by rfl) (Sub.cons (by rfl) (Sub.cons (by rfl) Sub.nil)))))))))⟩
            refine SS.to (rowSt f bias first step fs cur segs ++ [(Str.ofString "k", .fr (.int (i : Nat))), (Str.ofString "figure", .fr (.int d)), (Str.ofString "number", .fr (.int (valI bias cur.length [] d)))]) ?_ ?_
            · repeat walk_at "pw"
              exact ⟨rfl, (Sub.cons (by rfl) (Sub.cons (by rfl) (Sub.cons (by rfl) (Sub.cons (by rfl) (Sub.cons (by rfl) (Sub.cons (by rfl) (Sub.cons (by rfl) (Sub.cons (by rfl) (Sub.cons (by rfl) (Sub.cons (by rfl) Sub.nil))))))))))⟩
            refine SS.to (rowSt f bias first step fs cur segs ++ [(Str.ofString "k", .fr (.int (i : Nat))), (Str.ofString "figure", .fr (.int d)), (Str.ofString "number", .fr (.int (valI bias 0 cur d)))]) ?_ ?_
            · refine S1.for O trivial ?_ (by show ∀ xs, tnames _ = some xs → ∀ x ∈ xs, (dr1 11).scope.names.lookup x = some .local; intro xs hxs; cases hxs; decide +kernel)
              refine SE.revO O (by rfl) (by rw [pairs_length]; exact Nat.le_trans (show _ ≤ 64 by omega) (by decide)) ?_ (by rfl) (by decide)
              refine ⟨_, rfl, fun j σ' => σ' = rowSt f bias first step fs cur segs ++ [(Str.ofString "k", .fr (.int (i : Nat))), (Str.ofString "figure", .fr (.int d)), (Str.ofString "number", .fr (.int (valI bias (cur.length - j) (cur.drop (cur.length - j)) d)))], ⟨_, ?_, rfl⟩, ?_, ?_⟩
              · rw [Nat.sub_zero, List.drop_length]
                exact (Sub.cons (by rfl) (Sub.cons (by rfl) (Sub.cons (by rfl) (Sub.cons (by rfl) (Sub.cons (by rfl) (Sub.cons (by rfl) (Sub.cons (by rfl) (Sub.cons (by rfl) (Sub.cons (by rfl) (Sub.cons (by rfl) Sub.nil))))))))))
              · rintro j dd σ' hdj rfl
                obtain ⟨hq, hj, rfl⟩ := pairs_rev_get hdj
                refine ⟨[Str.ofString "one", Str.ofString "worth"], rfl, rfl, ?_⟩
                refine SS.cons ?_
                repeat walk_at "pw"
                have ht1 := tau_ge bias (cur.length - 1 - j)
                have ht2 := tau_le bias (cur.length - 1 - j)
                refine ⟨.of_left (intBits_le_64 (by omega) (by omega)), ?_⟩
                repeat walk_at "pw"
                refine ⟨_, ?_, rfl⟩
                have e := valI_drop (bias := bias) (d := d) hq
                rw [show cur.length - 1 - j + 1 = cur.length - j by omega] at e
                rw [show cur.length - (j + 1) = cur.length - 1 - j by omega, e]
                exact (Sub.cons (by rfl) (Sub.cons (by rfl) (Sub.cons (by rfl) (Sub.cons (by rfl) (Sub.cons (by rfl) (Sub.cons (by rfl) (Sub.cons (by rfl) (Sub.cons (by rfl) (Sub.cons (by rfl) (Sub.cons (by rfl) Sub.nil))))))))))
              · rintro σ' rfl
                rw [List.length_reverse, pairs_length, Nat.sub_self, List.drop_zero]
                exact ⟨rfl, (Sub.cons (by rfl) (Sub.cons (by rfl) (Sub.cons (by rfl) (Sub.cons (by rfl) (Sub.cons (by rfl) (Sub.cons (by rfl) (Sub.cons (by rfl) (Sub.cons (by rfl) (Sub.cons (by rfl) (Sub.cons (by rfl) Sub.nil))))))))))⟩
            have hR' := hR.last hp1 hp2
            have hpos : (octsI segs).length + (cur.length + 1) = i + 1 := by omega
            have ee : endsI 0 (segs ++ [(valI bias 0 cur d, (cur ++ [d]).map oct)]) = endsI 0 segs ++ [.tup [.int ((i : Int) + 1), .int (valI bias 0 cur d)]] := by
              rw [endsI_append, Nat.zero_add]
              show _ ++ [D.tup [.int (((octsI segs).length + ((cur ++ [d]).map oct).length : Nat) : Int), _]] = _
              rw [List.length_map, List.length_append, List.length_singleton, hpos]
              rfl
            refine SS.to (rowSt f bias first step fs cur (segs ++ [(valI bias 0 cur d, (cur ++ [d]).map oct)]) ++ [(Str.ofString "figure", .fr (.int d))]) ?_ ?_
            · repeat walk_at "pw"
              · refine ⟨Nat.le_of_ble_eq_true rfl, ?_⟩
                rw [← ee]
                exact ⟨rfl, (Sub.cons (by rfl) (Sub.cons (by rfl) (Sub.cons (by rfl) (Sub.cons (by rfl) (Sub.cons (by rfl) (Sub.cons (by rfl) (Sub.cons (by rfl) (Sub.cons (by rfl) Sub.nil))))))))⟩
              · rw [endsI_length]; omega
            repeat walk_at "pw"
            refine ⟨Nat.zero_le _, SS.nil ⟨rfl, d, [], _, hp1, by omega, hR', ?_, (Sub.cons (by rfl) (Sub.cons (by rfl) (Sub.cons (by rfl) (Sub.cons (by rfl) (Sub.cons (by rfl) (Sub.cons (by rfl) (Sub.cons (by rfl) (Sub.cons (by rfl) Sub.nil))))))))⟩⟩
            rw [hear_append, hh]
            show hv f i ||| 2 ^ (0 + (octsI segs).length + ((cur ++ [d]).map oct).length - 1) = _
            rw [List.length_map, List.length_append, List.length_singleton, Nat.zero_add, hpos, Nat.add_sub_cancel, or_xor (hv_lt f i), hv, hf, if_pos rfl]
          | false =>
            rw [if_neg Bool.false_ne_true]
            have hq0 : (36 : Int) - tau bias cur.length > 0 := by omega
            have hp1 : 0 ≤ pick.fmod (36 - tau bias cur.length) := by rw [fmod_pos hq0]; exact Int.emod_nonneg _ (by omega)
            have hp2 : pick.fmod (36 - tau bias cur.length) < 36 - tau bias cur.length := by rw [fmod_pos hq0]; exact Int.emod_lt_of_pos _ hq0
            generalize hdg : pick.fmod (36 - tau bias cur.length) = e at hp1 hp2
            refine SS.to (rowSt f bias first step fs cur segs ++ [(Str.ofString "low", .fr (.int (tau bias cur.length))), (Str.ofString "figure", .fr (.int (tau bias cur.length + e)))]) ?_ ?_
            · repeat walk_at "pw"
              refine ⟨by omega, ?_⟩
              rw [hdg]
              repeat walk_at "pw"
              exact ⟨rfl, (Sub.cons (by rfl) (Sub.cons (by rfl) (Sub.cons (by rfl) (Sub.cons (by rfl) (Sub.cons (by rfl) (Sub.cons (by rfl) (Sub.cons (by rfl) (Sub.cons (by rfl) (Sub.cons (by rfl) Sub.nil)))))))))⟩
            refine SS.cons ?_
            repeat walk_at "pw"
            · refine ⟨Nat.le_of_ble_eq_true rfl, ?_⟩
              repeat walk_at "pw"
              refine ⟨rfl, tau bias cur.length + e, cur ++ [tau bias cur.length + e], segs, by omega, by omega, hR.more (by omega) (by omega) (by omega), ?_, ?_⟩
              · rw [hv, hf, if_neg Bool.false_ne_true, Nat.xor_zero, hh]
              · have e2 : pairs bias 0 cur ++ [.tup [.int (tau bias cur.length + e), .int (36 - tau bias cur.length)]] = pairs bias 0 (cur ++ [tau bias cur.length + e]) := by rw [pairs_snoc, Nat.zero_add]
                rw [e2]
                exact (Sub.cons (by rfl) (Sub.cons (by rfl) (Sub.cons (by rfl) (Sub.cons (by rfl) (Sub.cons (by rfl) (Sub.cons (by rfl) (Sub.cons (by rfl) (Sub.cons (by rfl) Sub.nil))))))))
            · rw [pairs_length]; omega
        · rintro fl σ' ⟨rfl, d, cur', segs', hd0, hd1, hR', hh', hsub⟩
          refine SS.sub hsub ?_
          refine SS.cons ?_
          repeat walk_at "pw"
          · have key : ∀ c, c = oct d → ∃ σ₄, Sub σ₄ (upd (rowSt f bias first step fs cur' segs' ++ [(Str.ofString "figure", .fr (.int d))]) (Str.ofString "octets") (.ow ((fs.map oct).map D.int ++ [.int c]))) ∧
                ∃ fs cur segs, RowSt bias fs segs cur ∧ fs.length = i + 1 ∧ hear 0 0 segs = hv f (i + 1) ∧ σ₄ = rowSt f bias first step fs cur segs := by
              rintro c rfl
              refine ⟨_, ?_, fs ++ [d], cur', segs', hR', by rw [List.length_append, hfi]; rfl, hh', rfl⟩
              have e : ((fs ++ [d]).map oct).map D.int = (fs.map oct).map D.int ++ [.int (oct d)] := by simp
              show Sub (rowSt f bias first step (fs ++ [d]) cur' segs') _
              unfold rowSt
              rw [e]
              exact (Sub.cons (by rfl) (Sub.cons (by rfl) (Sub.cons (by rfl) (Sub.cons (by rfl) (Sub.cons (by rfl) (Sub.cons (by rfl) (Sub.cons (by rfl) Sub.nil)))))))
            split
            · rename_i h
              repeat walk_at "pw"
              exact key _ (by rw [oct, if_pos (of_decide_eq_true h)])
            · rename_i h
              repeat walk_at "pw"
              exact key _ (by rw [oct, if_neg (fun q => h (decide_eq_true q))])
          · rw [List.length_map, List.length_map]; omega
      · rintro σ' ⟨fs, cur, segs, hR, hfi, hh, rfl⟩
        have hfi : fs.length = 64 := hfi
        have hall := hR.all
        have hra : ∀ n ∈ fs.map oct, 0 ≤ n ∧ n < 256 := by
          rw [hall]
          intro n hn
          rcases List.mem_append.mp hn with h | h
          · exact hR.ok.range n h
          · exact hR.op.opn.range n h
        repeat walk_at "pw"
        · exact hra
        · rw [List.length_map, hfi]; decide
        · repeat walk_at "pw"
          refine ⟨Nat.le_of_ble_eq_true rfl, segs, cur.map oct, hR.ok, hR.op.opn, ?_, hh, ?_⟩
          · rw [← hall, List.length_map, hfi]
          · rw [← hall]
    · decide
  · intro pm code doc vs hl
    match vs, hl with
    | [_, _, _, _], _ => rfl
theorem bl_shl {b k : Nat} (h : b ≠ 0) : bl (b * 2 ^ k) = bl b + k := by
  have := bl_cm (a := b) (b := 2 ^ k) h (Nat.ne_of_gt (Nat.two_pow_pos k))
  rw [cm_pow, bl_eq (k := k) (Nat.le_refl _) (by rw [Nat.pow_succ]; have := Nat.two_pow_pos k; omega)] at this
  omega
abbrev frSt (A B c f : Nat) : Mine.Loc := [(Str.ofString "above", .fr (.int A)), (Str.ofString "below", .fr (.int B)), (Str.ofString "before", .fr (.int c)), (Str.ofString "factor", .fr (.int f))]

theorem fraction_spec {G : GG} (F : Fns1 G) {H : Nat} (hH : bl H ≤ 64) : Spec G 2 True (Str.ofString "_law_fraction") [.int H]
    (fun d => ∃ A B c f : Nat, Pd H A B c f ∧ bl B ≤ 32 ∧ (H = 0 → f = 1 ∧ B = 0) ∧ d = .tup [.int B, .int f]) := by
  refine Spec.intro (d := dr1 13) (k := 1) (σ := [(Str.ofString "heard", .fr (.int H))]) F.GO F.hr ?_ ?_ (by rfl) (by decide +kernel) (by rfl) (by rfl) (by rfl) (by decide +kernel)
  · intro h₀ L ad cd ok fs O
    refine SS.to (frSt (2 ^ 64) H 0 1) ?_ ?_
    · refine S1.tup (xs := [Str.ofString "above", Str.ofString "below", Str.ofString "before", Str.ofString "factor"]) O trivial (by rfl) (by show ∀ x ∈ _, (dr1 13).scope.names.lookup x = some .local; decide +kernel) ?_ (by rfl) (by rfl)
      repeat walk_at "pw"
      refine ⟨by decide, by decide, ?_⟩
      repeat walk_at "pw"
      refine ⟨Nat.le_of_ble_eq_true rfl, rfl, rfl, ?_⟩
      exact (Sub.cons (by rfl) (Sub.cons (by rfl) (Sub.cons (by rfl) (Sub.cons (by rfl) Sub.nil))))
    refine SS.cons ?_
    refine S1.while (fun n σ' => ∃ A B c f : Nat, n = bl B ∧ Pd H A B c f ∧ (H = 0 → f = 1 ∧ B = 0) ∧ σ' = frSt A B c f) ?_ ?_
    · exact ⟨_, _, fun _ _ h => h, 2 ^ 64, H, 0, 1, rfl, Pd.start hH, fun h => ⟨rfl, h⟩, rfl⟩
    · rintro n σ' ⟨A, B, c, f, rfl, hp, h0, rfl⟩
      repeat walk_at "pw"
      rw [intBits_nat]
      have hlt := hp.lt
      have hdg := hp.dg
      have hlc := hp.lc
      by_cases hB : 33 ≤ bl B
      · rw [if_pos (decide_eq_true (by omega))]
        have hB0 : B ≠ 0 := by intro e; rw [e, bl_zero] at hB; omega
        have hH0 : H ≠ 0 := fun e => hB0 (h0 e).2
        refine SS.to (frSt A B c f ++ [(Str.ofString "shift", .fr (.int ((bl A : Int) - bl B)))]) ?_ ?_
        · repeat walk_at "pw"
          rw [intBits_nat, intBits_nat, show (bl A : Int) - 1 - ((bl B : Int) - 1) = (bl A : Int) - bl B by omega]
          exact ⟨rfl, (Sub.cons (by rfl) (Sub.cons (by rfl) (Sub.cons (by rfl) (Sub.cons (by rfl) (Sub.cons (by rfl) Sub.nil)))))⟩
        refine SS.cons ?_
        refine S1.while (fun n σ' => ∃ q a c' : Nat, n = bl a ∧ a = A ^^^ cm q B ∧ c' = c ^^^ cm q f ∧ bl a ≤ bl A ∧
          σ' = frSt a B c' f ++ [(Str.ofString "shift", .fr (.int ((bl a : Int) - bl B)))]) ?_ ?_
        · exact ⟨_, _, fun _ _ h => h, 0, A, c, rfl, by rw [zero_cm, Nat.xor_zero], by rw [zero_cm, Nat.xor_zero], Nat.le_refl _, rfl⟩
        · rintro n σ' ⟨q, a, c', rfl, ha, hc, hla, rfl⟩
          repeat walk_at "pw"
          split
          · rename_i h
            have h := of_decide_eq_true h
            have ha0 : a ≠ 0 := by intro e; rw [e, bl_zero] at h; omega
            refine SS.cons ?_
            repeat walk_at "pw"
            refine ⟨h, by rw [intBits_nat]; omega, ?_⟩
            rw [shl_nat' B (k := (bl a : Int) - bl B) (j := bl a - bl B) (by omega)]
            repeat walk_at "pw"
            rw [bitXor_nat]
            refine ⟨h, by rw [intBits_nat]; omega, ?_⟩
            rw [shl_nat' f (k := (bl a : Int) - bl B) (j := bl a - bl B) (by omega)]
            repeat walk_at "pw"
            rw [bitXor_nat]
            repeat walk_at "pw"
            rw [intBits_nat, intBits_nat]
            have e1 : bl (B * 2 ^ (bl a - bl B)) = bl a := by rw [bl_shl hB0]; omega
            refine ⟨_, bl_xor_eq e1.symm ha0, _, ?_, q ^^^ 2 ^ (bl a - bl B), a ^^^ B * 2 ^ (bl a - bl B), c' ^^^ f * 2 ^ (bl a - bl B), rfl, ?_, ?_, Nat.le_trans (bl_xor_le (Nat.le_refl _) (Nat.le_of_eq e1)) hla, rfl⟩
            · rw [show ((bl (a ^^^ B * 2 ^ (bl a - bl B)) : Int) - bl B) = (bl (a ^^^ B * 2 ^ (bl a - bl B)) : Int) - 1 - ((bl B : Int) - 1) by omega]
              exact (Sub.cons (by rfl) (Sub.cons (by rfl) (Sub.cons (by rfl) (Sub.cons (by rfl) (Sub.cons (by rfl) Sub.nil)))))
            · rw [cm_xor_left, cm_comm (2 ^ _), cm_pow, ← Nat.xor_assoc, ← ha]
            · rw [cm_xor_left, cm_comm (2 ^ _), cm_pow, ← Nat.xor_assoc, ← hc]
          · rename_i h
            have h : ¬ (0 ≤ (bl a : Int) - bl B) := fun e => h (decide_eq_true e)
            refine SS.cons ?_
            refine S1.tup (xs := [Str.ofString "above", Str.ofString "below", Str.ofString "before", Str.ofString "factor"]) O trivial (by rfl) (by show ∀ x ∈ _, (dr1 13).scope.names.lookup x = some .local; decide +kernel) ?_ (by rfl) (by rfl)
            repeat walk_at "pw"
            refine ⟨Nat.le_of_ble_eq_true rfl, rfl, ?_⟩
            refine SS.nil ⟨bl a, by omega, _, ?_, B, a, f, c', rfl, hp.next hB ha hc (by omega), fun e => absurd e hH0, rfl⟩
            exact (Sub.cons (by rfl) (Sub.cons (by rfl) (Sub.cons (by rfl) (Sub.cons (by rfl) Sub.nil))))
      · rw [if_neg (fun e => hB (by have := of_decide_eq_true e; omega))]
        repeat walk_at "pw"
        exact ⟨Nat.le_of_ble_eq_true rfl, A, B, c, f, hp, by omega, h0, rfl⟩
  · intro pm code doc vs hl
    match vs, hl with
    | [_], _ => rfl
theorem endsI_get {d : D} : ∀ (p i : Nat) (l : List (Int × List Int)), (endsI p l)[i]? = some d → ∃ (q : Int) (ds : List Int), l[i]? = some (q, ds) ∧ d = .tup [.int (p + (octsI (l.take i)).length + ds.length : Nat), .int q] := by
  intro p i l
  induction l generalizing p i with
  | nil => intro h; cases h
  | cons s l ih =>
    obtain ⟨q, ds⟩ := s
    cases i with
    | zero => intro h; cases h; exact ⟨q, ds, rfl, rfl⟩
    | succ i =>
      intro h
      obtain ⟨q', ds', h1, h2⟩ := ih (p + ds.length) i (by simpa [endsI] using h)
      refine ⟨q', ds', h1, ?_⟩
      rw [h2, List.take_succ_cons, octsI_cons, Nat.add_assoc p]
theorem hv_hvF (f : Nat → Bool) (n : Nat) : hv f n = hvF f n := by
  induction n with
  | zero => rfl
  | succ n ih => rw [hv, hvF, ih]

theorem law_kind : (dr1 15).scope.kind ≠ .module := by decide +kernel
set_option maxHeartbeats 4000000 in
theorem law_ss {G : GG} (F : Fns1 G) {ns : List Int} (hz : ns.length ≤ 63) {h₀ : Heap} {L ad : Addr} {cd : Value} {ok : Addr → Prop} {fs : List Env} (O : Cx.Ok ⟨G, h₀, envOf (dr1 15).name (dr1 15).scope L ad cd, ok, 3, True, fs⟩) :
    SS ⟨G, h₀, envOf (dr1 15).name (dr1 15).scope L ad cd, ok, 3, True, fs⟩ [(Str.ofString "script", .fr (.lst (ns.map .int)))] (dr1 15).body (fun fl _ => match fl with | .ret d => d = .bool true | _ => False) := by
  refine SS.cons ?_
  refine S1.tup (xs := [Str.ofString "start", Str.ofString "word", Str.ofString "first", Str.ofString "step"]) O trivial (by rfl) (by show ∀ x ∈ _, (dr1 15).scope.names.lookup x = some .local; decide +kernel) ?_ (by rfl) (by rfl)
  refine SE.call (k := 1) (nh := True) O ?_ F.hc.fn (Nat.le_of_ble_eq_true rfl) (fun _ => trivial) (by rfl)
  repeat walk_at "pw"
  refine Spec.mono (cells_spec F (Nat.le_trans hz (by decide))) ?_
  rintro _ ⟨R, wd, first, step, hR, _, _, hst, rfl⟩
  refine ⟨rfl, ?_⟩
  refine SS.to [(Str.ofString "start", .fr (.int (R : Nat))), (Str.ofString "first", .fr (.int first)), (Str.ofString "step", .fr (.int step)), (Str.ofString "bias", .fr (.int ((wd : Int).fmod 220 - 40)))] ?_ ?_
  · repeat walk_at "pw"
    refine ⟨by decide, ?_⟩
    repeat walk_at "pw"
    exact ⟨rfl, (Sub.cons (by rfl) (Sub.cons (by rfl) (Sub.cons (by rfl) (Sub.cons (by rfl) Sub.nil))))⟩
  generalize (wd : Int).fmod 220 - 40 = bias
  refine SS.to [(Str.ofString "start", .fr (.int (R : Nat))), (Str.ofString "first", .fr (.int first)), (Str.ofString "step", .fr (.int step)), (Str.ofString "bias", .fr (.int bias)), (Str.ofString "fallen", .fr (.lst ((List.range 64).map fun k => .bool (fb R k)))), (Str.ofString "last", .fr (.int (stps 64 R : Nat)))] ?_ ?_
  · refine S1.tup (xs := [Str.ofString "fallen", Str.ofString "last"]) O trivial (by rfl) (by show ∀ x ∈ _, (dr1 15).scope.names.lookup x = some .local; decide +kernel) ?_ (by rfl) (by rfl)
    refine SE.call (k := 2) (nh := True) O ?_ F.hf.fn (Nat.le_of_ble_eq_true rfl) (fun _ => trivial) (by rfl)
    repeat walk_at "pw"
    refine Spec.mono (fallen_spec F R) ?_
    rintro _ rfl
    exact ⟨rfl, rfl, (Sub.cons (by rfl) (Sub.cons (by rfl) (Sub.cons (by rfl) (Sub.cons (by rfl) (Sub.cons (by rfl) (Sub.cons (by rfl) Sub.nil))))))⟩
  refine SS.cons ?_
  refine S1.mono (P := fun fl σ' => fl = .next ∧ ∃ segs tl, SegsI bias segs ∧ Opn bias 0 tl ∧ (octsI segs ++ tl).length = 64 ∧ hear 0 0 segs = hv (fb R) 64 ∧ Sub [(Str.ofString "start", .fr (.int (R : Nat))), (Str.ofString "bias", .fr (.int bias)), (Str.ofString "last", .fr (.int (stps 64 R : Nat))), (Str.ofString "octets", .fr (.bytes (byteArr (octsI segs ++ tl)))), (Str.ofString "due", .fr (.lst (endsI 0 segs)))] σ') ?_ ?_
  · refine S1.tup (xs := [Str.ofString "octets", Str.ofString "due"]) O trivial (by rfl) (by show ∀ x ∈ _, (dr1 15).scope.names.lookup x = some .local; decide +kernel) ?_ (by rfl) (by rfl)
    refine SE.call (k := 1) (nh := True) O ?_ F.hw.fn (Nat.le_of_ble_eq_true rfl) (fun _ => trivial) (by rfl)
    repeat walk_at "pw"
    refine Spec.mono (row_spec F (fb R) bias (Int.natCast_nonneg _) (by omega)) ?_
    rintro _ ⟨segs, tl, h1, h2, h3, h4, rfl⟩
    exact ⟨rfl, rfl, segs, tl, h1, h2, h3, h4, (Sub.cons (by rfl) (Sub.cons (by rfl) (Sub.cons (by rfl) (Sub.cons (by rfl) (Sub.cons (by rfl) Sub.nil)))))⟩
  rintro fl σ' ⟨rfl, segs, tl, hs, ht, hlen, hh, hsub⟩
  refine SS.sub hsub ?_
  have hcnt := hs.count
  have hl64 : (octsI segs).length ≤ 64 := by rw [List.length_append] at hlen; omega
  generalize hns : octsI segs ++ tl = row at hlen
  refine SS.to [(Str.ofString "start", .fr (.int (R : Nat))), (Str.ofString "last", .fr (.int (stps 64 R : Nat))), (Str.ofString "octets", .fr (.bytes (byteArr row))), (Str.ofString "due", .fr (.lst (endsI 0 segs))), (Str.ofString "told", .fr (.lst (endsI 0 segs ++ [.tup [.int (65 : Int), .none], .tup [.int (65 : Int), .none]])))] ?_ ?_
  · repeat walk_at "pw"
    refine SE.call (k := 3) (nh := True) O ?_ F.ho.fn (Nat.le_of_ble_eq_true rfl) (fun _ => trivial) (by rfl)
    repeat walk_at "pw"
    refine Spec.mono (told_spec F hs ht hns.symm (by omega) (by omega)) ?_
    rintro _ rfl
    rw [hlen]
    exact ⟨rfl, (Sub.cons (by rfl) (Sub.cons (by rfl) (Sub.cons (by rfl) (Sub.cons (by rfl) (Sub.cons (by rfl) Sub.nil)))))⟩
  refine SS.to [(Str.ofString "start", .fr (.int (R : Nat))), (Str.ofString "last", .fr (.int (stps 64 R : Nat))), (Str.ofString "told", .fr (.lst (endsI 0 segs ++ [.tup [.int (65 : Int), .none], .tup [.int (65 : Int), .none]])))] ?_ ?_
  · refine S1.ife (ST.same ?_)
    walk_at "pw"
    refine SE.bin O ?_
    walk_at "pw"
    refine SE.rep O ?_
    repeat walk_at "pw"
    refine ⟨by rw [byteArr_size, hlen]; decide, ?_⟩
    repeat walk_at "pw"
    rw [byteArr_size, hlen]
    refine ⟨Nat.le_of_ble_eq_true rfl, ?_⟩
    repeat walk_at "pw"
    refine ⟨Nat.le_of_ble_eq_true rfl, by decide, by decide, by decide, ?_⟩
    refine ⟨by rw [endsI_length]; exact Nat.le_trans (show _ ≤ 66 by show segs.length + 2 ≤ 66; omega) (by decide), ?_⟩
    refine ⟨rfl, ?_, ?_⟩
    · show (endsI 0 segs ++ [_, _]).all (okD 8) = true
      rw [List.all_append, List.all_eq_true.mpr okD_endsI]
      rfl
    · dsimp only
      (try rw [if_neg Bool.false_ne_true])
      exact SS.nil ⟨rfl, (Sub.cons (by rfl) (Sub.cons (by rfl) (Sub.cons (by rfl) Sub.nil)))⟩
  refine SS.to [(Str.ofString "start", .fr (.int (R : Nat))), (Str.ofString "last", .fr (.int (stps 64 R : Nat))), (Str.ofString "told", .fr (.lst (endsI 0 segs ++ [.tup [.int (65 : Int), .none], .tup [.int (65 : Int), .none]]))), (Str.ofString "heard", .fr (.int (hear 0 0 [] : Nat)))] ?_ ?_
  · repeat walk_at "pw"
    exact ⟨rfl, (Sub.cons (by rfl) (Sub.cons (by rfl) (Sub.cons (by rfl) (Sub.cons (by rfl) Sub.nil))))⟩
  refine SS.to [(Str.ofString "start", .fr (.int (R : Nat))), (Str.ofString "last", .fr (.int (stps 64 R : Nat))), (Str.ofString "heard", .fr (.int (hear 0 0 segs : Nat)))] ?_ ?_
  · refine S1.for O trivial ?_ (by show ∀ xs, tnames _ = some xs → ∀ x ∈ xs, (dr1 15).scope.names.lookup x = some .local; intro xs hxs; cases hxs; decide +kernel)
    refine SE.butlast O ?_
    repeat walk_at "pw"
    refine ⟨by rw [List.length_append, endsI_length]; exact Nat.le_trans (show _ ≤ 66 by show segs.length + 2 ≤ 66; omega) (by decide), by decide, ?_⟩
    have e : (endsI 0 segs ++ [D.tup [.int (65 : Int), .none], .tup [.int (65 : Int), .none]]).take ((endsI 0 segs ++ [D.tup [.int (65 : Int), .none], .tup [.int (65 : Int), .none]]).length - (2 : Int).toNat) = endsI 0 segs := by
      rw [List.length_append]
      exact List.take_left
    rw [e]
    refine ⟨_, rfl, fun i σ' => σ' = [(Str.ofString "start", .fr (.int (R : Nat))), (Str.ofString "last", .fr (.int (stps 64 R : Nat))), (Str.ofString "heard", .fr (.int (hear 0 0 (segs.take i) : Nat)))], ⟨_, (Sub.cons (by rfl) (Sub.cons (by rfl) (Sub.cons (by rfl) Sub.nil))), rfl⟩, ?_, ?_⟩
    · rintro i d σ' hd rfl
      obtain ⟨q, ds, hi, rfl⟩ := endsI_get 0 i segs hd
      refine ⟨[Str.ofString "end", Str.ofString "number"], rfl, rfl, ?_⟩
      have hN : Num bias 0 q ds := hs (q, ds) (List.mem_of_getElem? hi)
      have hne : 0 < ds.length := List.length_pos_iff.mpr hN.ne
      have htk : segs.take (i + 1) = segs.take i ++ [(q, ds)] := by rw [List.take_add_one, hi]; rfl
      have hle : (octsI (segs.take i)).length + ds.length ≤ 64 := by
        have h1 : (octsI (segs.take (i + 1))).length ≤ (octsI segs).length := by
          conv => rhs; rw [← List.take_append_drop (i + 1) segs, octsI_append, List.length_append]
          omega
        rw [htk, octsI_append, List.length_append, octsI_cons] at h1
        show _ ≤ 64
        have : (octsI ([] : List (Int × List Int))).length = 0 := rfl
        omega
      refine SS.cons ?_
      repeat walk_at "pw"
      refine ⟨by omega, by rw [show Builtin.Int.intBits 1 = 1 from rfl]; omega, ?_⟩
      rw [one_shl' (j := (octsI (segs.take i)).length + ds.length - 1) (by omega)]
      repeat walk_at "pw"
      rw [bitOr_nat]
      refine ⟨_, ?_, rfl⟩
      rw [htk, hear_append, Nat.zero_add]
      exact (Sub.cons (by rfl) (Sub.cons (by rfl) (Sub.cons (by rfl) Sub.nil)))
    · rintro σ' rfl
      rw [endsI_length, List.take_length]
      exact ⟨rfl, (Sub.cons (by rfl) (Sub.cons (by rfl) (Sub.cons (by rfl) Sub.nil)))⟩
  rw [hh, hv_hvF]
  have hH := heard_is R 64
  rw [show fbit R = fb R from rfl] at hH
  have hHl : bl (hvF (fb R) 64) ≤ 64 := by rw [← hv_hvF]; exact bl_le.mpr (hv_lt _ _)
  generalize hHe : hvF (fb R) 64 = H at hH hHl
  have h640 : R = 0 → stps 64 R = 0 := by
    rintro rfl
    decide +kernel
  have hH0 : R = 0 → H = 0 := fun e => by
    rw [h640 e, e, Nat.zero_mul, Nat.xor_zero] at hH
    by_cases q : H = 0
    · exact q
    · exact absurd hH (cm_ne_zero CC_ne q)
  generalize hlast : stps 64 R = last at hH h640
  refine SS.cons ?_
  refine S1.mono (P := fun fl σ' => fl = .next ∧ ∃ A B c f : Nat, Pd H A B c f ∧ bl B ≤ 32 ∧ (H = 0 → f = 1 ∧ B = 0) ∧ Sub [(Str.ofString "start", .fr (.int (R : Nat))), (Str.ofString "last", .fr (.int (last : Nat))), (Str.ofString "heard", .fr (.int H)), (Str.ofString "rest", .fr (.int B)), (Str.ofString "rule", .fr (.int f))] σ') ?_ ?_
  · refine S1.tup (xs := [Str.ofString "rest", Str.ofString "rule"]) O trivial (by rfl) (by show ∀ x ∈ _, (dr1 15).scope.names.lookup x = some .local; decide +kernel) ?_ (by rfl) (by rfl)
    refine SE.call (k := 2) (nh := True) O ?_ F.hr.fn (Nat.le_of_ble_eq_true rfl) (fun _ => trivial) (by rfl)
    repeat walk_at "pw"
    refine Spec.mono (fraction_spec F hHl) ?_
    rintro _ ⟨A, B, c, f, h1, h2, h3, rfl⟩
    exact ⟨rfl, rfl, A, B, c, f, h1, h2, h3, (Sub.cons (by rfl) (Sub.cons (by rfl) (Sub.cons (by rfl) (Sub.cons (by rfl) (Sub.cons (by rfl) Sub.nil)))))⟩
  rintro fl σ' ⟨rfl, A, B, c, f, hp, hB, h0, hsub⟩
  refine SS.sub hsub ?_
  refine SS.to [(Str.ofString "start", .fr (.int (R : Nat))), (Str.ofString "last", .fr (.int (last : Nat))), (Str.ofString "heard", .fr (.int H)), (Str.ofString "rest", .fr (.int B)), (Str.ofString "rule", .fr (.int f))] ?_ ?_
  · repeat walk_at "pw"
    rw [isbI_neg, if_neg (by decide)]
    repeat walk_at "pw"
    exact ⟨rfl, (Sub.cons (by rfl) (Sub.cons (by rfl) (Sub.cons (by rfl) (Sub.cons (by rfl) (Sub.cons (by rfl) Sub.nil)))))⟩
  by_cases hR0 : R = 0
  · refine SS.cons ?_
    refine S1.ife (ST.cmp ?_)
    repeat walk_at "pw"
    rw [if_pos (decide_eq_true (by omega))]
    refine SS.cons (S1.ret (SE.same ?_))
    repeat walk_at "pw"
    refine ⟨Nat.le_of_ble_eq_true rfl, ?_⟩
    repeat walk_at "pw"
    refine ⟨Nat.le_of_ble_eq_true rfl, ?_⟩
    have hHz := hH0 hR0
    obtain ⟨rfl, rfl⟩ := h0 hHz
    have hlz : last = 0 := h640 hR0
    subst hlz hHz
    exact ⟨by rw [intBits_nat]; rfl, by rw [intBits_nat]; rfl, rfl⟩
  · obtain ⟨rfl, rfl⟩ := hp.told hB hH hR0 hR
    refine SS.to [(Str.ofString "start", .fr (.int (B : Nat))), (Str.ofString "last", .fr (.int (last : Nat))), (Str.ofString "heard", .fr (.int H)), (Str.ofString "rest", .fr (.int B)), (Str.ofString "rule", .fr (.int CC))] ?_ ?_
    · refine S1.ife (ST.cmp ?_)
      repeat walk_at "pw"
      rw [if_neg (fun e => hR0 (by have := of_decide_eq_true e; omega))]
      exact SS.nil ⟨rfl, (Sub.cons (by rfl) (Sub.cons (by rfl) (Sub.cons (by rfl) (Sub.cons (by rfl) (Sub.cons (by rfl) Sub.nil)))))⟩
    refine SS.to [(Str.ofString "start", .fr (.int (B : Nat))), (Str.ofString "last", .fr (.int (last : Nat))), (Str.ofString "heard", .fr (.int H)), (Str.ofString "rest", .fr (.int B)), (Str.ofString "rule", .fr (.int CC))] ?_ ?_
    · refine S1.ife (ST.same ?_)
      repeat walk_at "pw"
      refine ⟨Nat.le_of_ble_eq_true rfl, ?_⟩
      repeat walk_at "pw"
      refine ⟨Nat.le_of_ble_eq_true rfl, rfl, rfl, ?_⟩
      dsimp only
      (try rw [if_neg Bool.false_ne_true])
      exact SS.nil ⟨rfl, (Sub.cons (by rfl) (Sub.cons (by rfl) (Sub.cons (by rfl) (Sub.cons (by rfl) (Sub.cons (by rfl) Sub.nil)))))⟩
    have hHn : H ≠ 0 := fun e => by
      rw [e, cm_zero] at hH
      have h1 : B < 2 ^ 64 := Nat.lt_trans hR (by decide)
      have h2 := xor_zero_eq hH.symm
      by_cases q : last = 0
      · rw [q, Nat.zero_mul] at h2; exact hR0 h2
      · have : 1 * 2 ^ 64 ≤ last * 2 ^ 64 := Nat.mul_le_mul_right _ (by omega)
        omega
    refine SS.cons (S1.ret (SE.cmp ?_))
    repeat walk_at "pw"
    refine Spec.mono (times_spec F (a := CC) hHn (by rw [CC_bl]; decide) (by omega)) ?_
    rintro _ rfl
    repeat walk_at "pw"
    have hll : bl last ≤ 32 := by rw [← hlast]; exact bl_le.mpr (stps_lt hR)
    refine ⟨by decide, by rw [intBits_nat]; omega, ?_⟩
    rw [shl_nat' last (k := 64) (j := 64) rfl]
    repeat walk_at "pw"
    rw [bitXor_nat, hH]
    exact congrArg D.bool (decide_eq_true rfl)
end
end
end Mine
end
section
set_option maxRecDepth 100000
open PySem PySem.W PyProof.Rows PySem.Calls
namespace Mine

theorem ints_reps {h : Heap} {ok : Addr → Prop} {vs : List Value} {ns : List Int} (H : IntsAre vs ns) : Reps h ok vs (ns.map .int) := by
  induction H with
  | nil => exact .nil
  | cons n t _ ih => exact .cons (.int n t) ih

theorem HasDef.ofTop {p prog : Program} {w : World} {loose : List Str} {mean : ExcName → Option Value} {mg mb : Str → Option Value} {h : Heap} (T : Top p loose mean mg mb h) {d : DefRec} {i : Nat} (hd : (recsOf p)[i]? = some d) : HasDef ⟨prog, w, mg, mb, h⟩ d :=
  T.fn d (List.mem_of_getElem? hd)
theorem built_of {p : Program} {loose : List Str} {mean : ExcName → Option Value} {mg mb : Str → Option Value} {h : Heap} (T : Top p loose mean mg mb h) {x : Str} {v : Value}
    (h1 : x ∉ startupNames) (h2 : x ∉ loose) (h3 : x ∉ (recsOf p).map (·.name)) (h4 : x ∉ (litsOf p).map (·.1)) (h5 : x ∉ (clssOf p loose).map (·.name)) (hn : x ≠ "__name__") (hv : bootBuiltins x = some v) : mg x = none ∧ mb x = some v :=
  ⟨T.free x h1 h2 h3 h4 h5, by rw [T.builtins x hn]; exact hv⟩
theorem gg_ok {p prog : Program} {w : World} {loose : List Str} {mean : ExcName → Option Value} {mg mb : Str → Option Value} {h : Heap} (T : Top p loose mean mg mb h) : GG.Ok ⟨prog, w, mg, mb, h⟩ := ⟨T.g, T.b, T.nolimit⟩

theorem start_st {N : Nat} {h₀ h : Heap} {L l : Addr} {m : Str → Option Value} (F : Fr h₀ L h m) {vs : List Value} {ns : List Int} (hm : m (Str.ofString "script") = some (.ref l)) (hL : h₀.IsList l vs.toArray) (hI : IntsAre vs ns) :
    Mine.St N h₀ (fun _ => True) L [(Str.ofString "script", .fr (.lst (ns.map .int)))] h m where
  F := ⟨F.ns, .of F.keep, F.above⟩
  sl := fun x sl hx => by
    by_cases e : x = Str.ofString "script"
    · subst e
      rw [List.lookup_cons_self] at hx
      cases hx
      refine ⟨_, hm, .lst ⟨trivial, fun y ds hy => ?_⟩ ?_ (ints_reps hI)⟩
      · exfalso
        by_cases e : y = Str.ofString "script"
        · subst e; rw [List.lookup_cons_self] at hy; cases hy
        · rw [List.lookup_cons, beq_eq_false_iff_ne.mpr e] at hy; cases hy
      · obtain ⟨o, ho, hc, n, hd⟩ := hL
        exact ⟨o, F.keep _ _ ho, hc, n, hd⟩
    · rw [List.lookup_cons, beq_eq_false_iff_ne.mpr e] at hx; cases hx
  ap := fun x y ds es hx hy e => by
    exfalso
    by_cases e : x = Str.ofString "script"
    · subst e; rw [List.lookup_cons_self] at hx; cases hx
    · rw [List.lookup_cons, beq_eq_false_iff_ne.mpr e] at hx; cases hx
theorem MFr.whole {h₀ h : Heap} {L : Addr} {m : Str → Option Value} (F : MFr h₀.objs.size h₀ L h m) : Fr h₀ L h m :=
  ⟨F.ns, fun b o e => F.keep.lo b o (Heap.lt_size e) e, F.above⟩
end Mine
end
open PySem PySem.W PyProof.Rows Mine
set_option maxRecDepth 100000 in
set_option maxHeartbeats 8000000 in
theorem PySem.Challenge.cw_wo0005_01_holds : PySem.Challenge.rw_wo0005_01.Holds := by
  w_on; o_law; k_head; (case hw => w_witness2); w_strict (k_go0; (all_goals try k_fold); (case hc =>
    rename_i w s₀ s₁ mg mb _ _ _ _ _ _ _ _ _ _ _ _ _ T B TE TW _ _ M _ _ _ ns _ _ _ _ _ _ _ l vs _ hL _ _ _ hI _ hcond _ K0 _ h₁ F N0
    have hlen : ns.length ≤ 63 := by omega
    have bi : ∀ (x : Str) (v : Value), x ∉ startupNames → x ∉ (looseW cw_wo0005_01_holds.view_39 []) → x ∉ (recsOf cw_wo0005_01_holds.view_39).map (·.name) → x ∉ (litsOf cw_wo0005_01_holds.view_39).map (·.1) → x ∉ (clssOf cw_wo0005_01_holds.view_39 (looseW cw_wo0005_01_holds.view_39 [])).map (·.name) → x ≠ "__name__" → bootBuiltins x = some v → mg x = none ∧ mb x = some v := fun x v => built_of T
    have F1 : Fns1 ⟨PySem.Challenge.rw_wo0005_01.row.prog, w, mg, mb, s₁.heap⟩ :=
      ⟨gg_ok T, .ofTop (i := 2) T (by rfl), .ofTop (i := 3) T (by rfl), .ofTop (i := 0) T (by rfl), .ofTop (i := 1) T (by rfl), .ofTop (i := 4) T (by rfl), .ofTop (i := 5) T (by rfl), .ofTop (i := 6) T (by rfl), .ofTop (i := 7) T (by rfl), .ofTop (i := 8) T (by rfl), .ofTop (i := 9) T (by rfl), .ofTop (i := 10) T (by rfl),
        bi _ _ (by decide +kernel) (by decide +kernel) (by decide +kernel) (by decide +kernel) (by decide +kernel) (by decide +kernel) (by rfl),
        bi _ _ (by decide +kernel) (by decide +kernel) (by decide +kernel) (by decide +kernel) (by decide +kernel) (by decide +kernel) (by rfl),
        bi _ _ (by decide +kernel) (by decide +kernel) (by decide +kernel) (by decide +kernel) (by decide +kernel) (by decide +kernel) (by rfl),
        bi _ _ (by decide +kernel) (by decide +kernel) (by decide +kernel) (by decide +kernel) (by decide +kernel) (by decide +kernel) (by rfl),
        bi _ _ (by decide +kernel) (by decide +kernel) (by decide +kernel) (by decide +kernel) (by decide +kernel) (by decide +kernel) (by rfl),
        bi _ _ (by decide +kernel) (by decide +kernel) (by decide +kernel) (by decide +kernel) (by decide +kernel) (by decide +kernel) (by rfl),
        bi _ _ (by decide +kernel) (by decide +kernel) (by decide +kernel) (by decide +kernel) (by decide +kernel) (by decide +kernel) (by rfl),
        bi _ _ (by decide +kernel) (by decide +kernel) (by decide +kernel) (by decide +kernel) (by decide +kernel) (by decide +kernel) (by rfl)⟩
    refine wpAny_mono (Mine.law_ss (G := ⟨PySem.Challenge.rw_wo0005_01.row.prog, w, mg, mb, s₁.heap⟩) (ok := fun _ => True) F1 hlen (fs := [_]) ⟨gg_ok T, by rfl, rfl, rfl, .refl _, Nat.le_refl _, fun _ _ => trivial, fun env he => .inr (by rw [List.mem_singleton.mp he]; exact ⟨rfl, law_kind⟩)⟩ _ _ _ _ ⟨?_, ?_, fun _ => rfl, rfl⟩ (start_st F rfl hL hI) (fun fl fl' σ' m' h' tk hp hf S' st => ?_)) (fun _ _ x => x) (fun _ _ x => x.elim)
    · show callerA.depth + 1 + 3 < recursionLimit
      decide +kernel
    · show callerA.units + 3 + 20 * 3 + 100 < cLine
      decide +kernel
    · match fl', hp, hf with
      | .ret d, hp, .ret r =>
        subst hp
        cases r.bool_inv
        show GoodW _ _ _ _ _ (.ok (.ret (.bool true))) _
        refine goodW_bool S'.F.whole (by assumption) (raisesW_false ?_) ?_ rfl
        · wrow_none_raised
        · wrow_post))
