import PyProof.Rows.All
import Wide.All
import OpenK.AllK
import Wide.FinOn
import PySem.Challenge.RW_dm0270_06
open PySem PySem.W PyProof.Rows PySem.Calls
open PySem.Builtin.Int (intBits)
set_option Elab.async false
set_option linter.unusedVariables false
set_option rowWalk.seconds 0
namespace Mine
set_option maxRecDepth 100000 in
set_option maxHeartbeats 8000000 in
open_top hd for PySem.Challenge.rw_dm0270_06
def divN (a b : Int) : Int := a.fdiv b + (if decide (b < 2 * a.fmod b + Builtin.bitAnd (a.fdiv b) 1) = true then 1 else 0)
def rshN (x sh : Int) : Int := x.fdiv (2 ^ sh.toNat) + (if decide (1 * 2 ^ sh.toNat < 2 * Builtin.bitAnd x (1 * 2 ^ sh.toNat - 1) + Builtin.bitAnd (x.fdiv (2 ^ sh.toNat)) 1) = true then 1 else 0)
def isq : Nat → Nat → Nat
  | 0, _ => 0
  | k + 1, n => if n = 0 then 0 else
      let r := 2 * isq k (n / 4)
      if (r + 1) * (r + 1) ≤ n then r + 1 else r
@[irreducible] def sqrtN (n : Int) : Int :=
  let r : Int := isq 10000 n.toNat
  if r * r + r < n then r + 1 else r
def nxt (n a : Int) : Int := (a - (-n).fdiv a).fdiv 2
def IsSq (n s : Int) : Prop := 0 < s ∧ s * s - s < n ∧ n ≤ s * s + s

theorem isq_spec : ∀ (k n : Nat), n < 4 ^ k → isq k n * isq k n ≤ n ∧ n < (isq k n + 1) * (isq k n + 1)
  | 0, n, h => by simp at h; subst h; simp [isq]
  | k + 1, n, h => by
    unfold isq
    split
    · next h0 => subst h0; simp
    · have ih := isq_spec k (n / 4) (by rw [Nat.pow_succ] at h; omega)
      generalize isq k (n / 4) = r at ih
      obtain ⟨h1, h2⟩ := ih
      dsimp only
      have e1 : (2 * r) * (2 * r) = 4 * (r * r) := by grind
      have e2 : (2 * r + 1) * (2 * r + 1) = 4 * (r * r) + 4 * r + 1 := by grind
      have e3 : (2 * r + 1 + 1) * (2 * r + 1 + 1) = 4 * ((r + 1) * (r + 1)) := by grind
      split
      · next h3 => exact ⟨h3, by rw [e3]; omega⟩
      · next h3 => exact ⟨by rw [e1]; omega, by omega⟩

@[irreducible] def Big : Int := 2 ^ 8000
theorem big_toNat {n : Int} (h : n ≤ Big) : n.toNat < 4 ^ 10000 := by
  have h1 : (2 ^ 8000 : Nat) < 4 ^ 10000 := by decide +kernel
  have h2 : n.toNat ≤ 2 ^ 8000 := by
    unfold Big at h
    refine Int.toNat_le.mpr ?_
    have e : ((2 ^ 8000 : Nat) : Int) = (2 : Int) ^ 8000 := Int.natCast_pow 2 8000
    rw [e]; exact h
  exact Nat.lt_of_le_of_lt h2 h1
theorem log2_big {n : Int} (h0 : 0 ≤ n) (h : n ≤ Big) : n.natAbs.log2 < 9000 := by
  by_cases hz : n.natAbs = 0
  · rw [hz]; decide +kernel
  · refine (Nat.log2_lt hz).mpr ?_
    have h1 : (2 ^ 8000 : Nat) < 2 ^ 9000 := by decide +kernel
    refine Nat.lt_of_le_of_lt ?_ h1
    unfold Big at h
    have e : ((2 ^ 8000 : Nat) : Int) = (2 : Int) ^ 8000 := Int.natCast_pow 2 8000
    rw [← e] at h
    generalize (2 ^ 8000 : Nat) = k at h ⊢
    omega
theorem sqrtN_spec {n : Int} (h0 : 0 < n) (h1 : n ≤ Big) : IsSq n (sqrtN n) := by
  have hk := isq_spec 10000 n.toNat (big_toNat h1)
  unfold sqrtN IsSq
  clear h1
  generalize isq 10000 n.toNat = r at hk
  obtain ⟨h2, h3⟩ := hk
  have en : (n.toNat : Int) = n := by omega
  have h2' : (r : Int) * r ≤ n := by rw [← en]; exact_mod_cast h2
  have h3' : n < ((r : Int) + 1) * (r + 1) := by rw [← en]; exact_mod_cast h3
  dsimp only
  have e : ((r : Int) + 1) * (r + 1) = r * r + 2 * r + 1 := by grind
  rw [e] at h3'
  clear h2 h3
  split
  · next h4 =>
    clear en h2' 
    generalize (r : Int) = q at *
    generalize n.toNat = zz at *
    exact ⟨by omega, by grind, by grind⟩
  · next h4 =>
    have hr0 : 0 ≤ (r : Int) := by omega
    generalize (r : Int) = q at *
    have hq : 0 < q := by
      refine Int.not_le.mp fun h => ?_
      have hq : q = 0 := by omega
      subst hq
      omega
    exact ⟨hq, by grind, by grind⟩

theorem ceil_spec {n a : Int} (ha : 0 < a) : n ≤ (-(-n).fdiv a) * a ∧ (-(-n).fdiv a) * a < n + a := by
  have h := Int.mul_fdiv_add_fmod (-n) a
  have h1 := fmod_lo (-n) ha
  have h2 := fmod_hi (-n) ha
  have e : (-(-n).fdiv a) * a = - (a * (-n).fdiv a) := by grind
  rw [e]; omega
theorem fdiv2 (x : Int) : 2 * x.fdiv 2 ≤ x ∧ x < 2 * x.fdiv 2 + 2 := by
  have h := Int.mul_fdiv_add_fmod x 2
  have h1 := fmod_lo x (n := 2) (by omega)
  have h2 := fmod_hi x (n := 2) (by omega)
  omega
theorem nxt_ge {n a s : Int} (ha : 0 < a) (hn : 0 < n) (hs : IsSq n s) : s ≤ nxt n a := by
  obtain ⟨s0, s1, s2⟩ := hs
  unfold nxt
  have hc := ceil_spec (n := n) ha
  have h2 := fdiv2 (a - (-n).fdiv a)
  generalize (-n).fdiv a = d at *
  suffices h : 2 * s ≤ a - d by omega
  refine Int.not_lt.mp fun hlt => ?_
  have hd : 0 < -d := by
    refine Int.not_le.mp fun h => ?_
    have : -d * a ≤ 0 := Int.mul_nonpos_of_nonpos_of_nonneg h (by omega)
    omega
  have h4 : (a - d) * (a - d) ≤ (2 * s - 1) * (2 * s - 1) := Int.mul_le_mul (by omega) (by omega) (by omega) (by omega)
  have h5 : 0 ≤ (a + d) * (a + d) := by
    rcases Int.le_total 0 (a + d) with h | h
    · exact Int.mul_nonneg h h
    · exact Int.mul_nonneg_of_nonpos_of_nonpos h h
  grind
theorem nxt_lt {n a s : Int} (hs : IsSq n s) (h : s < a) : nxt n a < a := by
  obtain ⟨s0, s1, s2⟩ := hs
  unfold nxt
  have ha : 0 < a := by omega
  have hc := ceil_spec (n := n) ha
  have h2 := fdiv2 (a - (-n).fdiv a)
  generalize (-n).fdiv a = d at *
  suffices h : -d < a by omega
  refine Int.not_le.mp fun hle => ?_
  have h3 : a * a ≤ -d * a := Int.mul_le_mul_of_nonneg_right hle (by omega)
  have h4 : (s + 1) * (s + 1) ≤ a * a := Int.mul_le_mul (by omega) (by omega) (by omega) (by omega)
  have h5 : s * s + s ≤ a * a - a := by
    have : (s + 1) * s ≤ a * (a - 1) := Int.mul_le_mul (by omega) (by omega) (by omega) (by omega)
    grind
  omega
theorem nxt_eq {n s : Int} (hs : IsSq n s) : nxt n s = s := by
  obtain ⟨s0, s1, s2⟩ := hs
  unfold nxt
  have hc := ceil_spec (n := n) s0
  have h2 := fdiv2 (s - (-n).fdiv s)
  generalize (-n).fdiv s = d at *
  have h3 : s ≤ -d := by
    refine Int.not_lt.mp fun h => ?_
    have : -d * s ≤ (s - 1) * s := Int.mul_le_mul_of_nonneg_right (by omega) (by omega)
    grind
  have h4 : -d ≤ s + 1 := by
    refine Int.not_lt.mp fun h => ?_
    have : (s + 2) * s ≤ -d * s := Int.mul_le_mul_of_nonneg_right (by omega) (by omega)
    grind
  omega
theorem nxt_le {n a : Int} (ha : 0 < a) (hn : 0 < n) : nxt n a ≤ n ∨ nxt n a ≤ a := by
  unfold nxt
  have hc := ceil_spec (n := n) ha
  have h2 := fdiv2 (a - (-n).fdiv a)
  generalize (-n).fdiv a = d at *
  have hd : -d ≤ n := by
    refine Int.not_lt.mp fun h => ?_
    have h3 : (n + 1) * a ≤ -d * a := Int.mul_le_mul_of_nonneg_right (by omega) (by omega)
    have h4 : n * 1 ≤ n * a := Int.mul_le_mul_of_nonneg_left (by omega) (by omega)
    have h5 : n * 1 * 1 ≤ n * a := by omega
    grind
  omega

def sqP (n a b : Int) : Prop := 0 < a ∧ a ≤ Big ∧ (b = 0 ∨ (0 < b ∧ a = nxt n b))
def sqM (n a b : Int) : Nat := if a < sqrtN n then (n + 2).toNat else if a = sqrtN n ∧ b = sqrtN n then 0 else (a - sqrtN n + 1).toNat
theorem sqP_next {n a b : Int} (h0 : 0 < n) (h1 : n ≤ Big) (h : sqP n a b) : sqP n (nxt n a) a := by
  obtain ⟨ha, hb, _⟩ := h
  have hs := sqrtN_spec h0 h1
  have hg := nxt_ge ha h0 hs
  have hl := nxt_le ha h0
  have := hs.1
  exact ⟨by omega, by omega, Or.inr ⟨ha, rfl⟩⟩
theorem isSq_le {n s : Int} (h : IsSq n s) : s ≤ n := by
  obtain ⟨h1, h2, h3⟩ := h
  refine Int.not_lt.mp fun h => ?_
  have : (s - 1) * 1 ≤ (s - 1) * s := Int.mul_le_mul_of_nonneg_left (by omega) (by omega)
  grind
theorem sqM_next {n a b : Int} (h0 : 0 < n) (h1 : n ≤ Big) (h : sqP n a b) (hne : ¬ a = b) : sqM n (nxt n a) a < sqM n a b := by
  obtain ⟨ha, hb, _⟩ := h
  have hs := sqrtN_spec h0 h1
  have hsn := isSq_le hs
  have hg := nxt_ge ha h0 hs
  have hl := nxt_le ha h0
  have hs0 := hs.1
  unfold sqM
  by_cases c1 : a < sqrtN n
  · rw [if_pos c1, if_neg (by omega)]
    split
    · omega
    · omega
  · rw [if_neg c1, if_neg (by omega)]
    by_cases c2 : a = sqrtN n
    · have e : nxt n a = sqrtN n := by rw [c2]; exact nxt_eq hs
      rw [if_pos ⟨e, c2⟩, if_neg (by omega)]
      omega
    · have hlt := nxt_lt hs (a := a) (by omega)
      rw [if_neg (by omega), if_neg (by omega)]
      omega
theorem sq_end {n a b : Int} (h0 : 0 < n) (h1 : n ≤ Big) (h : sqP n a b) (he : a = b) : a = sqrtN n := by
  obtain ⟨ha, hb, hc⟩ := h
  have hs := sqrtN_spec h0 h1
  subst he
  rcases hc with hc | ⟨_, hc⟩
  · omega
  · have hg := nxt_ge ha h0 hs
    rcases Int.lt_trichotomy a (sqrtN n) with c | c | c
    · omega
    · exact c
    · have := nxt_lt hs c; omega

theorem divN_near {a b : Int} (hb : 0 < b) : -b ≤ 2 * (a - b * divN a b) ∧ 2 * (a - b * divN a b) ≤ b := by
  unfold divN
  have h := Int.mul_fdiv_add_fmod a b
  have h1 := fmod_lo a hb
  have h2 := fmod_hi a hb
  rw [bitAnd_m1]
  have h3 : 0 ≤ a.fdiv b % 2 ∧ a.fdiv b % 2 < 2 := by omega
  generalize a.fdiv b % 2 = e at *
  generalize a.fdiv b = q at *
  generalize a.fmod b = r at *
  have e1 : b * (q + 1) = b * q + b := by grind
  have e2 : b * (q + 0) = b * q := by grind
  split <;> rename_i hc <;> simp only [decide_eq_true_eq] at hc
  · rw [e1]; omega
  · rw [e2]; omega
/-- at a tie the quotient is even -/
theorem divN_even {a b : Int} (hb : 0 < b) (ht : 2 * (a - b * divN a b) = b ∨ 2 * (a - b * divN a b) = -b) : divN a b % 2 = 0 := by
  unfold divN at *
  have h := Int.mul_fdiv_add_fmod a b
  have h1 := fmod_lo a hb
  have h2 := fmod_hi a hb
  rw [bitAnd_m1] at *
  generalize a.fdiv b = q at *
  generalize a.fmod b = r at *
  have e1 : b * (q + 1) = b * q + b := by grind
  have e2 : b * (q + 0) = b * q := by grind
  split at ht <;> rename_i hc
  · rw [if_pos hc]
    simp only [decide_eq_true_eq] at hc
    rw [e1] at ht; omega
  · rw [if_neg hc]
    simp only [decide_eq_true_eq] at hc
    rw [e2] at ht; omega
theorem divN_le {a b c : Int} (hb : 0 < b) (h : a ≤ b * c) : divN a b ≤ c := by
  have hn := divN_near (a := a) hb
  generalize divN a b = q at *
  refine Int.not_lt.mp fun hlt => ?_
  have : b * (c + 1) ≤ b * q := Int.mul_le_mul_of_nonneg_left (by omega) (by omega)
  have e : b * (c + 1) = b * c + b := by grind
  omega
theorem divN_ge {a b c : Int} (hb : 0 < b) (h : b * c ≤ a) : c ≤ divN a b := by
  have hn := divN_near (a := a) hb
  generalize divN a b = q at *
  refine Int.not_lt.mp fun hlt => ?_
  have : b * q ≤ b * (c - 1) := Int.mul_le_mul_of_nonneg_left (by omega) (by omega)
  have e : b * (c - 1) = b * c - b := by grind
  omega
theorem pow2_pos (k : Nat) : (0 : Int) < 2 ^ k := kbt_pos k
theorem rshN_div (x sh : Int) : rshN x sh = divN x (2 ^ sh.toNat) := by
  unfold rshN divN
  rw [Int.one_mul, kbt_maskF]
/-- the while's test -/
def ilT (M y R : Int) : Bool := if R ≤ 8 then decide (M ≤ (y.natAbs : Int) * 2 ^ (8 - R).toNat) else decide (M ≤ (y.natAbs : Int).fdiv (2 ^ (R - 8).toNat))
def ilS (M y R : Int) : Int := divN (M * y * 2) (M + sqrtN (M * (M + rshN y R)))
def ilLp : Nat → Int → Int → Int → Int × Int
  | 0, _, y, R => (y, R)
  | k + 1, M, y, R => if ilT M y R = true then ilLp k M (ilS M y R) (R + 1) else (y, R)
/-- what holds between the turns -/
structure ilJ (x M y R : Int) : Prop where
  R0 : 0 ≤ R
  R1 : R ≤ 25
  up : M ≤ x → 0 ≤ y ∧ y ≤ x - M
  dn : x < M → y ≤ 0 ∧ -y ≤ 2 ^ R.toNat * (M - x) ∧ 5 ^ R.toNat * (1 - y) ≤ 8 ^ R.toNat * (M - x + 1)
structure ilPre (x M : Int) : Prop where
  M0 : 100 ≤ M
  M1 : M ≤ 2 ^ 250
  lo : M ≤ 10 * x
  hi : x ≤ 10 * M
theorem ilJ.start {x M : Int} (_h : ilPre x M) : ilJ x M (x - M) 0 := by
  refine ⟨by omega, by omega, fun h => by omega, fun h => ⟨by omega, ?_, ?_⟩⟩
  · show -(x - M) ≤ 2 ^ 0 * (M - x); omega
  · show 5 ^ 0 * (1 - (x - M)) ≤ 8 ^ 0 * (M - x + 1); omega
theorem rsh_ge {y R c : Int} (h : 2 ^ R.toNat * c ≤ y) : c ≤ rshN y R := by
  rw [rshN_div]; exact divN_ge (pow2_pos _) h
theorem rsh_le {y R c : Int} (h : y ≤ 2 ^ R.toNat * c) : rshN y R ≤ c := by
  rw [rshN_div]; exact divN_le (pow2_pos _) h
theorem ilJ.rsh {x M y R : Int} (P : ilPre x M) (h : ilJ x M y R) : M ≤ 10 * (M + rshN y R) ∧ M + rshN y R ≤ 10 * M ∧ (M ≤ x → 0 ≤ rshN y R) ∧ (x < M → rshN y R ≤ 0) := by
  have h1 := P.lo; have h2 := P.hi; have h0 := P.M0
  have hp := pow2_pos R.toNat
  by_cases c : M ≤ x
  · obtain ⟨u1, u2⟩ := h.up c
    have g1 : (0 : Int) ≤ rshN y R := rsh_ge (by rw [Int.mul_zero]; exact u1)
    have g2 : rshN y R ≤ x - M := rsh_le (by
      have : 1 * (x - M) ≤ 2 ^ R.toNat * (x - M) := Int.mul_le_mul_of_nonneg_right (by omega) (by omega)
      omega)
    exact ⟨by omega, by omega, fun _ => g1, fun _ => by omega⟩
  · obtain ⟨d1, d2, d3⟩ := h.dn (by omega)
    have g1 : -(M - x) ≤ rshN y R := rsh_ge (by
      have : (2 : Int) ^ R.toNat * -(M - x) = -(2 ^ R.toNat * (M - x)) := by grind
      omega)
    have g2 : rshN y R ≤ 0 := rsh_le (by rw [Int.mul_zero]; exact d1)
    exact ⟨by omega, by omega, fun _ => by omega, fun _ => g2⟩
theorem mul_lo {a b c d : Int} (ha : 0 ≤ a) (hb : 0 ≤ b) (h1 : a ≤ c) (h2 : b ≤ d) : a * b ≤ c * d := Int.mul_le_mul h1 h2 hb (Int.le_trans ha h1)
theorem big_250 {n : Int} (h : n ≤ 2 ^ 1000) : n ≤ Big := by
  refine Int.le_trans h ?_
  unfold Big
  have e1 : ((2 ^ 1000 : Nat) : Int) = (2 : Int) ^ 1000 := Int.natCast_pow 2 1000
  have e2 : ((2 ^ 8000 : Nat) : Int) = (2 : Int) ^ 8000 := Int.natCast_pow 2 8000
  rw [← e1, ← e2]
  have : (2 ^ 1000 : Nat) ≤ 2 ^ 8000 := by decide +kernel
  exact Int.ofNat_le.mpr this
theorem mulpow {a b : Int} {m n : Nat} (ha : 0 ≤ a) (hb : 0 ≤ b) (h1 : a ≤ 2 ^ m) (h2 : b ≤ 2 ^ n) : a * b ≤ 2 ^ (m + n) := by
  rw [Int.pow_add]; exact mul_lo ha hb h1 h2
/-- the square root's argument -/
theorem ilJ.arg {x M y R : Int} (P : ilPre x M) (h : ilJ x M y R) : 0 < M * (M + rshN y R) ∧ M * (M + rshN y R) ≤ Big ∧ IsSq (M * (M + rshN y R)) (sqrtN (M * (M + rshN y R))) := by
  obtain ⟨r1, r2, _, _⟩ := h.rsh P
  have h0 := P.M0
  have p1 : 0 < M * (M + rshN y R) := Int.mul_pos (by omega) (by omega)
  have p2 : M * (M + rshN y R) ≤ Big := by
    refine big_250 (Int.le_trans (mulpow (m := 250) (n := 254) (by omega) (by omega) P.M1 ?_) ?_)
    · have := P.M1
      have e : (2 : Int) ^ 254 = 2 ^ 250 * 16 := by decide +kernel
      rw [e]; omega
    · decide +kernel
  exact ⟨p1, p2, sqrtN_spec p1 p2⟩
theorem ilJ.root {x M y R : Int} (P : ilPre x M) (h : ilJ x M y R) : (M ≤ x → M ≤ sqrtN (M * (M + rshN y R))) ∧ M ≤ 4 * sqrtN (M * (M + rshN y R)) ∧ sqrtN (M * (M + rshN y R)) ≤ 4 * M := by
  obtain ⟨r1, r2, r3, r4⟩ := h.rsh P
  obtain ⟨a1, a2, s0, s1, s2⟩ := h.arg P
  have h0 := P.M0
  generalize rshN y R = r at *
  generalize sqrtN (M * (M + r)) = s at *
  refine ⟨fun c => ?_, ?_, ?_⟩
  · refine Int.not_lt.mp fun hlt => ?_
    have k1 : s * s ≤ (M - 1) * (M - 1) := mul_lo (by omega) (by omega) (by omega) (by omega)
    have k2 : M * M ≤ M * (M + r) := Int.mul_le_mul_of_nonneg_left (by have := r3 c; omega) (by omega)
    grind
  · refine Int.not_lt.mp fun hlt => ?_
    have k1 : (4 * s) * (4 * s) ≤ (M - 1) * (M - 1) := mul_lo (by omega) (by omega) (by omega) (by omega)
    have k2 : M * M ≤ M * (10 * (M + r)) := Int.mul_le_mul_of_nonneg_left (by omega) (by omega)
    have k3 : 100 * M ≤ M * M := Int.mul_le_mul_of_nonneg_right (by omega) (by omega)
    grind
  · refine Int.not_lt.mp fun hlt => ?_
    have k1 : (4 * M + 1) * (4 * M) ≤ s * (s - 1) := mul_lo (by omega) (by omega) (by omega) (by omega)
    have k2 : M * (M + r) ≤ M * (10 * M) := Int.mul_le_mul_of_nonneg_left (by omega) (by omega)
    have k3 : 0 ≤ M * M := Int.mul_nonneg (by omega) (by omega)
    grind

theorem fdiv_ge {a b c : Int} (hb : 0 < b) (h : c ≤ a.fdiv b) : b * c ≤ a := by
  have h1 := Int.mul_fdiv_add_fmod a b
  have h2 := fmod_lo a hb
  have : b * c ≤ b * a.fdiv b := Int.mul_le_mul_of_nonneg_left h (by omega)
  omega
theorem fdiv_lt {a b c : Int} (hb : 0 < b) (h : a.fdiv b < c) : a < b * c := by
  have h1 := Int.mul_fdiv_add_fmod a b
  have h2 := fmod_hi a hb
  have : b * (a.fdiv b + 1) ≤ b * c := Int.mul_le_mul_of_nonneg_left (by omega) (by omega)
  have e : b * (a.fdiv b + 1) = b * a.fdiv b + b := by grind
  omega
theorem ilT_lt {x M y R : Int} (P : ilPre x M) (h : ilJ x M y R) (t : ilT M y R = true) : R ≤ 24 := by
  refine Int.not_lt.mp fun hlt => ?_
  have hR : R = 25 := by have := h.R1; omega
  subst hR
  have h0 := P.M0; have h1 := P.lo; have h2 := P.hi
  unfold ilT at t
  rw [if_neg (by omega)] at t
  have t1 := fdiv_ge (b := 2 ^ (25 - 8 : Int).toNat) (pow2_pos _) (of_decide_eq_true t)
  have e1 : (2 : Int) ^ (25 - 8 : Int).toNat = 131072 := by decide +kernel
  rw [e1] at t1
  have e5 : (5 : Int) ^ (25 : Int).toNat = 298023223876953125 := by decide +kernel
  have e8 : (8 : Int) ^ (25 : Int).toNat = 37778931862957161709568 := by decide +kernel
  by_cases c : M ≤ x
  · obtain ⟨u1, u2⟩ := h.up c; omega
  · obtain ⟨d1, d2, d3⟩ := h.dn (by omega)
    rw [e5, e8] at d3
    omega
theorem ilJ.next {x M y R : Int} (P : ilPre x M) (h : ilJ x M y R) (t : ilT M y R = true) : ilJ x M (ilS M y R) (R + 1) := by
  have hR := ilT_lt P h t
  have h0 := P.M0; have hR0 := h.R0
  obtain ⟨s1, s2, s3⟩ := h.root P
  unfold ilS
  generalize sqrtN (M * (M + rshN y R)) = s at *
  have hD : 0 < M + s := by omega
  have hn := divN_near (a := M * y * 2) hD
  have eT : (R + 1).toNat = R.toNat + 1 := by omega
  refine ⟨by omega, by omega, fun c => ?_, fun c => ?_⟩
  · obtain ⟨u1, u2⟩ := h.up c
    have k1 : 0 ≤ M * y := Int.mul_nonneg (by omega) u1
    have k2 : 0 ≤ (s - M) * y := Int.mul_nonneg (by have := s1 c; omega) u1
    have g1 : 0 ≤ divN (M * y * 2) (M + s) := divN_ge hD (by omega)
    have g2 : divN (M * y * 2) (M + s) ≤ y := divN_le hD (by grind)
    exact ⟨g1, by omega⟩
  · obtain ⟨d1, d2, d3⟩ := h.dn c
    have k0 : 0 ≤ M * (-y) := Int.mul_nonneg (by omega) (by omega)
    have k1 : 0 ≤ s * (-y) := Int.mul_nonneg (by omega) (by omega)
    have g1 : divN (M * y * 2) (M + s) ≤ 0 := divN_le hD (by grind)
    have g2 : 2 * y ≤ divN (M * y * 2) (M + s) := divN_ge hD (by grind)
    have k2 : 0 ≤ (4 * (M + s) - 5 * M) * (-y) := Int.mul_nonneg (by omega) (by omega)
    generalize hv : divN (M * y * 2) (M + s) = v at *
    have g3 : 5 * (1 - v) ≤ 8 * (1 - y) := by
      refine Int.not_lt.mp fun hlt => ?_
      have k3 : (M + s) * (10 * v) ≤ (M + s) * (16 * y - 7) := Int.mul_le_mul_of_nonneg_left (by omega) (by omega)
      grind
    rw [eT]
    refine ⟨g1, ?_, ?_⟩
    · rw [Int.pow_succ]
      have : (2 : Int) ^ R.toNat * 2 * (M - x) = 2 * (2 ^ R.toNat * (M - x)) := by grind
      omega
    · have p5 : (0 : Int) < 5 ^ R.toNat := Int.pow_pos (by omega)
      have k4 : 5 ^ R.toNat * (5 * (1 - v)) ≤ 5 ^ R.toNat * (8 * (1 - y)) := Int.mul_le_mul_of_nonneg_left g3 (by omega)
      rw [Int.pow_succ, Int.pow_succ]
      have e1 : (5 : Int) ^ R.toNat * 5 * (1 - v) = 5 ^ R.toNat * (5 * (1 - v)) := by grind
      have e2 : (5 : Int) ^ R.toNat * (8 * (1 - y)) = 8 * (5 ^ R.toNat * (1 - y)) := by grind
      have e3 : (8 : Int) ^ R.toNat * 8 * (M - x + 1) = 8 * (8 ^ R.toNat * (M - x + 1)) := by grind
      omega
/-- the sizes -/
theorem bits_of_le {x : Int} {m : Nat} (h1 : -(2 ^ m : Int) < x) (h2 : x < 2 ^ m) : intBits x ≤ m := by
  rw [intBits_le_iff]
  have e : ((2 ^ m : Nat) : Int) = (2 : Int) ^ m := Int.natCast_pow 2 m
  rw [← e] at h1 h2
  generalize (2 ^ m : Nat) = k at *
  omega
theorem pow_le_25 {R : Int} (h1 : R ≤ 25) : (2 : Int) ^ R.toNat ≤ 2 ^ 25 := by
  have h : R.toNat ≤ 25 := by omega
  have e1 : ((2 ^ R.toNat : Nat) : Int) = (2 : Int) ^ R.toNat := Int.natCast_pow 2 _
  have e2 : ((2 ^ 25 : Nat) : Int) = (2 : Int) ^ 25 := Int.natCast_pow 2 _
  rw [← e1, ← e2]
  exact Int.ofNat_le.mpr (Nat.pow_le_pow_right (by omega) h)
theorem ilJ.abs {x M y R : Int} (P : ilPre x M) (h : ilJ x M y R) : -(33554432 * (9 * M)) ≤ y ∧ y ≤ 33554432 * (9 * M) := by
  have h0 := P.M0; have h1 := P.lo; have h2 := P.hi
  by_cases c : M ≤ x
  · obtain ⟨u1, u2⟩ := h.up c; omega
  · obtain ⟨d1, d2, d3⟩ := h.dn (by omega)
    have k := pow_le_25 h.R1
    have e : (2 : Int) ^ 25 = 33554432 := by decide +kernel
    rw [e] at k
    have k2 : 2 ^ R.toNat * (M - x) ≤ 33554432 * (M - x) := Int.mul_le_mul_of_nonneg_right k (by omega)
    omega
theorem ilPre.Mbits {x M : Int} (P : ilPre x M) : intBits M ≤ 300 := by
  have h0 := P.M0; have h1 := P.M1
  have e : (2 : Int) ^ 300 = 2 ^ 250 * 1125899906842624 := by decide +kernel
  generalize (2 : Int) ^ 250 = k at *
  refine bits_of_le ?_ ?_ <;> rw [e] <;> omega
theorem ilJ.ybits {x M y R : Int} (P : ilPre x M) (h : ilJ x M y R) : intBits y ≤ 300 := by
  have h0 := P.M0; have h1 := P.M1
  have h2 := h.abs P
  have e : (2 : Int) ^ 300 = 2 ^ 250 * 1125899906842624 := by decide +kernel
  generalize (2 : Int) ^ 250 = k at *
  refine bits_of_le ?_ ?_ <;> rw [e] <;> omega
theorem ilJ.rbits {x M y R : Int} (P : ilPre x M) (h : ilJ x M y R) : intBits (M + rshN y R) ≤ 300 := by
  have h0 := P.M0; have h1 := P.M1
  have h2 := h.rsh P
  have e : (2 : Int) ^ 300 = 2 ^ 250 * 1125899906842624 := by decide +kernel
  generalize (2 : Int) ^ 250 = k at *
  refine bits_of_le ?_ ?_ <;> rw [e] <;> omega
/-- the divisor of a turn -/
theorem ilJ.dvs {x M y R : Int} (P : ilPre x M) (h : ilJ x M y R) : 0 < M + sqrtN (M * (M + rshN y R)) ∧ M + sqrtN (M * (M + rshN y R)) ≤ Big := by
  have h0 := P.M0; have h1 := P.M1
  obtain ⟨s1, s2, s3⟩ := h.root P
  refine ⟨by omega, big_250 ?_⟩
  have e : (2 : Int) ^ 1000 = 2 ^ 250 * 2 ^ 750 := by decide +kernel
  rw [e]
  have e2 : (16 : Int) ≤ 2 ^ 750 := by decide +kernel
  have k : (2 : Int) ^ 250 * 16 ≤ 2 ^ 250 * 2 ^ 750 := Int.mul_le_mul_of_nonneg_left e2 (by decide +kernel)
  generalize (2 : Int) ^ 250 * 2 ^ 750 = kk at *
  generalize (2 : Int) ^ 250 = k at *
  omega
theorem ilPre.MBig {x M : Int} (P : ilPre x M) : M ≤ Big := big_250 (Int.le_trans P.M1 (by decide +kernel))
/-- the loop is the function -/
def ilJL (x M y R : Int) : Prop := ilJ x M y R ∧ ilLp 40 M (x - M) 0 = ilLp (40 - R.toNat) M y R
theorem ilJL.start {x M : Int} (P : ilPre x M) : ilJL x M (x - M) 0 := ⟨ilJ.start P, rfl⟩
theorem ilJL.next {x M y R : Int} (P : ilPre x M) (h : ilJL x M y R) (t : ilT M y R = true) : ilJL x M (ilS M y R) (R + 1) := by
  refine ⟨h.1.next P t, ?_⟩
  rw [h.2]
  have hR := ilT_lt P h.1 t
  have h0 := h.1.R0
  have e : 40 - R.toNat = (40 - (R + 1).toNat) + 1 := by omega
  rw [e]
  show (if ilT M y R = true then _ else _) = _
  rw [if_pos t]
theorem ilJL.stop {x M y R : Int} (h : ilJL x M y R) (t : ilT M y R = false) : ilLp 40 M (x - M) 0 = (y, R) := by
  rw [h.2]
  have hR := h.1.R1
  have h0 := h.1.R0
  have e : 40 - R.toNat = (39 - R.toNat) + 1 := by omega
  rw [e]
  show (if ilT M y R = true then _ else _) = _
  rw [if_neg (by simp [t])]
theorem ilT_stop {M y R : Int} (h0 : 0 ≤ R) (t : ilT M y R = false) : -(2 ^ R.toNat * M) < 256 * y ∧ 256 * y < 2 ^ R.toNat * M := by
  unfold ilT at t
  split at t
  · next c =>
    have t1 := of_decide_eq_false t
    have e : (256 : Int) = 2 ^ R.toNat * 2 ^ (8 - R).toNat := by
      rw [← Int.pow_add]
      have : R.toNat + (8 - R).toNat = 8 := by omega
      rw [this]; rfl
    have hp := pow2_pos R.toNat
    have k : 2 ^ R.toNat * ((y.natAbs : Int) * 2 ^ (8 - R).toNat) < 2 ^ R.toNat * M := Int.mul_lt_mul_of_pos_left (by omega) hp
    have e2 : (2 : Int) ^ R.toNat * ((y.natAbs : Int) * 2 ^ (8 - R).toNat) = 256 * y.natAbs := by
      rw [e]; grind
    omega
  · next c =>
    have t1 := of_decide_eq_false t
    have t2 := fdiv_lt (pow2_pos (R - 8).toNat) (Int.not_le.mp t1)
    have e : (2 : Int) ^ R.toNat = 256 * 2 ^ (R - 8).toNat := by
      have : R.toNat = 8 + (R - 8).toNat := by omega
      rw [this, Int.pow_add]; rfl
    have e2 : 2 ^ R.toNat * M = 256 * (2 ^ (R - 8).toNat * M) := by rw [e]; grind
    omega

def ndig (a : Int) : Int := ((Str.ofString (toString a)).length : Nat)
theorem ndig_nat (m : Nat) : ndig (m : Int) = ((Nat.toDigits 10 m).length : Nat) := by
  unfold ndig
  have h := text_ofNat m
  have e : (Str.ofString (toString ((m : Nat) : Int))).length = ((Nat.toDigits 10 m).map Char.toNat).length := by
    show (Str.ofString (toString (Int.ofNat m))).length = _
    rw [h]; simp [Str.length]
  rw [e, List.length_map]
theorem ndig_le {a : Int} {k : Nat} (h0 : 0 ≤ a) (hk : 0 < k) (h : a < 10 ^ k) : ndig a ≤ k := by
  obtain ⟨m, rfl⟩ := Int.eq_ofNat_of_zero_le h0
  rw [ndig_nat]
  have : m < 10 ^ k := by exact_mod_cast h
  exact Int.ofNat_le.mpr ((Nat.length_toDigits_le_iff (by omega) hk).mpr this)
theorem ndig_gt {a : Int} {k : Nat} (h0 : 0 < a) (h : 10 ^ k ≤ a) : (k : Int) < ndig a := by
  obtain ⟨m, rfl⟩ := Int.eq_ofNat_of_zero_le (Int.le_of_lt h0)
  rw [ndig_nat]
  have hm : 10 ^ k ≤ m := by exact_mod_cast h
  refine Int.ofNat_lt.mpr (Nat.not_le.mp fun hle => ?_)
  by_cases hk : k = 0
  · subst hk
    have := (Nat.length_toDigits_le_iff (b := 10) (n := m) (k := 1) (by omega) (by omega)).mp (by omega)
    have h2 : (Nat.toDigits 10 m).length = 0 := by omega
    rw [List.length_eq_zero_iff] at h2
    exact Nat.toDigits_ne_nil h2
  · have := (Nat.length_toDigits_le_iff (b := 10) (n := m) (k := k) (by omega) (by omega)).mp hle
    omega
theorem ndig_eq {a : Int} {k : Nat} (h1 : 10 ^ k ≤ a) (h2 : a < 10 ^ (k + 1)) : ndig a = k + 1 := by
  have hp : (0 : Int) < 10 ^ k := Int.pow_pos (by omega)
  have g1 := ndig_gt (a := a) (k := k) (by omega) h1
  have g2 := ndig_le (a := a) (k := k + 1) (by omega) (by omega) h2
  omega
theorem ndig_pos {a : Int} (h : 0 < a) : 1 ≤ ndig a := by
  have := ndig_gt (a := a) (k := 0) h (by rw [Int.pow_zero]; omega)
  omega
/-- Horner's step -/
def horn (M ys : Int) (w k : Int) : Int := divN M k - divN (ys * w) M
theorem horn_bound {M ys w k : Int} (hM : 100 ≤ M) (hk : 1 ≤ k) (hy : -M ≤ 100 * ys ∧ 100 * ys ≤ M) (hw : -(2 * M) ≤ w ∧ w ≤ 2 * M) : -(2 * M) ≤ horn M ys w k ∧ horn M ys w k ≤ 2 * M := by
  have g1 : divN M k ≤ M := divN_le (by omega) (by
    have : 1 * M ≤ k * M := Int.mul_le_mul_of_nonneg_right hk (by omega)
    omega)
  have g2 : 0 ≤ divN M k := divN_ge (by omega) (by omega)
  have k1 : 100 * (ys * w) ≤ M * (2 * M) ∧ -(M * (2 * M)) ≤ 100 * (ys * w) := by
    have a1 : 0 ≤ (M - 100 * ys) * (2 * M - w) := Int.mul_nonneg (by omega) (by omega)
    have a2 : 0 ≤ (M + 100 * ys) * (2 * M + w) := Int.mul_nonneg (by omega) (by omega)
    have a3 : 0 ≤ (M - 100 * ys) * (2 * M + w) := Int.mul_nonneg (by omega) (by omega)
    have a4 : 0 ≤ (M + 100 * ys) * (2 * M - w) := Int.mul_nonneg (by omega) (by omega)
    constructor <;> grind
  have k2 : 100 * M ≤ M * M := Int.mul_le_mul_of_nonneg_right hM (by omega)
  have g3 : divN (ys * w) M ≤ M := divN_le (by omega) (by grind)
  have g4 : -M ≤ divN (ys * w) M := divN_ge (by omega) (by grind)
  unfold horn; omega
theorem divM_bound {M k : Int} (hM : 100 ≤ M) (hk : 1 ≤ k) : -(2 * M) ≤ divN M k ∧ divN M k ≤ 2 * M := by
  have g1 : divN M k ≤ M := divN_le (by omega) (by
    have : 1 * M ≤ k * M := Int.mul_le_mul_of_nonneg_right hk (by omega)
    omega)
  have g2 : 0 ≤ divN M k := divN_ge (by omega) (by omega)
  omega
theorem ys_bound {x M y R : Int} (P : ilPre x M) (h : ilJ x M y R) (t : ilT M y R = false) : -M ≤ 100 * rshN y R ∧ 100 * rshN y R ≤ M := by
  have h0 := P.M0
  obtain ⟨t1, t2⟩ := ilT_stop h.R0 t
  have hp := pow2_pos R.toNat
  have hn := divN_near (a := y) hp
  rw [rshN_div]
  generalize divN y (2 ^ R.toNat) = r at *
  generalize (2 : Int) ^ R.toNat = p at *
  constructor
  · refine Int.not_lt.mp fun hlt => ?_
    have k1 : p * (100 * r) ≤ p * (-M - 1) := Int.mul_le_mul_of_nonneg_left (by omega) (by omega)
    have k2 : p * 100 ≤ p * M := Int.mul_le_mul_of_nonneg_left (by omega) (by omega)
    grind
  · refine Int.not_lt.mp fun hlt => ?_
    have k1 : p * (M + 1) ≤ p * (100 * r) := Int.mul_le_mul_of_nonneg_left (by omega) (by omega)
    have k2 : p * 100 ≤ p * M := Int.mul_le_mul_of_nonneg_left (by omega) (by omega)
    grind
theorem bits2M {x M w : Int} (P : ilPre x M) (hw : -(2 * M) ≤ w ∧ w ≤ 2 * M) : intBits w ≤ 300 := by
  have h0 := P.M0; have h1 := P.M1
  have e : (2 : Int) ^ 300 = 2 ^ 250 * 1125899906842624 := by decide +kernel
  generalize (2 : Int) ^ 250 = k at *
  refine bits_of_le ?_ ?_ <;> rw [e] <;> omega
theorem bitsYs {x M y R : Int} (P : ilPre x M) (h : ilJ x M y R) : intBits (rshN y R) ≤ 300 := by
  have h0 := P.M0; have h1 := P.M1
  have h2 := h.rsh P
  have e : (2 : Int) ^ 300 = 2 ^ 250 * 1125899906842624 := by decide +kernel
  generalize (2 : Int) ^ 250 = k at *
  refine bits_of_le ?_ ?_ <;> rw [e] <;> omega
theorem log2_M {x M : Int} (P : ilPre x M) : M.natAbs.log2 < 1920 := by
  have h0 := P.M0; have h1 := P.M1
  refine (Nat.log2_lt (by omega)).mpr ?_
  have e : ((2 ^ 250 : Nat) : Int) = (2 : Int) ^ 250 := Int.natCast_pow 2 250
  rw [← e] at h1
  have h2 : (2 ^ 250 : Nat) < 2 ^ 1920 := by decide +kernel
  generalize (2 ^ 250 : Nat) = k at *
  omega

/-- all that a turn asks -/
structure ilF (x M y R : Int) : Prop where
  jl : ilJL x M y R
  r0 : 0 ≤ R
  r1 : R ≤ 25
  yb : intBits y ≤ 300
  a1 : 0 < M * (M + rshN y R)
  a2 : M * (M + rshN y R) ≤ Big
  d1 : 0 < M + sqrtN (M * (M + rshN y R))
  d2 : M + sqrtN (M * (M + rshN y R)) ≤ Big
  rb : intBits (M + rshN y R) ≤ 300
  sb : intBits (rshN y R) ≤ 300
theorem ilJL.full {x M y R : Int} (P : ilPre x M) (h : ilJL x M y R) : ilF x M y R :=
  ⟨h, h.1.R0, h.1.R1, h.1.ybits P, (h.1.arg P).1, (h.1.arg P).2.1, (h.1.dvs P).1, (h.1.dvs P).2, h.1.rbits P, bitsYs P h.1⟩
theorem mul_300 {a b : Int} (ha : intBits a ≤ 300) (hb : intBits b ≤ 300) : IntMulOk a b := IntMulOk.of_le ha hb (by decide)
theorem shl_300 {a n : Int} (ha : intBits a ≤ 300) (h1 : n ≤ 100) : (intBits a : Int) + n ≤ 2 ^ 27 := by
  have e : (2 : Int) ^ 27 = 134217728 := by decide
  rw [e]; omega
theorem shl_600 {a b n : Int} (ha : intBits a ≤ 300) (hb : intBits b ≤ 300) (h1 : n ≤ 100) : (intBits (a * b) : Int) + n ≤ 2 ^ 27 := by
  have e : (2 : Int) ^ 27 = 134217728 := by decide
  have := intBits_mul_le ha hb
  rw [e]; omega
theorem ilF.conj {x M y R : Int} (h : ilF x M y R) : ilF x M y R ∧ (0 ≤ R ∧ R ≤ 25) ∧ intBits y ≤ 300 ∧ (0 < M * (M + rshN y R) ∧ M * (M + rshN y R) ≤ Big) ∧ (0 < M + sqrtN (M * (M + rshN y R)) ∧ M + sqrtN (M * (M + rshN y R)) ≤ Big) ∧ intBits (M + rshN y R) ≤ 300 ∧ intBits (rshN y R) ≤ 300 :=
  ⟨h, ⟨h.r0, h.r1⟩, h.yb, ⟨h.a1, h.a2⟩, ⟨h.d1, h.d2⟩, h.rb, h.sb⟩
theorem ite_abs (y : Int) : (if y < 0 then -y else y) = (y.natAbs : Int) := by split <;> omega
theorem shl_abs {a n : Int} (ha : intBits a ≤ 300) (h1 : n ≤ 100) : (intBits (if a < 0 then -a else a) : Int) + n ≤ 2 ^ 27 := by
  rw [ite_abs]; exact shl_300 (intBits_natAbs_le ha) h1
theorem ilT_t1 {x M y R : Int} (_ : ilF x M y R) (h1 : R ≤ 8) (h2 : M ≤ (if y < 0 then -y else y) * 2 ^ (8 - R).toNat) : ilT M y R = true := by
  rw [ite_abs] at h2; unfold ilT; rw [if_pos h1]; exact decide_eq_true h2
theorem ilT_t2 {x M y R : Int} (_ : ilF x M y R) (h1 : 8 < R) (h2 : M ≤ (if y < 0 then -y else y).fdiv (2 ^ (R - 8).toNat)) : ilT M y R = true := by
  rw [ite_abs] at h2; unfold ilT; rw [if_neg (by omega)]; exact decide_eq_true h2
theorem ilT_f1 {x M y R : Int} (_ : ilF x M y R) (h1 : R ≤ 8) (h2 : ¬ M ≤ (if y < 0 then -y else y) * 2 ^ (8 - R).toNat) : ilT M y R = false := by
  rw [ite_abs] at h2; unfold ilT; rw [if_pos h1]; exact decide_eq_false h2
theorem ilT_f2 {x M y R : Int} (_ : ilF x M y R) (h1 : 8 < R) (h2 : ¬ M ≤ (if y < 0 then -y else y).fdiv (2 ^ (R - 8).toNat)) : ilT M y R = false := by
  rw [ite_abs] at h2; unfold ilT; rw [if_neg (by omega)]; exact decide_eq_false h2
def ilTT (M : Int) : Int := -(-10 * ndig M).fdiv (3 * 8)
theorem fdiv24 (x : Int) : 24 * x.fdiv (3 * 8) ≤ x ∧ x < 24 * x.fdiv (3 * 8) + 24 := by
  show 24 * x.fdiv 24 ≤ x ∧ x < 24 * x.fdiv 24 + 24
  have h := Int.mul_fdiv_add_fmod x 24
  have h1 := fmod_lo x (n := 24) (by omega)
  have h2 := fmod_hi x (n := 24) (by omega)
  omega
theorem ilTT_pos {x M : Int} (P : ilPre x M) : 0 < ilTT M ∧ ilTT M ≤ 1000 := by
  have h0 := P.M0
  have h1 := ndig_pos (a := M) (by omega)
  have h2 : ndig M ≤ 1921 := by
    have := int_text_len_1921 (log2_M P)
    unfold ndig; omega
  unfold ilTT
  have := fdiv24 (-10 * ndig M)
  omega
theorem big_ge : 10000 ≤ Big := by
  refine big_250 ?_
  have e : (2 : Int) ^ 1000 = 2 ^ 14 * 2 ^ 986 := by decide +kernel
  decide +kernel
theorem big_ge1 : 1000000 ≤ Big := by
  refine big_250 ?_
  decide +kernel
theorem horn_state {x M y R ys w T : Int} {pre : List Int} {k : Int} (P : ilPre x M) (_hys : ys = rshN y R) (h : ilF x M y R) (t : ilT M y R = false) (hk : 1 ≤ k)
    (hw : w = pre.foldl (horn M ys) (divN M T) ∧ (-(2 * M) ≤ w ∧ w ≤ 2 * M) ∧ intBits w ≤ 300) :
    divN M k - divN (ys * w) M = (pre ++ [k]).foldl (horn M ys) (divN M T) ∧ (-(2 * M) ≤ divN M k - divN (ys * w) M ∧ divN M k - divN (ys * w) M ≤ 2 * M) ∧ intBits (divN M k - divN (ys * w) M) ≤ 300 := by
  subst _hys
  have hb := horn_bound (k := k) P.M0 hk (ys_bound P h.jl.1 t) hw.2.1
  refine ⟨?_, hb, bits2M P hb⟩
  rw [List.foldl_append, ← hw.1]
  rfl
theorem horn_start {x M T : Int} (P : ilPre x M) (hT : 0 < T) (ys : Int) : divN M T = ([] : List Int).foldl (horn M ys) (divN M T) ∧ (-(2 * M) ≤ divN M T ∧ divN M T ≤ 2 * M) ∧ intBits (divN M T) ≤ 300 := by
  have hb := divM_bound (k := T) P.M0 hT
  exact ⟨rfl, hb, bits2M P hb⟩
@[irreducible] def ilogW (M ys : Int) : Int := (downKs (ilTT M - 1) (ilTT M - 1 - 0).toNat).foldl (horn M ys) (divN M (ilTT M))
@[irreducible] def ilogN (x M : Int) : Int := divN (ilogW M (rshN (ilLp 40 M (x - M) 0).1 (ilLp 40 M (x - M) 0).2) * (ilLp 40 M (x - M) 0).1) M
theorem ilog_end {x M y R w : Int} (h : ilF x M y R) (t : ilT M y R = false) (hw : w = (downKs (ilTT M - 1) (ilTT M - 1 - 0).toNat).foldl (horn M (rshN y R)) (divN M (ilTT M))) : divN (w * y) M = ilogN x M := by
  unfold ilogN ilogW
  rw [h.jl.stop t, hw]

@[irreducible] def log10D (p : Int) : Int := 23025850929940456840179914546843642076011014886 / 10 ^ (46 - p).toNat
abbrev digS : Str := Str.ofString "23025850929940456840179914546843642076011014886"
theorem dig_all : ∀ k : Fin 47, PySem.intText? (Txt.slice digS none (some (((k.val : Nat) : Int) + 1))) = some (log10D ((k.val : Nat) : Int)) ∧ (Txt.slice digS none (some (((k.val : Nat) : Int) + 1))).length ≤ 640 := by decide +kernel
theorem dig_text {p : Int} (h0 : 0 ≤ p) (h1 : p ≤ 46) : PySem.intText? (Txt.slice digS none (some (p + 1))) = some (log10D p) ∧ (Txt.slice digS none (some (p + 1))).length ≤ 640 := by
  obtain ⟨m, rfl⟩ := Int.eq_ofNat_of_zero_le h0
  exact dig_all ⟨m, by omega⟩
theorem log10D_pos {p : Int} (h0 : 0 ≤ p) (h1 : p ≤ 46) : 0 < log10D p ∧ log10D p ≤ Big := by
  have h : ∀ k : Fin 47, 0 < log10D ((k.val : Nat) : Int) ∧ log10D ((k.val : Nat) : Int) ≤ 2 ^ 1000 := by decide +kernel
  obtain ⟨m, rfl⟩ := Int.eq_ofNat_of_zero_le h0
  have := h ⟨m, by omega⟩
  exact ⟨this.1, big_250 this.2⟩
theorem natAbs_divN_le {a b : Int} (hb : 0 < b) : (divN a b).natAbs ≤ a.natAbs := by
  rcases Int.le_total 0 a with h | h
  · have g1 : 0 ≤ divN a b := divN_ge hb (by omega)
    have g2 : divN a b ≤ a := divN_le hb (by
      have : 1 * a ≤ b * a := Int.mul_le_mul_of_nonneg_right (by omega) h
      omega)
    omega
  · have g1 : divN a b ≤ 0 := divN_le hb (by omega)
    have g2 : a ≤ divN a b := divN_ge hb (by
      have : 1 * (-a) ≤ b * (-a) := Int.mul_le_mul_of_nonneg_right (by omega) (by omega)
      grind)
    omega
theorem intBits_divN_le {a b : Int} {m : Nat} (hb : 0 < b) (h : intBits a ≤ m) : intBits (divN a b) ≤ m := intBits_le_of_natAbs (natAbs_divN_le hb) h
theorem ilJ_run {x M : Int} (P : ilPre x M) : ∀ (n : Nat) (y R : Int), ilJL x M y R → 40 - R.toNat = n → ∃ y' R', ilJL x M y' R' ∧ ilT M y' R' = false ∧ ilLp 40 M (x - M) 0 = (y', R')
  | 0, y, R, h, e => by have := h.1.R1; omega
  | n + 1, y, R, h, e => by
    cases t : ilT M y R with
    | false => exact ⟨y, R, h, t, h.stop t⟩
    | true => exact ilJ_run P n _ _ (h.next P t) (by have := h.1.R0; omega)
theorem ilLp_facts {x M : Int} (P : ilPre x M) : ∃ y R, ilF x M y R ∧ ilT M y R = false ∧ ilLp 40 M (x - M) 0 = (y, R) := by
  obtain ⟨y, R, h, t, e⟩ := ilJ_run P 40 (x - M) 0 (ilJL.start P) rfl
  exact ⟨y, R, h.full P, t, e⟩
theorem mem_down {a₀ : Int} {n : Nat} {k : Int} (h : k ∈ downKs a₀ n) : a₀ - (n : Int) < k ∧ k ≤ a₀ := mem_downKs h
theorem horn_foldl {x M y R : Int} (P : ilPre x M) (h : ilF x M y R) (t : ilT M y R = false) : ∀ (ks : List Int) (w : Int), (∀ k ∈ ks, 1 ≤ k) → (-(2 * M) ≤ w ∧ w ≤ 2 * M) → -(2 * M) ≤ ks.foldl (horn M (rshN y R)) w ∧ ks.foldl (horn M (rshN y R)) w ≤ 2 * M
  | [], w, _, hw => hw
  | k :: r, w, hk, hw => horn_foldl P h t r _ (fun q hq => hk q (.tail _ hq)) (horn_bound P.M0 (hk k (.head _)) (ys_bound P h.jl.1 t) hw)
theorem ilogW_bound {x M y R : Int} (P : ilPre x M) (h : ilF x M y R) (t : ilT M y R = false) : -(2 * M) ≤ ilogW M (rshN y R) ∧ ilogW M (rshN y R) ≤ 2 * M := by
  have hT := ilTT_pos P
  unfold ilogW
  refine horn_foldl P h t _ _ (fun k hk => ?_) (divM_bound P.M0 hT.1)
  have := mem_down hk
  omega
theorem ilog_bits {x M : Int} (P : ilPre x M) : intBits (ilogN x M) ≤ 600 := by
  obtain ⟨y, R, h, t, e⟩ := ilLp_facts P
  unfold ilogN
  rw [e]
  refine intBits_divN_le (by have := P.M0; omega) ?_
  exact intBits_mul_le (m := 300) (n := 300) (bits2M P (ilogW_bound P h t)) h.yb

def dl_f (c e : Int) : Int := e + ndig c - (if decide (1 ≤ e + ndig c) = true then 1 else 0)
def dl_k (c e q : Int) : Int := e + q - dl_f c e
@[irreducible] def dl_c (c e q : Int) : Int := if 0 ≤ dl_k c e q then c * 10 ^ (dl_k c e q).toNat else divN c (10 ^ (-(dl_k c e q)).toNat)
def dl_d (c e q : Int) : Int := divN (ilogN (dl_c c e q) (10 ^ q.toNat) * 10 ^ q.toNat) (log10D q)
@[irreducible] def dlog10N (c e p : Int) : Int := if 0 < p + 2 then divN (dl_f c e * 10 ^ (p + 2).toNat + dl_d c e (p + 2)) 100 else divN (divN (dl_f c e) (10 ^ (-(p + 2)).toNat) + 0) 100
theorem ten_split {a b : Nat} (h : b ≤ a) : (10 : Int) ^ a = 10 ^ b * 10 ^ (a - b) := by
  rw [← Int.pow_add]; congr 1; omega
theorem ten_pos (k : Nat) : (0 : Int) < 10 ^ k := Int.pow_pos (by omega)
theorem ten_le {a b : Nat} (h : a ≤ b) : (10 : Int) ^ a ≤ 10 ^ b := by
  rw [ten_split h]
  have h1 := ten_pos a
  have h2 := ten_pos (b - a)
  have : (10 : Int) ^ a * 1 ≤ 10 ^ a * 10 ^ (b - a) := Int.mul_le_mul_of_nonneg_left (by omega) (by omega)
  omega
/-- the size of a number by its figures -/
theorem ndig_range {c : Int} (h : 0 < c) : 1 ≤ ndig c ∧ 10 ^ (ndig c - 1).toNat ≤ c ∧ c < 10 ^ (ndig c).toNat := by
  have h1 := ndig_pos h
  refine ⟨h1, ?_, ?_⟩
  · refine Int.not_lt.mp fun hlt => ?_
    by_cases hz : (ndig c - 1).toNat = 0
    · rw [hz, Int.pow_zero] at hlt; omega
    · have := ndig_le (Int.le_of_lt h) (by omega) hlt; omega
  · refine Int.not_le.mp fun hle => ?_
    have := ndig_gt h hle; omega
theorem scale_mul {c : Int} {l k : Nat} (h1 : 10 ^ l ≤ c) (h2 : c < 10 ^ (l + 1)) : 10 ^ (l + k) ≤ c * 10 ^ k ∧ c * 10 ^ k ≤ 10 ^ (l + 1 + k) := by
  have hp := ten_pos k
  rw [Int.pow_add, Int.pow_add]
  exact ⟨Int.mul_le_mul_of_nonneg_right h1 (by omega), Int.mul_le_mul_of_nonneg_right (by omega) (by omega)⟩
theorem scale_div {c : Int} {l k : Nat} (hk : k ≤ l) (h1 : 10 ^ l ≤ c) (h2 : c < 10 ^ (l + 1)) : 10 ^ (l - k) ≤ divN c (10 ^ k) ∧ divN c (10 ^ k) ≤ 10 ^ (l + 1 - k) := by
  refine ⟨divN_ge (ten_pos k) ?_, divN_le (ten_pos k) ?_⟩
  · rw [← ten_split hk]; exact h1
  · rw [← ten_split (by omega)]; omega
/-- the scaled coefficient lies within a decade of M -/
theorem dl_c_range {c e q : Int} (hc : 0 < c) (hq : 2 ≤ q) : (1 ≤ e + ndig c → 10 ^ q.toNat ≤ dl_c c e q ∧ dl_c c e q ≤ 10 ^ (q.toNat + 1)) ∧ (¬ 1 ≤ e + ndig c → 10 ^ (q.toNat - 1) ≤ dl_c c e q ∧ dl_c c e q ≤ 10 ^ q.toNat) := by
  obtain ⟨n1, n2, n3⟩ := ndig_range hc
  have e3 : (ndig c).toNat = (ndig c - 1).toNat + 1 := by omega
  rw [e3] at n3
  refine ⟨fun h => ?_, fun h => ?_⟩
  · have hk : dl_k c e q = q - ndig c + 1 := by
      unfold dl_k dl_f; rw [if_pos (decide_eq_true h)]; omega
    unfold dl_c
    rw [hk]
    split
    · next c1 =>
      have := scale_mul (k := (q - ndig c + 1).toNat) n2 n3
      have e1 : (ndig c - 1).toNat + (q - ndig c + 1).toNat = q.toNat := by omega
      have e2 : (ndig c - 1).toNat + 1 + (q - ndig c + 1).toNat = q.toNat + 1 := by omega
      rw [e1, e2] at this; exact this
    · next c1 =>
      have := scale_div (k := (-(q - ndig c + 1)).toNat) (by omega) n2 n3
      have e1 : (ndig c - 1).toNat - (-(q - ndig c + 1)).toNat = q.toNat := by omega
      have e2 : (ndig c - 1).toNat + 1 - (-(q - ndig c + 1)).toNat = q.toNat + 1 := by omega
      rw [e1, e2] at this; exact this
  · have hk : dl_k c e q = q - ndig c := by
      unfold dl_k dl_f; rw [if_neg (by simp; omega)]; omega
    unfold dl_c
    rw [hk]
    split
    · next c1 =>
      have := scale_mul (k := (q - ndig c).toNat) n2 n3
      have e1 : (ndig c - 1).toNat + (q - ndig c).toNat = q.toNat - 1 := by omega
      have e2 : (ndig c - 1).toNat + 1 + (q - ndig c).toNat = q.toNat := by omega
      rw [e1, e2] at this; exact this
    · next c1 =>
      have := scale_div (k := (-(q - ndig c)).toNat) (by omega) n2 n3
      have e1 : (ndig c - 1).toNat - (-(q - ndig c)).toNat = q.toNat - 1 := by omega
      have e2 : (ndig c - 1).toNat + 1 - (-(q - ndig c)).toNat = q.toNat := by omega
      rw [e1, e2] at this; exact this
theorem dl_pre {c e q : Int} (hc : 0 < c) (hq : 2 ≤ q) (hq2 : q ≤ 70) : ilPre (dl_c c e q) (10 ^ q.toNat) := by
  have h := dl_c_range (e := e) hc hq
  have e1 : (10 : Int) ^ (q.toNat + 1) = 10 * 10 ^ q.toNat := by rw [Int.pow_succ]; omega
  have e2 : (10 : Int) ^ q.toNat = 10 * 10 ^ (q.toNat - 1) := by
    have : q.toNat = q.toNat - 1 + 1 := by omega
    rw [this, Int.pow_succ]; simp; omega
  have p0 := ten_pos (q.toNat - 1)
  refine ⟨?_, ?_, ?_, ?_⟩
  · have := ten_le (a := 2) (b := q.toNat) (by omega); omega
  · refine Int.le_trans (ten_le (b := 70) (by omega)) (by decide +kernel)
  · by_cases g : 1 ≤ e + ndig c
    · have := h.1 g; omega
    · have := h.2 g; omega
  · by_cases g : 1 ≤ e + ndig c
    · have := h.1 g; omega
    · have := h.2 g; omega

theorem bits10 (n : Nat) : intBits ((10 : Int) ^ n) ≤ 4 * n + 1 := intBits_pow_le (by decide) n
theorem mul_ten {a : Int} {n : Nat} (ha : intBits a ≤ 5000000) (hn : n ≤ 1000000) : IntMulOk a (10 ^ n) :=
  IntMulOk.of_le (m := 5000000) (n := 4000001) ha (Nat.le_trans (bits10 n) (by omega)) (by decide)
theorem ten_toNat {n k : Int} (h : n ≤ k) (hk : 0 ≤ k) : n.toNat ≤ k.toNat := by omega
theorem neg_nonneg_of {k : Int} (h : ¬ 0 ≤ k) : 0 ≤ -k := by omega
theorem neg_le_of {k : Int} (h : -2000 ≤ k) : -k ≤ 1000000 := by omega
theorem toNat_le_of {k : Int} (h : k ≤ 1000) : k.toNat ≤ 1000000 := by omega
theorem toNat_neg_of {k : Int} (h : -2000 ≤ k) : (-k).toNat ≤ 2000 := by omega
theorem bits_log2 {c : Int} (h : c.natAbs.log2 < 1920) : intBits c ≤ 5000000 := by
  refine Nat.le_trans (m := 1920) ?_ (by decide)
  rw [intBits_le_iff]
  by_cases hz : c.natAbs = 0
  · rw [hz]; exact Nat.pow_pos (by omega)
  · exact (Nat.log2_lt hz).mp h
theorem ten_big {n : Nat} (h : n ≤ 2000) : (10 : Int) ^ n ≤ Big := by
  refine Int.le_trans (ten_le h) ?_
  unfold Big
  have e1 : ((10 ^ 2000 : Nat) : Int) = (10 : Int) ^ 2000 := Int.natCast_pow 10 2000
  have e2 : ((2 ^ 8000 : Nat) : Int) = (2 : Int) ^ 8000 := Int.natCast_pow 2 8000
  rw [← e1, ← e2]
  exact Int.ofNat_le.mpr (by decide +kernel)
theorem dl_pre1 {c e q : Int} (hc : 0 < c) (hq : 2 ≤ q) (hq2 : q ≤ 70) (hk : 0 ≤ dl_k c e q) : ilPre (c * 10 ^ (dl_k c e q).toNat) (10 ^ q.toNat) := by
  have := dl_pre (e := e) hc hq hq2
  unfold dl_c at this
  rwa [if_pos hk] at this
theorem dl_pre2 {c e q : Int} (hc : 0 < c) (hq : 2 ≤ q) (hq2 : q ≤ 70) (hk : ¬ 0 ≤ dl_k c e q) : ilPre (divN c (10 ^ (-(dl_k c e q)).toNat)) (10 ^ q.toNat) := by
  have := dl_pre (e := e) hc hq hq2
  unfold dl_c at this
  rwa [if_neg hk] at this
theorem ilog_bits1 {c e q k : Int} (hc : 0 < c) (hq : 2 ≤ q) (hq2 : q ≤ 70) (hkk : k = dl_k c e q) (hk : 0 ≤ k) : intBits (ilogN (c * 10 ^ k.toNat) (10 ^ q.toNat)) ≤ 5000000 := by
  subst hkk; exact Nat.le_trans (ilog_bits (dl_pre1 hc hq hq2 hk)) (by decide)
theorem ilog_bits2 {c e q k : Int} (hc : 0 < c) (hq : 2 ≤ q) (hq2 : q ≤ 70) (hkk : k = dl_k c e q) (hk : ¬ 0 ≤ k) : intBits (ilogN (divN c (10 ^ (-k).toNat)) (10 ^ q.toNat)) ≤ 5000000 := by
  subst hkk; exact Nat.le_trans (ilog_bits (dl_pre2 hc hq hq2 hk)) (by decide)
theorem dl_kbound {c e q : Int} (h0 : 0 < c) (h : ndig c ≤ 1921) (hq : 2 ≤ q) (hq2 : q ≤ 70) : dl_k c e q ≤ 1000 ∧ -2000 ≤ dl_k c e q := by
  have := ndig_pos h0
  unfold dl_k dl_f
  split <;> omega
theorem dl_fbits {c e : Int} (he : intBits e ≤ 4000000) (h : ndig c ≤ 1921) (h0 : 0 < c) : intBits (dl_f c e) ≤ 5000000 := by
  have h1 := ndig_pos h0
  unfold dl_f
  have hb : intBits (ndig c) ≤ 4000000 := Nat.le_trans (intBits_le_64 (by omega) (by omega)) (by decide)
  have h2 := intBits_add_le he hb
  have h3 : intBits (if decide (1 ≤ e + ndig c) = true then (1 : Int) else 0) ≤ 1 := by split <;> decide
  have h4 := intBits_sub_le h2 h3
  omega
theorem dl_val1 {c e p : Int} (hp : 0 < p + 2) (hk : 0 ≤ dl_k c e (p + 2)) : divN (dl_f c e * 10 ^ (p + 2).toNat + divN (ilogN (c * 10 ^ (dl_k c e (p + 2)).toNat) (10 ^ (p + 2).toNat) * 10 ^ (p + 2).toNat) (log10D (p + 2))) 100 = dlog10N c e p := by
  unfold dlog10N dl_d dl_c
  rw [if_pos hp, if_pos hk]
theorem dl_val2 {c e p : Int} (hp : 0 < p + 2) (hk : ¬ 0 ≤ dl_k c e (p + 2)) : divN (dl_f c e * 10 ^ (p + 2).toNat + divN (ilogN (divN c (10 ^ (-(dl_k c e (p + 2))).toNat)) (10 ^ (p + 2).toNat) * 10 ^ (p + 2).toNat) (log10D (p + 2))) 100 = dlog10N c e p := by
  unfold dlog10N dl_d dl_c
  rw [if_pos hp, if_neg hk]

/-- the laws' own count of figures: while 10 ** size <= c: size += 1 -/
def szP (c size : Int) : Prop := 10 ^ (size - 1).toNat ≤ c
theorem sz_start {c : Int} (h : 1 ≤ c) : ((1 : Int) ≤ 1 ∧ (1 : Int) ≤ 202) ∧ szP c 1 := ⟨by omega, by unfold szP; exact h⟩
theorem ten_lt_iff {a b : Nat} : (10 : Int) ^ a ≤ 10 ^ b → a ≤ b := fun h => by
  refine Nat.not_lt.mp fun hlt => ?_
  have h1 := ten_le (a := b + 1) (b := a) hlt
  rw [Int.pow_succ] at h1
  have := ten_pos b
  omega
theorem sz_next {c size : Int} (hc : c ≤ 10 ^ 200) (h : (1 ≤ size ∧ size ≤ 202) ∧ szP c size) (ht : 10 ^ size.toNat ≤ c) : (1 ≤ size + 1 ∧ size + 1 ≤ 202) ∧ szP c (size + 1) := by
  have := ten_lt_iff (Int.le_trans ht hc)
  refine ⟨by omega, ?_⟩
  unfold szP
  have e : (size + 1 - 1).toNat = size.toNat := by omega
  rw [e]; exact ht
theorem sz_end {c size : Int} (h1 : 1 ≤ size) (h : szP c size) (ht : ¬ 10 ^ size.toNat ≤ c) : ndig c = size := by
  unfold szP at h
  have := ndig_eq (a := c) (k := (size - 1).toNat) h (by
    have e : (size - 1).toNat + 1 = size.toNat := by omega
    rw [e]; omega)
  omega
theorem log2_200 {c : Int} (h0 : 0 < c) (h : c ≤ 10 ^ 200) : c.natAbs.log2 < 1920 := by
  refine (Nat.log2_lt (by omega)).mpr ?_
  have e : ((10 ^ 200 : Nat) : Int) = (10 : Int) ^ 200 := Int.natCast_pow 10 200
  rw [← e] at h
  have h2 : (10 ^ 200 : Nat) < 2 ^ 1920 := by decide +kernel
  generalize (10 ^ 200 : Nat) = k at *
  omega

/-! a for over a made tuple: what a turn stores is forgotten, the ledger stands -/
def TurnEnd (h₀ : Heap) (L : Addr) (x : Str) (stored : List Str) (m₀ : Str → Option Value) (led : List (Addr × Obj)) (Q : Flow → Shared → Prop) (s₁ : Shared) (f : Flow) (s₂ : Shared) : Prop :=
  match f with
  | .ret v => Q (.ret v) s₂
  | .brk => Q .next s₂
  | _ => ∃ h' tk m', s₂ = { s₁ with heap := h', toks := tk } ∧ Fr h₀ L h' m' ∧ News h₀ L h' led ∧ ∀ y, y ≠ x → stored.contains y = false → m' y = m₀ y
section
variable {prog : Program} {w : World} {A : Around} {E : Value → Shared → Prop} {s : Shared} {env : Env} {h₀ : Heap} {x : Str} {body : List Stmt} {Q : Flow → Shared → Prop}
theorem agree_map {m₀ m₁ : Str → Option Value} {stored : List Str} {v : Value} (h : ∀ y, y ≠ x → stored.contains y = false → m₁ y = m₀ y) :
    (fun y => if y = x then some v else m₁ y) = fun y => if y = x then some v else if stored.contains y then m₁ y else m₀ y := by
  funext y
  by_cases hy : y = x
  · rw [if_pos hy, if_pos hy]
  · rw [if_neg hy, if_neg hy]
    cases hc : stored.contains y with
    | true => simp
    | false => simp; exact h y hy hc
theorem tup_each {l : Addr} {its : Array Value} {o : Obj} {m₀ : Str → Option Value} {news : List (Addr × Obj)} (stored : List Str)
    (hh : A.handled = none) (hl : (l, o) ∈ news) (hoc : o.cls = .type "tuple") (hod : ∃ k, o.data = .seq its k) (F : Fr h₀ env.locals s.heap m₀) (N : News h₀ env.locals s.heap news)
    (turn : ∀ (i : Nat) v (u : Str → Option Value) h tk own, its[i]? = some v → Fr h₀ env.locals h (fun y => if y = x then some v else if stored.contains y then u y else m₀ y) → News h₀ env.locals h (news ++ own) →
      wpAny (model prog w) A (execs body env) (TurnEnd h₀ env.locals x stored m₀ (news ++ own) Q { s with heap := h, toks := tk }) E { s with heap := h, toks := tk })
    (done : ∀ (u : Str → Option Value) h tk, Fr h₀ env.locals h (fun y => if y = x then u y else if stored.contains y then u y else m₀ y) → News h₀ env.locals h news → Q .next { s with heap := h, toks := tk }) :
    wpAny (model prog w) A (pyIter (.ref l)) (fun it s₂ => LoopAtV prog w A h₀ env x body Q E it s₂) E s := by
  obtain ⟨k, hod⟩ := hod
  have hol := (N _ hl).1
  have hls : s.heap.IsTuple l its := ⟨o, hol, hoc, k, hod⟩
  have hlt : l < s.heap.objs.size := Heap.lt_size hol
  refine wpAny_pyIter_tuple hls ?_
  have up : ∀ b o', s.heap.get? b = some o' → (s.heap.push { cls := .type "tuple_iterator", data := .fields #[.ref l, .int 0 0] }).get? b = some o' := fun b o' e => Heap.get?_push_of_some _ e
  refine ⟨s.heap.objs.size, [s.heap.objs.size, l], [s.heap.objs.size], its.size, _, _, m₀, news, (fun _ m nx => nx = news ∧ ∀ y, y ≠ x → stored.contains y = false → m y = m₀ y), rfl,
    Walks.tuple hh s.heap.objs.size l (Nat.ne_of_lt hlt) its, ?_, ?_, ?_, ⟨⟨_, Heap.get?_push_size _ rfl, rfl, rfl⟩, hls.push _⟩, F.keeps up, N.grown up, ⟨rfl, fun _ _ _ => rfl⟩, ?_, ?_⟩
  · intro hm
    rcases List.mem_cons.mp hm with e | hm
    · exact absurd F.ns.lt (e ▸ Nat.lt_irrefl _)
    · exact (N _ hl).2.1 (List.mem_singleton.mp hm).symm
  · intro b hb
    rw [List.mem_singleton.mp hb]; exact next_is_new F
  · intro p hp hm
    exact Nat.ne_of_lt (Heap.lt_size (N p hp).1) (List.mem_singleton.mp hm)
  · rintro i v m₁ news₁ s₁ own ⟨h, tk, rfl⟩ hi hP ⟨rfl, hag⟩ hoff hown hget hall _ F₁ N₁
    rw [agree_map hag] at F₁
    have N₂ : News h₀ env.locals h (news₁ ++ own) := fun p hp => N₁ p ((List.mem_append.mp hp).elim (fun q => List.mem_append.mpr (.inr q)) fun q => List.mem_append.mpr (.inl q))
    refine wpAny_mono (turn i v m₁ h tk own hP F₁ N₂) (fun f s₂ p => ?_) fun _ _ e => e
    have fin : (∃ h' tk' m', s₂ = { ({ s with heap := h, toks := tk } : Shared) with heap := h', toks := tk' } ∧ Fr h₀ env.locals h' m' ∧ News h₀ env.locals h' (news₁ ++ own) ∧ ∀ y, y ≠ x → stored.contains y = false → m' y = m₀ y) →
        LoopStepU h₀ env.locals [s.heap.objs.size] own (fun m nx => nx = news₁ ∧ ∀ y, y ≠ x → stored.contains y = false → m y = m₀ y) { s with heap := h, toks := tk } .next s₂ := by
      rintro ⟨h', tk', m', e, F', N', ha⟩
      exact ⟨rfl, h', tk', m', news₁, e, F', fun p hp => N' p ((List.mem_append.mp hp).elim (fun q => List.mem_append.mpr (.inr q)) fun q => List.mem_append.mpr (.inl q)), hoff, rfl, ha⟩
    cases f with
    | ret v => exact .ret p
    | brk => exact .brk p
    | next => exact .next (fin p)
    | cont => exact .cont (fin p)
  · rintro h' tk m' news' F' N' _ ⟨rfl, ha⟩
    refine done m' h' tk ?_ N'
    have em : m' = fun y => if y = x then m' y else if stored.contains y then m' y else m₀ y := by
      funext y
      by_cases hy : y = x
      · rw [if_pos hy]
      · rw [if_neg hy]
        cases hc : stored.contains y with
        | true => simp
        | false => simp; exact ha y hy hc
    rw [em] at F'
    have e2 : (fun y => if y = x then (fun y => if y = x then m' y else if stored.contains y = true then m' y else m₀ y) y else if stored.contains y = true then m' y else m₀ y) = fun y => if y = x then m' y else if stored.contains y = true then m' y else m₀ y := by
      funext y; by_cases hy : y = x <;> simp [hy]
    first | exact F' | exact e2 ▸ F'
end

section
variable {prog : Program} {w : World} {A : Around} {E : Value → Shared → Prop} {s : Shared} {env : Env} {h₀ : Heap} {x : Str} {body : List Stmt} {Q : Flow → Shared → Prop}
/-- a for over a range of any step: what a turn stores is forgotten, the ledger stands -/
theorem range_each {r : Addr} {a₀ b₀ c₀ : Int} {t₀ u₀ v₀ : Tok} {n : Nat} {m₀ : Str → Option Value} {news : List (Addr × Obj)} (stored : List Str)
    (hh : A.handled = none) (hr : IsRange s.heap r a₀ b₀ c₀ t₀ u₀ v₀) (hsmall : Builtin.Range.small a₀ b₀ c₀ = true) (hn : Builtin.Range.rangeSize a₀ b₀ c₀ = (n : Int)) (F : Fr h₀ env.locals s.heap m₀) (N : News h₀ env.locals s.heap news)
    (turn : ∀ (i : Nat) t (u : Str → Option Value) h tk own, i < n → Fr h₀ env.locals h (fun y => if y = x then some (.int (a₀ + i * c₀) t) else if stored.contains y then u y else m₀ y) → News h₀ env.locals h (news ++ own) →
      wpAny (model prog w) A (execs body env) (TurnEnd h₀ env.locals x stored m₀ (news ++ own) Q { s with heap := h, toks := tk }) E { s with heap := h, toks := tk })
    (done : ∀ (u : Str → Option Value) h tk, Fr h₀ env.locals h (fun y => if y = x then u y else if stored.contains y then u y else m₀ y) → News h₀ env.locals h news → Q .next { s with heap := h, toks := tk }) :
    wpAny (model prog w) A (pyIter (.ref r)) (fun it s₂ => LoopAtV prog w A h₀ env x body Q E it s₂) E s := by
  refine wpAny_pyIter_range hr hsmall ?_
  refine ⟨s.heap.objs.size, [s.heap.objs.size], [s.heap.objs.size], n, _, _, m₀, news, (fun _ m nx => nx = news ∧ ∀ y, y ≠ x → stored.contains y = false → m y = m₀ y), rfl,
    (Walks.range hh s.heap.objs.size a₀ c₀ n).bound, ?_, ?_, ?_, (by show IsRangeIter _ _ _ _ _; rw [hn]; simpa using Heap.get?_push_size _ rfl), F.push _, (fun p hp => ⟨Heap.get?_push_of_some _ (N p hp).1, (N p hp).2⟩), ⟨rfl, fun _ _ _ => rfl⟩, ?_, ?_⟩
  · intro hm
    exact absurd F.ns.lt ((List.mem_singleton.mp hm) ▸ Nat.lt_irrefl _)
  · intro b hb
    rw [List.mem_singleton.mp hb]; exact next_is_new F
  · intro p hp hm
    exact Nat.ne_of_lt (Heap.lt_size (N p hp).1) (List.mem_singleton.mp hm)
  · rintro i v m₁ news₁ s₁ own ⟨h, tk, rfl⟩ hi ⟨hP, t, rfl⟩ ⟨rfl, hag⟩ hoff hown hget hall _ F₁ N₁
    rw [agree_map hag] at F₁
    have N₂ : News h₀ env.locals h (news₁ ++ own) := fun p hp => N₁ p ((List.mem_append.mp hp).elim (fun q => List.mem_append.mpr (.inr q)) fun q => List.mem_append.mpr (.inl q))
    refine wpAny_mono (turn i t m₁ h tk own hP F₁ N₂) (fun f s₂ p => ?_) fun _ _ e => e
    have fin : (∃ h' tk' m', s₂ = { ({ s with heap := h, toks := tk } : Shared) with heap := h', toks := tk' } ∧ Fr h₀ env.locals h' m' ∧ News h₀ env.locals h' (news₁ ++ own) ∧ ∀ y, y ≠ x → stored.contains y = false → m' y = m₀ y) →
        LoopStepU h₀ env.locals [s.heap.objs.size] own (fun m nx => nx = news₁ ∧ ∀ y, y ≠ x → stored.contains y = false → m y = m₀ y) { s with heap := h, toks := tk } .next s₂ := by
      rintro ⟨h', tk', m', e, F', N', ha⟩
      exact ⟨rfl, h', tk', m', news₁, e, F', fun p hp => N' p ((List.mem_append.mp hp).elim (fun q => List.mem_append.mpr (.inr q)) fun q => List.mem_append.mpr (.inl q)), hoff, rfl, ha⟩
    cases f with
    | ret v => exact .ret p
    | brk => exact .brk p
    | next => exact .next (fin p)
    | cont => exact .cont (fin p)
  · rintro h' tk m' news' F' N' _ ⟨rfl, ha⟩
    refine done m' h' tk ?_ N'
    have em : m' = fun y => if y = x then m' y else if stored.contains y then m' y else m₀ y := by
      funext y
      by_cases hy : y = x
      · rw [if_pos hy]
      · rw [if_neg hy]
        cases hc : stored.contains y with
        | true => simp
        | false => simp; exact ha y hy hc
    rw [em] at F'
    have e2 : (fun y => if y = x then (fun y => if y = x then m' y else if stored.contains y = true then m' y else m₀ y) y else if stored.contains y = true then m' y else m₀ y) = fun y => if y = x then m' y else if stored.contains y = true then m' y else m₀ y := by
      funext y; by_cases hy : y = x <;> simp [hy]
    first | exact F' | exact e2 ▸ F'
end

theorem divN_uniq {a b q : Int} (hb : 0 < b) (h1 : -b ≤ 2 * (a - b * q)) (h2 : 2 * (a - b * q) ≤ b) (h3 : 2 * (a - b * q) = b ∨ 2 * (a - b * q) = -b → q % 2 = 0) : divN a b = q := by
  have n := divN_near (a := a) hb
  have e := divN_even (a := a) hb
  generalize divN a b = r at *
  rcases Int.lt_trichotomy r q with h | h | h
  · exfalso
    have k : b * (r + 1) ≤ b * q := Int.mul_le_mul_of_nonneg_left (by omega) (by omega)
    have e1 : b * (r + 1) = b * r + b := by grind
    have e2 : b * q = b * r + b := by omega
    have e3 : q = r + 1 := by
      refine Int.le_antisymm (Int.not_lt.mp fun hlt => ?_) (by omega)
      have : b * (r + 2) ≤ b * q := Int.mul_le_mul_of_nonneg_left (by omega) (by omega)
      have e4 : b * (r + 2) = b * r + b + b := by grind
      omega
    have a1 := e (by omega)
    have a2 := h3 (by omega)
    omega
  · exact h
  · exfalso
    have k : b * (q + 1) ≤ b * r := Int.mul_le_mul_of_nonneg_left (by omega) (by omega)
    have e1 : b * (q + 1) = b * q + b := by grind
    have e3 : r = q + 1 := by
      refine Int.le_antisymm (Int.not_lt.mp fun hlt => ?_) (by omega)
      have : b * (q + 2) ≤ b * r := Int.mul_le_mul_of_nonneg_left (by omega) (by omega)
      have e4 : b * (q + 2) = b * q + b + b := by grind
      omega
    have e2 : b * r = b * q + b := by rw [e3]; exact e1
    have a1 := e (by omega)
    have a2 := h3 (by omega)
    omega
theorem divN_shift {z d b : Int} (hb : 0 < b) (hz : z % 2 = 0) : divN (z * b + d) b = z + divN d b := by
  have n := divN_near (a := d) hb
  have e := divN_even (a := d) hb
  refine divN_uniq hb ?_ ?_ ?_ <;> (have e1 : z * b + d - b * (z + divN d b) = d - b * divN d b := by grind) <;> rw [e1]
  · exact n.1
  · exact n.2
  · intro h; have := e h; omega
theorem half_pow {j : Int} (hj : 1 ≤ j) : 2 * (5 * (10 : Int) ^ (j - 1).toNat) = 10 ^ j.toNat := by
  have e : j.toNat = (j - 1).toNat + 1 := by omega
  rw [e, Int.pow_succ]; omega
/-- the long number read at the first figures -/
theorem near_up {fig tail B half : Int} (hB : 0 < B) (hh : 2 * half = B) (h0 : 0 ≤ tail) (h1 : tail < B) (h : half < tail ∨ (tail = half ∧ fig % 2 = 1)) : divN (fig * B + tail) B = fig + 1 := by
  refine divN_uniq hB ?_ ?_ ?_ <;> (have e1 : fig * B + tail - B * (fig + 1) = tail - B := by grind) <;> rw [e1]
  · omega
  · omega
  · intro h2; omega
theorem near_dn {fig tail B half : Int} (hB : 0 < B) (hh : 2 * half = B) (h0 : 0 ≤ tail) (h1 : tail < B) (h : ¬ (half < tail ∨ (tail = half ∧ fig % 2 = 1))) : divN (fig * B + tail) B = fig := by
  refine divN_uniq hB ?_ ?_ ?_ <;> (have e1 : fig * B + tail - B * fig = tail := by grind) <;> rw [e1]
  · omega
  · omega
  · intro h2; omega
theorem ilog_one {M : Int} (hM : 100 ≤ M) : ilogN M M = 0 := by
  have e : ilLp 40 M (M - M) 0 = (0, 0) := by
    have e0 : M - M = 0 := by omega
    rw [e0]
    show (if ilT M 0 0 = true then _ else _) = _
    have ht : ilT M 0 0 = false := by
      unfold ilT
      rw [if_pos (by omega)]
      refine decide_eq_false ?_
      show ¬ M ≤ (0 : Int) * 2 ^ (8 - 0 : Int).toNat
      omega
    rw [if_neg (by simp [ht])]
  unfold ilogN
  rw [e]
  show divN (_ * 0) M = 0
  rw [Int.mul_zero]
  refine divN_uniq (by omega) ?_ ?_ ?_ <;> omega
theorem divN_zero {b : Int} (hb : 0 < b) : divN 0 b = 0 := by
  refine divN_uniq hb ?_ ?_ ?_ <;> omega
theorem ten_tab : ∀ k : Fin 21, divN (divN (ilogN (10 ^ (k.val + 3)) (10 ^ (k.val + 2)) * 10 ^ (k.val + 2)) (log10D ((k.val + 2 : Nat) : Int))) 100 = 10 ^ k.val := by decide +kernel
theorem ten_even {p : Int} (hp : 1 ≤ p) : (10 : Int) ^ p.toNat % 2 = 0 := by
  have e : p.toNat = (p - 1).toNat + 1 := by omega
  rw [e, Int.pow_succ]; omega
theorem ten_q {p : Int} (hp : 0 ≤ p) : (10 : Int) ^ (p + 2).toNat = 10 ^ p.toNat * 100 := by
  have e : (p + 2).toNat = p.toNat + 2 := by omega
  rw [e, Int.pow_add]; rfl
/-- what _dlog10 makes of a number whose scaled coefficient and decade are known -/
theorem dlog10_val {c e p f x : Int} (hp : 0 ≤ p) (hf : dl_f c e = f) (hx : dl_c c e (p + 2) = x) : dlog10N c e p = divN (f * 10 ^ (p + 2).toNat + divN (ilogN x (10 ^ (p + 2).toNat) * 10 ^ (p + 2).toNat) (log10D (p + 2))) 100 := by
  unfold dlog10N dl_d
  rw [if_pos (by omega), hf, hx]
theorem shift_val {f p d : Int} (hp : 1 ≤ p) : divN (f * 10 ^ (p + 2).toNat + d) 100 = f * 10 ^ p.toNat + divN d 100 := by
  rw [ten_q (by omega)]
  have e : f * (10 ^ p.toNat * 100) = (f * 10 ^ p.toNat) * 100 := by grind
  rw [e, divN_shift (by omega)]
  have := ten_even hp
  rw [Int.mul_emod, this]; simp
def dD (x p : Int) : Int := divN (ilogN x (10 ^ (p + 2).toNat) * 10 ^ (p + 2).toNat) (log10D (p + 2))
theorem ndig_of {c : Int} {k : Int} (hk : 1 ≤ k) (h1 : 10 ^ (k - 1).toNat ≤ c) (h2 : c < 10 ^ k.toNat) : ndig c = k := by
  have := ndig_eq (a := c) (k := (k - 1).toNat) h1 (by
    have e : (k - 1).toNat + 1 = k.toNat := by omega
    rw [e]; exact h2)
  omega
theorem ndig_long {fig tail n j : Int} (hn : 1 ≤ n) (hj : 1 ≤ j) (f1 : 10 ^ (n - 1).toNat ≤ fig) (f2 : fig < 10 ^ n.toNat) (t1 : 0 ≤ tail) (t2 : tail < 10 ^ j.toNat) : ndig (fig * 10 ^ j.toNat + tail) = n + j := by
  have pj := ten_pos j.toNat
  refine ndig_of (by omega) ?_ ?_
  · have e : (n + j - 1).toNat = (n - 1).toNat + j.toNat := by omega
    rw [e, Int.pow_add]
    have : 10 ^ (n - 1).toNat * 10 ^ j.toNat ≤ fig * 10 ^ j.toNat := Int.mul_le_mul_of_nonneg_right f1 (by omega)
    omega
  · have e : (n + j).toNat = n.toNat + j.toNat := by omega
    rw [e, Int.pow_add]
    have : (fig + 1) * 10 ^ j.toNat ≤ 10 ^ n.toNat * 10 ^ j.toNat := Int.mul_le_mul_of_nonneg_right (by omega) (by omega)
    have e2 : (fig + 1) * 10 ^ j.toNat = fig * 10 ^ j.toNat + 10 ^ j.toNat := by grind
    omega
/-- the long number -/
theorem long_val {c e p f j : Int} (hp : 1 ≤ p) (hf : dl_f c e = f) (hk : dl_k c e (p + 2) = -j) (hj : 1 ≤ j) : dlog10N c e p = f * 10 ^ p.toNat + divN (dD (divN c (10 ^ j.toNat)) p) 100 := by
  have hx : dl_c c e (p + 2) = divN c (10 ^ j.toNat) := by
    unfold dl_c
    rw [hk, if_neg (by omega)]
    have : - -j = j := by omega
    rw [this]
  rw [dlog10_val (by omega) hf hx, shift_val hp]
  rfl
theorem short_val {c e p f : Int} (hp : 1 ≤ p) (hf : dl_f c e = f) (hk : dl_k c e (p + 2) = 0) : dlog10N c e p = f * 10 ^ p.toNat + divN (dD c p) 100 := by
  have hx : dl_c c e (p + 2) = c := by
    unfold dl_c
    rw [hk, if_pos (by omega)]
    show c * 10 ^ 0 = c
    rw [Int.pow_zero, Int.mul_one]
  rw [dlog10_val (by omega) hf hx, shift_val hp]
  rfl
theorem dD_one {p : Int} (h0 : 0 ≤ p) (h1 : p ≤ 44) : dD (10 ^ (p + 2).toNat) p = 0 := by
  have h2 : (100 : Int) ≤ 10 ^ (p + 2).toNat := by
    have := ten_le (a := 2) (b := (p + 2).toNat) (by omega); omega
  unfold dD
  rw [ilog_one h2, Int.zero_mul]
  exact divN_zero (log10D_pos (by omega) (by omega)).1
theorem dD_ten {p : Int} (h0 : 0 ≤ p) (h1 : p ≤ 20) : divN (dD (10 ^ (p + 3).toNat) p) 100 = 10 ^ p.toNat := by
  obtain ⟨m, rfl⟩ := Int.eq_ofNat_of_zero_le h0
  have h := ten_tab ⟨m, by omega⟩
  have e1 : ((m : Int) + 3).toNat = m + 3 := by omega
  have e2 : ((m : Int) + 2).toNat = m + 2 := by omega
  have e3 : ((m : Int)).toNat = m := by omega
  unfold dD
  rw [e1, e2, e3]
  have e4 : ((m : Int) + 2) = ((m + 2 : Nat) : Int) := by omega
  rw [e4]; exact h
/-- from 1 on -/
theorem law01_up {p j fig tail d near : Int} (hp : 1 ≤ p) (hp2 : p ≤ 20) (hj : 1 ≤ j) (f1 : 10 ^ (p + 2).toNat ≤ fig) (f2 : fig < 10 ^ (p + 3).toNat) (t1 : 0 ≤ tail) (t2 : tail < 10 ^ j.toNat) (hd : 0 ≤ d)
    (hn : divN (fig * 10 ^ j.toNat + tail) (10 ^ j.toNat) = near) (hn2 : near = fig ∨ near = fig + 1) :
    dlog10N (fig * 10 ^ j.toNat + tail) (d + 1 - (p + 3) - j) p = dlog10N near (1 - (p + 3)) p + d * 10 ^ p.toNat := by
  have e0 : (p + 3 - 1).toNat = (p + 2).toNat := by omega
  have hl := ndig_long (n := p + 3) (by omega) hj (by rw [e0]; exact f1) f2 t1 t2
  have hf : dl_f (fig * 10 ^ j.toNat + tail) (d + 1 - (p + 3) - j) = d := by
    unfold dl_f; rw [hl, if_pos (by simp <;> omega)]; omega
  have hk : dl_k (fig * 10 ^ j.toNat + tail) (d + 1 - (p + 3) - j) (p + 2) = -j := by
    unfold dl_k; rw [hf]; omega
  rw [long_val hp hf hk hj, hn]
  by_cases c : near < 10 ^ (p + 3).toNat
  · have h2 : ndig near = p + 3 := ndig_of (by omega) (by rw [e0]; omega) c
    have hf2 : dl_f near (1 - (p + 3)) = 0 := by
      unfold dl_f; rw [h2, if_pos (by simp <;> omega)]; omega
    have hk2 : dl_k near (1 - (p + 3)) (p + 2) = 0 := by
      unfold dl_k; rw [hf2]; omega
    rw [short_val hp hf2 hk2]; omega
  · have hN : near = 10 ^ (p + 3).toNat := by omega
    subst hN
    rw [dD_ten (by omega) hp2]
    have e3 : (p + 3).toNat = (p + 2).toNat + 1 := by omega
    have h2 : ndig ((10 : Int) ^ (p + 3).toNat) = p + 4 := by
      refine ndig_of (by omega) ?_ ?_
      · have : (p + 4 - 1).toNat = (p + 3).toNat := by omega
        rw [this]; omega
      · have : (p + 4).toNat = (p + 3).toNat + 1 := by omega
        rw [this, Int.pow_succ]
        have := ten_pos (p + 3).toNat
        omega
    have hf2 : dl_f ((10 : Int) ^ (p + 3).toNat) (1 - (p + 3)) = 1 := by
      unfold dl_f; rw [h2, if_pos (by simp <;> omega)]; omega
    have hk2 : dl_k ((10 : Int) ^ (p + 3).toNat) (1 - (p + 3)) (p + 2) = -1 := by
      unfold dl_k; rw [hf2]; omega
    rw [long_val hp hf2 hk2 (by omega)]
    have e4 : divN ((10 : Int) ^ (p + 3).toNat) (10 ^ (1 : Int).toNat) = 10 ^ (p + 2).toNat := by
      have h10 : (10 : Int) ^ (1 : Int).toNat = 10 := by decide
      rw [e3, Int.pow_succ, h10]
      generalize (10 : Int) ^ (p + 2).toNat = a
      refine divN_uniq (by omega) ?_ ?_ ?_ <;> omega
    rw [e4, dD_one (by omega) (by omega), divN_zero (by omega)]
    omega
/-- below 1 -/
theorem law01_dn {p j fig tail d near : Int} (hp : 1 ≤ p) (hp2 : p ≤ 20) (hj : 1 ≤ j) (f1 : 10 ^ (p + 1).toNat ≤ fig) (f2 : fig < 10 ^ (p + 2).toNat) (t1 : 0 ≤ tail) (t2 : tail < 10 ^ j.toNat) (hd : 0 ≤ d)
    (hn : divN (fig * 10 ^ j.toNat + tail) (10 ^ j.toNat) = near) (hn2 : near = fig ∨ near = fig + 1) :
    dlog10N (fig * 10 ^ j.toNat + tail) (-d - (p + 2) - j) p = dlog10N near (-(p + 2)) p + -d * 10 ^ p.toNat := by
  have e0 : (p + 2 - 1).toNat = (p + 1).toNat := by omega
  have hl := ndig_long (n := p + 2) (by omega) hj (by rw [e0]; exact f1) f2 t1 t2
  have hf : dl_f (fig * 10 ^ j.toNat + tail) (-d - (p + 2) - j) = -d := by
    unfold dl_f; rw [hl, if_neg (by simp <;> omega)]; omega
  have hk : dl_k (fig * 10 ^ j.toNat + tail) (-d - (p + 2) - j) (p + 2) = -j := by
    unfold dl_k; rw [hf]; omega
  rw [long_val hp hf hk hj, hn]
  have hz : dl_f near (-(p + 2)) = 0 := by
    by_cases c : near < 10 ^ (p + 2).toNat
    · have h2 : ndig near = p + 2 := ndig_of (by omega) (by rw [e0]; omega) c
      unfold dl_f; rw [h2, if_neg (by simp <;> omega)]; omega
    · have hN : near = 10 ^ (p + 2).toNat := by omega
      subst hN
      have h2 : ndig ((10 : Int) ^ (p + 2).toNat) = p + 3 := by
        refine ndig_of (by omega) ?_ ?_
        · have : (p + 3 - 1).toNat = (p + 2).toNat := by omega
          rw [this]; omega
        · have : (p + 3).toNat = (p + 2).toNat + 1 := by omega
          rw [this, Int.pow_succ]
          have := ten_pos (p + 2).toNat
          omega
      unfold dl_f; rw [h2, if_pos (by simp <;> omega)]; omega
  have hk2 : dl_k near (-(p + 2)) (p + 2) = 0 := by
    unfold dl_k; rw [hz]; omega
  rw [short_val hp hz hk2]; omega
def nearQ (fig tail half : Int) : Int := if half < tail then fig + 1 else if tail = half ∧ fig % 2 = 1 then fig + 1 else fig
theorem nearQ_val {fig tail half j : Int} (hj : 1 ≤ j) (hh : half = 5 * 10 ^ (j - 1).toNat) (h0 : 0 ≤ tail) (h1 : tail < 10 ^ j.toNat) : divN (fig * 10 ^ j.toNat + tail) (10 ^ j.toNat) = nearQ fig tail half := by
  have hB := ten_pos j.toNat
  have h2 := half_pow hj
  rw [← hh] at h2
  unfold nearQ
  split
  · next c => exact near_up hB h2 h0 h1 (.inl c)
  · next c =>
    split
    · next c2 => exact near_up hB h2 h0 h1 (.inr c2)
    · next c2 => exact near_dn hB h2 h0 h1 (by omega)
theorem nearQ_or (fig tail half : Int) : nearQ fig tail half = fig ∨ nearQ fig tail half = fig + 1 := by
  unfold nearQ; split <;> (try split) <;> omega

structure P01 (n j f t : Int) : Prop where
  f1 : 10 ^ (n - 1).toNat ≤ f
  f2 : f < 10 ^ n.toNat
  t1 : 0 ≤ t
  t2 : t < 10 ^ j.toNat
theorem head_01 {n x : Int} (hn : 1 ≤ n) : 10 ^ (n - 1).toNat ≤ (10 : Int) ^ (n - 1).toNat + x.fmod (9 * 10 ^ (n - 1).toNat) ∧ (10 : Int) ^ (n - 1).toNat + x.fmod (9 * 10 ^ (n - 1).toNat) < 10 ^ n.toNat := by
  have hp := ten_pos (n - 1).toNat
  have h1 := fmod_lo x (n := 9 * 10 ^ (n - 1).toNat) (by omega)
  have h2 := fmod_hi x (n := 9 * 10 ^ (n - 1).toNat) (by omega)
  have e : n.toNat = (n - 1).toNat + 1 := by omega
  rw [e, Int.pow_succ]
  omega
theorem half_01 {j : Int} (hj : 1 ≤ j) : 0 ≤ 5 * (10 : Int) ^ (j - 1).toNat ∧ 5 * (10 : Int) ^ (j - 1).toNat < 10 ^ j.toNat := by
  have := half_pow hj
  have := ten_pos (j - 1).toNat
  omega
theorem p01_a {n j x : Int} (hn : 1 ≤ n) (hj : 1 ≤ j) : P01 n j ((10 : Int) ^ (n - 1).toNat + x.fmod (9 * 10 ^ (n - 1).toNat)) (5 * 10 ^ (j - 1).toNat) :=
  ⟨(head_01 hn).1, (head_01 hn).2, (half_01 hj).1, (half_01 hj).2⟩
theorem p01_b {n j x y : Int} (hn : 1 ≤ n) : P01 n j ((10 : Int) ^ (n - 1).toNat + x.fmod (9 * 10 ^ (n - 1).toNat)) (y.fmod (10 ^ j.toNat)) :=
  ⟨(head_01 hn).1, (head_01 hn).2, fmod_lo _ (ten_pos _), fmod_hi _ (ten_pos _)⟩
theorem p01_c {n j x y : Int} (hn : 1 ≤ n) : P01 n j ((10 : Int) ^ (n - 1).toNat + x.fmod (9 * 10 ^ (n - 1).toNat)) (10 ^ j.toNat - 1 - y.fmod (10 ^ j.toNat)) := by
  have h1 := fmod_lo y (n := 10 ^ j.toNat) (ten_pos _)
  have h2 := fmod_hi y (n := 10 ^ j.toNat) (ten_pos _)
  exact ⟨(head_01 hn).1, (head_01 hn).2, by omega, by omega⟩
theorem p01_d {n j : Int} (hn : 1 ≤ n) (hj : 1 ≤ j) : P01 n j ((10 : Int) ^ n.toNat - 1) (5 * 10 ^ (j - 1).toNat) := by
  refine ⟨?_, by omega, (half_01 hj).1, (half_01 hj).2⟩
  have hp := ten_pos (n - 1).toNat
  have e : n.toNat = (n - 1).toNat + 1 := by omega
  rw [e, Int.pow_succ]
  omega
theorem nq1 {f t half : Int} (h : half < t) : f + 1 = nearQ f t half := by unfold nearQ; rw [if_pos h]
theorem nq2 {f t half : Int} (h1 : t = half) (h2 : f.fmod 2 = 1) : f + 1 = nearQ f t half := by
  rw [Int.fmod_eq_emod_of_nonneg _ (by omega)] at h2
  unfold nearQ; rw [if_neg (by omega), if_pos ⟨h1, h2⟩]
theorem nq3 {f t half : Int} (h1 : ¬ half < t) (h2 : ¬ t = half) : f = nearQ f t half := by
  unfold nearQ; rw [if_neg h1, if_neg (by omega)]
theorem nq4 {f t half : Int} (h1 : ¬ half < t) (h2 : ¬ f.fmod 2 = 1) : f = nearQ f t half := by
  rw [Int.fmod_eq_emod_of_nonneg _ (by omega)] at h2
  unfold nearQ; rw [if_neg h1, if_neg (by omega)]
theorem same_up {p j f t d near : Int} (P : P01 (p + 2 + 1) j f t) (hp : 1 ≤ p) (hp2 : p ≤ 20) (hj : 1 ≤ j) (hd : 0 ≤ d) (hn : near = nearQ f t (5 * 10 ^ (j - 1).toNat)) :
    dlog10N (f * 10 ^ j.toNat + t) ((2 * 1 - 1) * d + 1 - (p + 2 + 1) - j) p = dlog10N near (1 - (p + 2 + 1)) p + (2 * 1 - 1) * d * 10 ^ p.toNat := by
  obtain ⟨f1, f2, t1, t2⟩ := P
  have e1 : (p + 2 + 1 - 1).toNat = (p + 2).toNat := by omega
  have e2 : (p + 2 + 1).toNat = (p + 3).toNat := by omega
  rw [e1] at f1; rw [e2] at f2
  subst hn
  have := law01_up hp hp2 hj f1 f2 t1 t2 hd (nearQ_val hj rfl t1 t2) (nearQ_or ..)
  have e3 : (2 * 1 - 1) * d = d := by omega
  have e4 : p + 2 + 1 = p + 3 := by omega
  rw [e3, e4]; exact this
theorem same_dn {p j f t d near : Int} (P : P01 (p + 2 + 0) j f t) (hp : 1 ≤ p) (hp2 : p ≤ 20) (hj : 1 ≤ j) (hd : 0 ≤ d) (hn : near = nearQ f t (5 * 10 ^ (j - 1).toNat)) :
    dlog10N (f * 10 ^ j.toNat + t) ((2 * 0 - 1) * d + 0 - (p + 2 + 0) - j) p = dlog10N near (0 - (p + 2 + 0)) p + (2 * 0 - 1) * d * 10 ^ p.toNat := by
  obtain ⟨f1, f2, t1, t2⟩ := P
  have e1 : (p + 2 + 0 - 1).toNat = (p + 1).toNat := by omega
  have e2 : (p + 2 + 0).toNat = (p + 2).toNat := by omega
  rw [e1] at f1; rw [e2] at f2
  subst hn
  have := law01_dn hp hp2 hj f1 f2 t1 t2 hd (nearQ_val hj rfl t1 t2) (nearQ_or ..)
  have e3 : (2 * 0 - 1) * d = -d := by omega
  have e4 : -d + 0 - (p + 2 + 0) - j = -d - (p + 2) - j := by omega
  have e5 : 0 - (p + 2 + 0) = -(p + 2) := by omega
  rw [e3, e4, e5]; exact this
/-- sizes -/
theorem P01.pos {n j f t : Int} (P : P01 n j f t) : 0 < f := by
  have := ten_pos (n - 1).toNat; have := P.f1; omega
theorem P01.bits {n j f t : Int} (P : P01 n j f t) (hn : n ≤ 100) : intBits f ≤ 5000000 := by
  have h0 := P.pos
  have h2 := P.f2
  refine Nat.le_trans (m := 4 * n.toNat + 1) ?_ (by omega)
  refine intBits_le_of_natAbs (y := 10 ^ n.toNat) ?_ (bits10 _)
  omega
theorem P01.big {n j f t : Int} (P : P01 n j f t) (hn0 : 1 ≤ n) (hn : n ≤ 100) (hj0 : 1 ≤ j) (hj : j ≤ 60) : 0 < f * 10 ^ j.toNat + t ∧ f * 10 ^ j.toNat + t ≤ 10 ^ 200 := by
  obtain ⟨f1, f2, t1, t2⟩ := P
  have p1 := ten_pos (n - 1).toNat
  have pj := ten_pos j.toNat
  constructor
  · have := Int.mul_pos (a := f) (b := 10 ^ j.toNat) (by omega) pj
    omega
  · have h1 : (f + 1) * 10 ^ j.toNat ≤ 10 ^ n.toNat * 10 ^ j.toNat := Int.mul_le_mul_of_nonneg_right (by omega) (by omega)
    have e2 : (f + 1) * 10 ^ j.toNat = f * 10 ^ j.toNat + 10 ^ j.toNat := by grind
    have h3 : (10 : Int) ^ n.toNat * 10 ^ j.toNat ≤ 10 ^ 200 := by
      rw [← Int.pow_add]; exact ten_le (by omega)
    generalize (10 : Int) ^ 200 = k at *
    omega
theorem P01.near {n j f t : Int} (P : P01 n j f t) (hn : n ≤ 100) : (0 < f ∧ f ≤ 10 ^ 200) ∧ (0 < f + 1 ∧ f + 1 ≤ 10 ^ 200) := by
  have h0 := P.pos
  have h2 := P.f2
  have h3 : (10 : Int) ^ n.toNat ≤ 10 ^ 200 := ten_le (by omega)
  generalize (10 : Int) ^ 200 = k at *
  omega
theorem bits_sm {a : Int} (h1 : -1000000 ≤ a) (h2 : a ≤ 1000000) : intBits a ≤ 64 := intBits_le_64 (by omega) (by omega)
/-- the exponents -/
theorem e_bits {d r : Int} {g : Int} (hg : -1 ≤ g ∧ g ≤ 1) (hd : intBits d ≤ 2000000) (h1 : -1000000 ≤ r) (h2 : r ≤ 1000000) : intBits (g * d + r) ≤ 4000000 := by
  have a1 := intBits_mul_le (bits_sm (a := g) (by omega) (by omega)) hd
  have a2 := intBits_add_le a1 (bits_sm h1 h2)
  omega
theorem gd_bits {d g : Int} (hg : -1 ≤ g ∧ g ≤ 1) (hd : intBits d ≤ 2000000) : intBits (g * d) ≤ 5000000 := by
  have a1 := intBits_mul_le (bits_sm (a := g) (by omega) (by omega)) hd
  omega
def In01 (i : Nat) (d : Int) : Prop := 0 ≤ d ∧ intBits d ≤ 1500000 + i
theorem in01_0 {x : Int} (h : intBits x ≤ 1048576) : In01 0 (if x < 0 then -x else x) := by
  have e : (if x < 0 then -x else x) = (x.natAbs : Int) := by split <;> omega
  rw [e]
  exact ⟨by omega, Nat.le_trans (intBits_natAbs_le h) (by omega)⟩
theorem in01_1 {i : Nat} {d : Int} (h : In01 i d) : In01 (i + 1) (d + 1) := by
  refine ⟨by have := h.1; omega, ?_⟩
  have a := intBits_add_le (m := 1500000 + i) (n := 1) (x := d) (y := 1) h.2 (by decide)
  omega
theorem In01.le {i : Nat} {d : Int} (h : In01 i d) (hi : i < 4) : 0 ≤ d ∧ intBits d ≤ 2000000 := ⟨h.1, by have := h.2; omega⟩
theorem pre_long {n j f t g d r p : Int} (P : P01 n j f t) (hn0 : 1 ≤ n) (hn : n ≤ 100) (hj0 : 1 ≤ j) (hj : j ≤ 60) (hg : -1 ≤ g ∧ g ≤ 1) (hd : intBits d ≤ 2000000) (h1 : -10000 ≤ r) (h2 : r ≤ 1000) (hp0 : 0 ≤ p) (hp1 : p ≤ 44) :
    0 < f * 10 ^ j.toNat + t ∧ (f * 10 ^ j.toNat + t).natAbs.log2 < 1920 ∧ intBits (g * d + r - n - j) ≤ 4000000 ∧ 0 ≤ p ∧ p ≤ 44 := by
  obtain ⟨b1, b2⟩ := P.big hn0 hn hj0 hj
  refine ⟨b1, log2_200 b1 b2, ?_, hp0, hp1⟩
  have e : g * d + r - n - j = g * d + (r - n - j) := by omega
  rw [e]; exact e_bits hg hd (by omega) (by omega)
theorem pre_short {n j f t near r p : Int} (P : P01 n j f t) (hn0 : 1 ≤ n) (hn : n ≤ 100) (hnear : near = f ∨ near = f + 1) (h1 : -10000 ≤ r) (h2 : r ≤ 1000) (hp0 : 0 ≤ p) (hp1 : p ≤ 44) :
    0 < near ∧ near.natAbs.log2 < 1920 ∧ intBits (r - n) ≤ 4000000 ∧ 0 ≤ p ∧ p ≤ 44 := by
  obtain ⟨⟨a1, a2⟩, a3, a4⟩ := P.near hn
  have hb : 0 < near ∧ near ≤ 10 ^ 200 := by rcases hnear with rfl | rfl <;> constructor <;> assumption
  exact ⟨hb.1, log2_200 hb.1 hb.2, Nat.le_trans (bits_sm (a := r - n) (by omega) (by omega)) (by omega), hp0, hp1⟩
abbrev tup2 (f : Int) (a : Tok) (t : Int) (b : Tok) (k : Nat) : Obj := { cls := .type "tuple", data := .seq #[.int f a, .int t b] k }
theorem pair_cases {D1 D2 D3 D4 : Addr} {f1 f2 f3 f4 t1 t2 t3 t4 : Int} {a1 a2 a3 a4 b1 b2 b3 b4 : Tok} {k1 k2 k3 k4 : Nat} {i : Nat} {v : Value} {P : Int → Int → Prop} {led own : List (Addr × Obj)} {h₀ hh : Heap} {L : Addr} (N : News h₀ L hh (led ++ own)) (h : (#[.ref D1, .ref D2, .ref D3, .ref D4] : Array Value)[i]? = some v)
    (m1 : (D1, tup2 f1 a1 t1 b1 k1) ∈ led) (m2 : (D2, tup2 f2 a2 t2 b2 k2) ∈ led) (m3 : (D3, tup2 f3 a3 t3 b3 k3) ∈ led) (m4 : (D4, tup2 f4 a4 t4 b4 k4) ∈ led)
    (p1 : P f1 t1) (p2 : P f2 t2) (p3 : P f3 t3) (p4 : P f4 t4) : i < 4 ∧ ∃ T f a t b k, v = .ref T ∧ News h₀ L hh ((T, tup2 f a t b k) :: (led ++ own)) ∧ P f t := by
  have cm : ∀ {p : Addr × Obj}, p ∈ led → News h₀ L hh (p :: (led ++ own)) := fun {p} hp q hq => by
    rcases List.mem_cons.mp hq with e | hq
    · subst e; exact N _ (List.mem_append_left _ hp)
    · exact N _ hq
  match i, h with
  | 0, h => simp at h; exact ⟨by omega, _, _, _, _, _, _, h.symm, cm m1, p1⟩
  | 1, h => simp at h; exact ⟨by omega, _, _, _, _, _, _, h.symm, cm m2, p2⟩
  | 2, h => simp at h; exact ⟨by omega, _, _, _, _, _, _, h.symm, cm m3, p3⟩
  | 3, h => simp at h; exact ⟨by omega, _, _, _, _, _, _, h.symm, cm m4, p4⟩
  | k + 4, h => simp at h

@[irreducible] def dd5 (x : Int) : Int := divN (ilogN x 100 * 100) 230
theorem tabA : ∀ k : Fin 211, -50 < dd5 (100 + (k.val : Int)) ∧ dd5 (100 + (k.val : Int)) < 50 := by decide +kernel
theorem tabB : ∀ k : Fin 11, dd5 (311 + (k.val : Int)) = 50 := by decide +kernel
theorem tabC1 : ∀ k : Fin 339, 50 < dd5 (322 + (k.val : Int)) ∧ dd5 (322 + (k.val : Int)) < 150 := by decide +kernel
theorem tabC2 : ∀ k : Fin 340, 50 < dd5 (661 + (k.val : Int)) ∧ dd5 (661 + (k.val : Int)) < 150 := by decide +kernel
theorem tabD : ∀ k : Fin 22, -150 < dd5 (10 + (k.val : Int)) ∧ dd5 (10 + (k.val : Int)) < -50 := by decide +kernel
theorem tabE : dd5 32 = -50 := by decide +kernel
theorem tabF : ∀ k : Fin 68, -50 < dd5 (33 + (k.val : Int)) ∧ dd5 (33 + (k.val : Int)) < 50 := by decide +kernel
theorem dd_A {x : Int} (h1 : 100 ≤ x) (h2 : x ≤ 310) : -50 < dd5 x ∧ dd5 x < 50 := by
  have := tabA ⟨(x - 100).toNat, by omega⟩
  have e : 100 + (((x - 100).toNat : Nat) : Int) = x := by omega
  simpa only [e] using this
theorem dd_B {x : Int} (h1 : 311 ≤ x) (h2 : x ≤ 321) : dd5 x = 50 := by
  have := tabB ⟨(x - 311).toNat, by omega⟩
  have e : 311 + (((x - 311).toNat : Nat) : Int) = x := by omega
  simpa only [e] using this
theorem dd_C {x : Int} (h1 : 322 ≤ x) (h2 : x ≤ 1000) : 50 < dd5 x ∧ dd5 x < 150 := by
  by_cases c : x ≤ 660
  · have := tabC1 ⟨(x - 322).toNat, by omega⟩
    have e : 322 + (((x - 322).toNat : Nat) : Int) = x := by omega
    simpa only [e] using this
  · have := tabC2 ⟨(x - 661).toNat, by omega⟩
    have e : 661 + (((x - 661).toNat : Nat) : Int) = x := by omega
    simpa only [e] using this
theorem dd_D {x : Int} (h1 : 10 ≤ x) (h2 : x ≤ 31) : -150 < dd5 x ∧ dd5 x < -50 := by
  have := tabD ⟨(x - 10).toNat, by omega⟩
  have e : 10 + (((x - 10).toNat : Nat) : Int) = x := by omega
  simpa only [e] using this
theorem dd_F {x : Int} (h1 : 33 ≤ x) (h2 : x ≤ 100) : -50 < dd5 x ∧ dd5 x < 50 := by
  have := tabF ⟨(x - 33).toNat, by omega⟩
  have e : 33 + (((x - 33).toNat : Nat) : Int) = x := by omega
  simpa only [e] using this
theorem near_0 {f d : Int} (h1 : -50 < d) (h2 : d < 50) : divN (f * 100 + d) 100 = f := by
  refine divN_uniq (by omega) ?_ ?_ ?_ <;> omega
theorem near_1 {f d : Int} (h1 : 50 < d) (h2 : d < 150) : divN (f * 100 + d) 100 = f + 1 := by
  refine divN_uniq (by omega) ?_ ?_ ?_ <;> omega
theorem near_m1 {f d : Int} (h1 : -150 < d) (h2 : d < -50) : divN (f * 100 + d) 100 = f - 1 := by
  refine divN_uniq (by omega) ?_ ?_ ?_ <;> omega
theorem near_tie {f : Int} : divN (f * 100 + 50) 100 = f + f % 2 := by
  refine divN_uniq (by omega) ?_ ?_ ?_ <;> omega
theorem near_tie' {f : Int} : divN ((f + 1) * 100 + -50) 100 = f + f % 2 := by
  refine divN_uniq (by omega) ?_ ?_ ?_ <;> omega
theorem dlog_05 {c e f x : Int} (hf : dl_f c e = f) (hx : dl_c c e 2 = x) : dlog10N c e 0 = divN (f * 100 + dd5 x) 100 := by
  rw [dlog10_val (p := 0) (by omega) hf hx]
  have e1 : (10 : Int) ^ (0 + 2 : Int).toNat = 100 := by decide
  have e2 : log10D (0 + 2) = 230 := by decide +kernel
  rw [e1, e2]; unfold dd5; rfl
/-- the scaled coefficient: 10 ^ k * c to the nearest -/
theorem scaled {c e q : Int} {k : Nat} {size : Int} (hs : ndig c = size) (hk : dl_k c e q = (k : Int) - (size - 1)) (hc : 0 < c) :
    -(10 ^ (size - 1).toNat : Int) ≤ 2 * (c * 10 ^ k - 10 ^ (size - 1).toNat * dl_c c e q) ∧ 2 * (c * 10 ^ k - 10 ^ (size - 1).toNat * dl_c c e q) ≤ 10 ^ (size - 1).toNat ∧ ((2 * (c * 10 ^ k - 10 ^ (size - 1).toNat * dl_c c e q) = 10 ^ (size - 1).toNat ∨ 2 * (c * 10 ^ k - 10 ^ (size - 1).toNat * dl_c c e q) = -(10 ^ (size - 1).toNat : Int)) → dl_c c e q % 2 = 0) := by
  have h1 := ndig_pos hc
  have pu := ten_pos (size - 1).toNat
  unfold dl_c
  rw [hk]
  split
  · next h =>
    have e : k = (size - 1).toNat + ((k : Int) - (size - 1)).toNat := by omega
    have e2 : (10 : Int) ^ k = 10 ^ (size - 1).toNat * 10 ^ ((k : Int) - (size - 1)).toNat := by
      rw [← Int.pow_add, ← e]
    have e3 : c * 10 ^ k - 10 ^ (size - 1).toNat * (c * 10 ^ ((k : Int) - (size - 1)).toNat) = 0 := by rw [e2]; grind
    rw [e3]
    refine ⟨by omega, by omega, fun h => ?_⟩
    omega
  · next h =>
    have e : (size - 1).toNat = k + (-((k : Int) - (size - 1))).toNat := by omega
    have e2 : (10 : Int) ^ (size - 1).toNat = 10 ^ k * 10 ^ (-((k : Int) - (size - 1))).toNat := by
      rw [← Int.pow_add, ← e]
    have hp := ten_pos (-((k : Int) - (size - 1))).toNat
    have hpk := ten_pos k
    have hn := divN_near (a := c) hp
    have he := divN_even (a := c) hp
    generalize divN c (10 ^ (-((k : Int) - (size - 1))).toNat) = x at *
    rw [e2]
    generalize (10 : Int) ^ (-((k : Int) - (size - 1))).toNat = B at *
    generalize (10 : Int) ^ k = K at *
    have e4 : 2 * (c * K - K * B * x) = K * (2 * (c - B * x)) := by grind
    have e5 : -(K * B) = K * (-B) := by grind
    rw [e4, e5]
    refine ⟨Int.mul_le_mul_of_nonneg_left hn.1 (by omega), Int.mul_le_mul_of_nonneg_left hn.2 (by omega), fun h => he ?_⟩
    rcases h with h | h
    · exact .inl (Int.eq_of_mul_eq_mul_left (by omega) h)
    · exact .inr (Int.eq_of_mul_eq_mul_left (by omega) h)
theorem up_facts {c low size : Int} (hs : ndig c = size) (hc : 0 < c) (hl : 0 ≤ low) : dl_f c (low + 1 - size) = low ∧ dl_k c (low + 1 - size) 2 = (2 : Nat) - (size - 1) := by
  have hf : dl_f c (low + 1 - size) = low := by
    unfold dl_f; rw [hs, if_pos (by simp <;> omega)]; omega
  exact ⟨hf, by unfold dl_k; rw [hf]; omega⟩
theorem dn_facts {c low size : Int} (hs : ndig c = size) (hc : 0 < c) (hl : low < 0) : dl_f c (low + 1 - size) = low + 1 ∧ dl_k c (low + 1 - size) 2 = (1 : Nat) - (size - 1) := by
  have hf : dl_f c (low + 1 - size) = low + 1 := by
    unfold dl_f; rw [hs, if_neg (by simp <;> omega)]; omega
  exact ⟨hf, by unfold dl_k; rw [hf]; omega⟩
theorem unit_facts {c size : Int} (hs : ndig c = size) (hc : 0 < c) : 0 < (10 : Int) ^ (size - 1).toNat ∧ 10 ^ (size - 1).toNat ≤ c ∧ c < 10 * 10 ^ (size - 1).toNat := by
  obtain ⟨n1, n2, n3⟩ := ndig_range hc
  rw [hs] at n1 n2 n3
  refine ⟨ten_pos _, n2, ?_⟩
  have e : size.toNat = (size - 1).toNat + 1 := by omega
  rw [e, Int.pow_succ] at n3
  omega
theorem lin_lt {u x k : Int} (hu : 0 < u) (h : u * x < u * k) : x < k := Int.lt_of_mul_lt_mul_left h (by omega)
theorem law05_up {c low size : Int} (hs : ndig c = size) (hc : 0 < c) (hl : 0 ≤ low) :
    (1000 * c ≤ 3105 * 10 ^ (size - 1).toNat → dlog10N c (low + 1 - size) 0 = low) ∧ (3215 * 10 ^ (size - 1).toNat ≤ 1000 * c → dlog10N c (low + 1 - size) 0 = low + 1) ∧
    (3105 * 10 ^ (size - 1).toNat < 1000 * c → 1000 * c < 3215 * 10 ^ (size - 1).toNat → dlog10N c (low + 1 - size) 0 = low + low % 2) := by
  obtain ⟨hf, hk⟩ := up_facts hs hc hl
  obtain ⟨u1, u2, u3⟩ := unit_facts hs hc
  have hv := dlog_05 hf rfl
  obtain ⟨s1, s2, s3⟩ := scaled hs hk hc
  have e100 : (10 : Int) ^ 2 = 100 := by decide
  rw [e100] at s1 s2 s3
  rw [hv]
  generalize dl_c c (low + 1 - size) 2 = x at *
  generalize (10 : Int) ^ (size - 1).toNat = u at *
  have x1 : 100 ≤ x := by
    refine Int.not_lt.mp fun h => ?_
    have : u * x ≤ u * 99 := Int.mul_le_mul_of_nonneg_left (by omega) (by omega)
    omega
  have x2 : x ≤ 1000 := by
    refine Int.not_lt.mp fun h => ?_
    have : u * 1001 ≤ u * x := Int.mul_le_mul_of_nonneg_left (by omega) (by omega)
    omega
  refine ⟨fun h => ?_, fun h => ?_, fun h1 h2 => ?_⟩
  · have x3 : x ≤ 310 := by
      refine Int.not_lt.mp fun hlt => ?_
      have k1 : u * 311 ≤ u * x := Int.mul_le_mul_of_nonneg_left (by omega) (by omega)
      have k2 := s3 (.inr (by omega))
      have k3 : u * x < u * 312 := by omega
      have := lin_lt u1 k3
      omega
    exact near_0 (dd_A x1 x3).1 (dd_A x1 x3).2
  · have x3 : 322 ≤ x := by
      refine Int.not_lt.mp fun hlt => ?_
      have k1 : u * x ≤ u * 321 := Int.mul_le_mul_of_nonneg_left (by omega) (by omega)
      have k2 := s3 (.inl (by omega))
      have k3 : u * 320 < u * x := by omega
      have := lin_lt u1 k3
      omega
    exact near_1 (dd_C x3 x2).1 (dd_C x3 x2).2
  · have x3 : 311 ≤ x := by
      refine Int.not_lt.mp fun hlt => ?_
      have k1 : u * x ≤ u * 310 := Int.mul_le_mul_of_nonneg_left (by omega) (by omega)
      omega
    have x4 : x ≤ 321 := by
      refine Int.not_lt.mp fun hlt => ?_
      have k1 : u * 322 ≤ u * x := Int.mul_le_mul_of_nonneg_left (by omega) (by omega)
      omega
    rw [dd_B x3 x4]; exact near_tie
theorem law05_dn {c low size : Int} (hs : ndig c = size) (hc : 0 < c) (hl : low < 0) :
    (1000 * c < 3150 * 10 ^ (size - 1).toNat → dlog10N c (low + 1 - size) 0 = low) ∧ (3250 * 10 ^ (size - 1).toNat < 1000 * c → dlog10N c (low + 1 - size) 0 = low + 1) ∧
    (3150 * 10 ^ (size - 1).toNat ≤ 1000 * c → 1000 * c ≤ 3250 * 10 ^ (size - 1).toNat → dlog10N c (low + 1 - size) 0 = low + low % 2) := by
  obtain ⟨hf, hk⟩ := dn_facts hs hc hl
  obtain ⟨u1, u2, u3⟩ := unit_facts hs hc
  have hv := dlog_05 hf rfl
  obtain ⟨s1, s2, s3⟩ := scaled hs hk hc
  have e10 : (10 : Int) ^ 1 = 10 := by decide
  rw [e10] at s1 s2 s3
  rw [hv]
  generalize dl_c c (low + 1 - size) 2 = x at *
  generalize (10 : Int) ^ (size - 1).toNat = u at *
  have x1 : 10 ≤ x := by
    refine Int.not_lt.mp fun h => ?_
    have : u * x ≤ u * 9 := Int.mul_le_mul_of_nonneg_left (by omega) (by omega)
    omega
  have x2 : x ≤ 100 := by
    refine Int.not_lt.mp fun h => ?_
    have : u * 101 ≤ u * x := Int.mul_le_mul_of_nonneg_left (by omega) (by omega)
    omega
  refine ⟨fun h => ?_, fun h => ?_, fun h1 h2 => ?_⟩
  · have x3 : x ≤ 31 := by
      refine Int.not_lt.mp fun hlt => ?_
      have k1 : u * 32 ≤ u * x := Int.mul_le_mul_of_nonneg_left (by omega) (by omega)
      omega
    have := near_m1 (f := low + 1) (dd_D x1 x3).1 (dd_D x1 x3).2
    omega
  · have x3 : 33 ≤ x := by
      refine Int.not_lt.mp fun hlt => ?_
      have k1 : u * x ≤ u * 32 := Int.mul_le_mul_of_nonneg_left (by omega) (by omega)
      omega
    exact near_0 (dd_F x3 x2).1 (dd_F x3 x2).2
  · have x3 : 32 ≤ x := by
      refine Int.not_lt.mp fun hlt => ?_
      have k1 : u * x ≤ u * 31 := Int.mul_le_mul_of_nonneg_left (by omega) (by omega)
      have k2 := s3 (.inl (by omega))
      have k3 : u * 30 < u * x := by omega
      have := lin_lt u1 k3
      omega
    have x4 : x ≤ 32 := by
      refine Int.not_lt.mp fun hlt => ?_
      have k1 : u * 33 ≤ u * x := Int.mul_le_mul_of_nonneg_left (by omega) (by omega)
      have k2 := s3 (.inr (by omega))
      have k3 : u * x < u * 34 := by omega
      have := lin_lt u1 k3
      omega
    have x5 : x = 32 := by omega
    rw [x5, tabE]; exact near_tie'

/-! the chain of roots, held against written chains: q (r+1) ^ 2 against q r, q r = Q r / S -/
/-- a property that the loop keeps holds at its end -/
theorem ilLp_inv {x M : Int} (P : ilPre x M) (J : Int → Int → Prop) (h0 : J (x - M) 0) (hs : ∀ y R, ilJ x M y R → J y R → ilT M y R = true → J (ilS M y R) (R + 1)) :
    ∃ y R, ilJ x M y R ∧ J y R ∧ ilT M y R = false ∧ ilLp 40 M (x - M) 0 = (y, R) := by
  have run : ∀ (n : Nat) (y R : Int), ilJL x M y R → J y R → 40 - R.toNat = n → ∃ y' R', ilJ x M y' R' ∧ J y' R' ∧ ilT M y' R' = false ∧ ilLp 40 M (x - M) 0 = (y', R') := by
    intro n
    induction n with
    | zero => intro y R h _ e; have := h.1.R1; omega
    | succ n ih =>
      intro y R h hj e
      cases t : ilT M y R with
      | false => exact ⟨y, R, h.1, hj, t, h.stop t⟩
      | true => exact ih _ _ (h.next P t) (hs y R h.1 hj t) (by have := h.1.R0; omega)
  exact run 40 (x - M) 0 (ilJL.start P) h0 rfl
/-- the two relations between y and the root s of a turn -/
theorem root_lo {x M y R p s : Int} (P : ilPre x M) (h : ilJ x M y R) (hp : 2 ^ R.toNat = p) (hs : sqrtN (M * (M + rshN y R)) = s) : 2 * M * y ≥ p * (2 * (s * s) - 2 * s - 2 * (M * M) - M) ∧ 2 * M * y ≤ p * (2 * (s * s) + 2 * s - 2 * (M * M) + M) := by
  obtain ⟨a1, a2, s0, s1, s2⟩ := h.arg P
  have hM := P.M0
  have pp := pow2_pos R.toNat
  have hn := divN_near (a := y) pp
  rw [rshN_div] at *
  rw [hs] at *
  rw [hp] at *
  generalize divN y p = r at *
  have k1 : M * (p * r * 2) ≤ M * (2 * y + p) := Int.mul_le_mul_of_nonneg_left (by grind) (by omega)
  have k2 : M * (2 * y - p) ≤ M * (p * r * 2) := Int.mul_le_mul_of_nonneg_left (by grind) (by omega)
  have k3 : p * (s * s - s) ≤ p * (M * (M + r)) := Int.mul_le_mul_of_nonneg_left (by omega) (by omega)
  have k4 : p * (M * (M + r)) ≤ p * (s * s + s) := Int.mul_le_mul_of_nonneg_left (by omega) (by omega)
  constructor <;> grind
theorem step_near {x M y R s : Int} (P : ilPre x M) (h : ilJ x M y R) (hs : sqrtN (M * (M + rshN y R)) = s) : 0 < M + s ∧ 4 * M * y - (M + s) ≤ 2 * (ilS M y R * (M + s)) ∧ 2 * (ilS M y R * (M + s)) ≤ 4 * M * y + (M + s) := by
  have hd := (h.dvs P).1
  unfold ilS
  rw [hs] at *
  have hn := divN_near (a := M * y * 2) hd
  generalize divN (M * y * 2) (M + s) = v at *
  have e1 : v * (M + s) = (M + s) * v := Int.mul_comm _ _
  have e2 : 4 * M * y = 2 * (M * y * 2) := by grind
  rw [e1, e2]
  exact ⟨hd, by omega, by omega⟩
theorem mono2 {a b c : Int} (h : a ≤ b) (hc : 0 ≤ c) : c * a ≤ c * b := Int.mul_le_mul_of_nonneg_left h hc
theorem lowPos {x M y R p S Q Q' E E' : Int} (P : ilPre x M) (h : ilJ x M y R) (hx : M ≤ x) (hp : 2 ^ R.toNat = p) (hS : 0 < S) (hQ1 : S ≤ Q') (hQ : Q' * Q' ≤ Q * S) (hE : 2 * E + 2 * (p * (Q' - S)) + S ≤ 2 * E')
    (hE0 : 0 ≤ E) (hb : p * (M * (Q - S)) ≤ S * y + E) : 2 * p * (M * (Q' - S)) ≤ S * ilS M y R + E' := by
  have hM := P.M0
  have hM0 : 0 ≤ M := by omega
  have pp : 0 < p := by rw [← hp]; exact pow2_pos _
  obtain ⟨rl, ru⟩ := root_lo P h hp rfl
  obtain ⟨d0, d1, d2⟩ := step_near P h rfl
  have hsM := (h.root P).1 hx
  obtain ⟨y0, _⟩ := h.up hx
  generalize sqrtN (M * (M + rshN y R)) = s at *
  generalize ilS M y R = v at *
  -- 2 M S y + (E' - S/2) (M + s) >= 2 p M (Q' - S) (M + s)
  suffices hk : 2 * (2 * p * (M * (Q' - S)) * (M + s)) ≤ 4 * M * y * S + (2 * E' - S) * (M + s) by
    refine Int.not_lt.mp fun hlt => ?_
    have k1 : (M + s) * (S * v + E' + 1) ≤ (M + s) * (2 * p * (M * (Q' - S))) := mono2 (by omega) (by omega)
    have k2 : S * (4 * M * y - (M + s)) ≤ S * (2 * (v * (M + s))) := mono2 d1 (by omega)
    grind
  have eE : 2 * (E + p * (Q' - S)) ≤ 2 * E' - S := by omega
  have k0 : 0 ≤ E + p * (Q' - S) := by
    have := Int.mul_nonneg (a := p) (b := Q' - S) (by omega) (by omega)
    omega
  have kE : (M + s) * (2 * (E + p * (Q' - S))) ≤ (M + s) * (2 * E' - S) := mono2 eE (by omega)
  have kM : (2 * (E + p * (Q' - S))) * (M + M) ≤ (2 * (E + p * (Q' - S))) * (M + s) := mono2 (by omega) (by omega)
  by_cases c : S * s ≤ Q' * M + S
  · -- S times
    refine Int.le_of_mul_le_mul_left (a := S) ?_ hS
    have q1 : (p * (M * (Q' - S))) * (S * (M + s)) ≤ (p * (M * (Q' - S))) * (M * (S + Q') + S) := by
      refine mono2 (by grind) ?_
      exact Int.mul_nonneg (by omega) (Int.mul_nonneg hM0 (by omega))
    have q2 : (p * (M * M)) * (Q' * Q') ≤ (p * (M * M)) * (Q * S) := mono2 hQ (Int.mul_nonneg (by omega) (Int.mul_nonneg hM0 hM0))
    have q3 : (4 * M * S) * (p * (M * (Q - S))) ≤ (4 * M * S) * (S * y + E) := mono2 hb (Int.mul_nonneg (by omega) (by omega))
    have q4 : S * ((2 * (E + p * (Q' - S))) * (M + M)) ≤ S * ((M + s) * (2 * E' - S)) := mono2 (by grind) (by omega)
    grind
  · have q1 : (p * (M + s) * 2) * (S + 1) ≤ (p * (M + s) * 2) * (S * s - Q' * M) := by
      refine mono2 (by omega) ?_
      exact Int.mul_nonneg (Int.mul_nonneg (by omega) (by omega)) (by omega)
    have q2 : S * (p * (2 * (s * s) - 2 * s - 2 * (M * M) - M)) ≤ S * (2 * M * y) := mono2 rl (by omega)
    have q3 : 0 ≤ p * M := Int.mul_nonneg (by omega) hM0
    have q4 : 0 ≤ (M + s) * (2 * E' - S) := Int.mul_nonneg (by omega) (by omega)
    have q5 : 0 ≤ p * M * S := Int.mul_nonneg q3 (by omega)
    have q6 : 0 ≤ p * (M + s) := Int.mul_nonneg (by omega) (by omega)
    grind
theorem upPos {x M y R p S Q Q' E E' : Int} (P : ilPre x M) (h : ilJ x M y R) (hx : M ≤ x) (hp : 2 ^ R.toNat = p) (hS : 0 < S) (hQ1 : S ≤ Q') (hQ : Q * S ≤ Q' * Q') (hE : 2 * E + 2 * (p * (Q' - S)) + S ≤ 2 * E')
    (hE0 : 0 ≤ E) (hb : S * y ≤ p * (M * (Q - S)) + E) : S * ilS M y R ≤ 2 * p * (M * (Q' - S)) + E' := by
  have hM := P.M0
  have hM0 : 0 ≤ M := by omega
  have pp : 0 < p := by rw [← hp]; exact pow2_pos _
  obtain ⟨rl, ru⟩ := root_lo P h hp rfl
  obtain ⟨d0, d1, d2⟩ := step_near P h rfl
  have hsM := (h.root P).1 hx
  obtain ⟨y0, _⟩ := h.up hx
  generalize sqrtN (M * (M + rshN y R)) = s at *
  generalize ilS M y R = v at *
  suffices hk : 4 * M * y * S ≤ 2 * (2 * p * (M * (Q' - S)) * (M + s)) + (2 * E' - S) * (M + s) by
    refine Int.not_lt.mp fun hlt => ?_
    have k1 : (M + s) * (2 * p * (M * (Q' - S)) + E' + 1) ≤ (M + s) * (S * v) := mono2 (by omega) (by omega)
    have k2 : S * (2 * (v * (M + s))) ≤ S * (4 * M * y + (M + s)) := mono2 d2 (by omega)
    grind
  have eE : 2 * (E + p * (Q' - S)) ≤ 2 * E' - S := by omega
  have k0 : 0 ≤ E + p * (Q' - S) := by
    have := Int.mul_nonneg (a := p) (b := Q' - S) (by omega) (by omega)
    omega
  have kE : (M + s) * (2 * (E + p * (Q' - S))) ≤ (M + s) * (2 * E' - S) := mono2 eE (by omega)
  have kM : (2 * (E + p * (Q' - S))) * (M + M) ≤ (2 * (E + p * (Q' - S))) * (M + s) := mono2 (by omega) (by omega)
  by_cases c : Q' * M ≤ S * s + S
  · refine Int.le_of_mul_le_mul_left (a := S) ?_ hS
    have q1 : (p * (M * (Q' - S))) * (M * (S + Q') - S) ≤ (p * (M * (Q' - S))) * (S * (M + s)) := by
      refine mono2 (by grind) ?_
      exact Int.mul_nonneg (by omega) (Int.mul_nonneg hM0 (by omega))
    have q2 : (p * (M * M)) * (Q * S) ≤ (p * (M * M)) * (Q' * Q') := mono2 hQ (Int.mul_nonneg (by omega) (Int.mul_nonneg hM0 hM0))
    have q3 : (4 * M * S) * (S * y) ≤ (4 * M * S) * (p * (M * (Q - S)) + E) := mono2 hb (Int.mul_nonneg (by omega) (by omega))
    have q4 : S * ((2 * (E + p * (Q' - S))) * (M + M)) ≤ S * ((M + s) * (2 * E' - S)) := mono2 (by grind) (by omega)
    grind
  · have q1 : (p * (M + s) * 2) * (S + 1) ≤ (p * (M + s) * 2) * (Q' * M - S * s) := by
      refine mono2 (by omega) ?_
      exact Int.mul_nonneg (Int.mul_nonneg (by omega) (by omega)) (by omega)
    have q2 : S * (2 * M * y) ≤ S * (p * (2 * (s * s) + 2 * s - 2 * (M * M) + M)) := mono2 ru (by omega)
    have q3 : 0 ≤ p * M := Int.mul_nonneg (by omega) hM0
    have q4 : 0 ≤ (M + s) * (2 * E' - S) := Int.mul_nonneg (by omega) (by omega)
    have q5 : 0 ≤ p * M * S := Int.mul_nonneg q3 (by omega)
    have q6 : 0 ≤ p * (M + s) := Int.mul_nonneg (by omega) (by omega)
    grind

theorem s_low {M y p S Q Q' E K s : Int} (hM : 100 ≤ M) (pp : 0 < p) (hS : 0 < S) (hQ1 : 0 ≤ Q') (hQ : Q' * Q' ≤ Q * S) (hs0 : 0 ≤ s) (hKS : S ≤ K) (hK0 : K ≤ 100 * Q')
    (hK : 200 * (E * S) + 100 * (p * (S * S)) ≤ 2 * (p * (100 * (2 * (K * Q') - S * Q') - K * (K - S)))) (hb : p * (M * (Q - S)) ≤ S * y + E)
    (ru : 2 * M * y ≤ p * (2 * (s * s) + 2 * s - 2 * (M * M) + M)) : Q' * M - K ≤ S * s := by
  refine Int.not_lt.mp fun hlt => ?_
  have hM0 : 0 ≤ M := by omega
  -- (S s)^2 + S (S s) < (Q' M - K)^2 + S (Q' M - K)
  have hz : 0 ≤ S * s := Int.mul_nonneg (by omega) hs0
  have hA : 0 ≤ Q' * M - K := by omega
  have a1 : (S * s) * (S * s) ≤ (Q' * M - K) * (Q' * M - K) := mul_lo hz hz (by omega) (by omega)
  have a2 : S * (S * s) ≤ S * (Q' * M - K - 1) := mono2 (by omega) (by omega)
  have a3 : (2 * p) * ((S * s) * (S * s) + S * (S * s)) ≤ (2 * p) * ((Q' * M - K) * (Q' * M - K) + S * (Q' * M - K - 1)) := mono2 (by omega) (by omega)
  have b1 : (S * S) * (2 * M * y) ≤ (S * S) * (p * (2 * (s * s) + 2 * s - 2 * (M * M) + M)) := mono2 ru (Int.mul_nonneg (by omega) (by omega))
  have b2 : (2 * M * S) * (p * (M * (Q - S))) ≤ (2 * M * S) * (S * y + E) := mono2 hb (Int.mul_nonneg (by omega) (by omega))
  have b3 : (2 * (p * (M * M))) * (Q' * Q') ≤ (2 * (p * (M * M))) * (Q * S) := mono2 hQ (Int.mul_nonneg (by omega) (Int.mul_nonneg (by omega) (Int.mul_nonneg hM0 hM0)))
  have c0 : M * (200 * (E * S) + 100 * (p * (S * S))) ≤ M * (2 * (p * (100 * (2 * (K * Q') - S * Q') - K * (K - S)))) := mono2 hK hM0
  have c1 : (p * (K * (K - S))) * 100 ≤ (p * (K * (K - S))) * M := mono2 hM (Int.mul_nonneg (by omega) (Int.mul_nonneg (by omega) (by omega)))
  have c2 : 0 < p * S := Int.mul_pos pp hS
  grind
theorem lowNeg {x M y R p S Q Q' E E' K : Int} (P : ilPre x M) (h : ilJ x M y R) (hp : 2 ^ R.toNat = p) (hS : 0 < S) (hQ0 : 0 ≤ Q') (hQ1 : Q' ≤ S) (hQ : Q' * Q' ≤ Q * S) (hKS : S ≤ K) (hK0 : K ≤ 100 * Q')
    (hK : 200 * (E * S) + 100 * (p * (S * S)) ≤ 2 * (p * (100 * (2 * (K * Q') - S * Q') - K * (K - S))))
    (hE : 400 * (S * E + p * ((S - Q') * K)) ≤ (2 * E' - S) * (100 * (S + Q') - K)) (hE0 : 0 ≤ E) (hE1 : S ≤ 2 * E') (hb : p * (M * (Q - S)) ≤ S * y + E) :
    2 * p * (M * (Q' - S)) ≤ S * ilS M y R + E' := by
  have hM := P.M0
  have hM0 : 0 ≤ M := by omega
  have pp : 0 < p := by rw [← hp]; exact pow2_pos _
  obtain ⟨rl, ru⟩ := root_lo P h hp rfl
  obtain ⟨d0, d1, d2⟩ := step_near P h rfl
  have s0 : 0 ≤ sqrtN (M * (M + rshN y R)) := by have := (h.arg P).2.2.1; omega
  generalize sqrtN (M * (M + rshN y R)) = s at *
  generalize ilS M y R = v at *
  have hs := s_low hM pp hS hQ0 hQ s0 hKS hK0 hK hb ru
  suffices hk : 2 * (2 * p * (M * (Q' - S)) * (M + s)) ≤ 4 * M * y * S + (2 * E' - S) * (M + s) by
    refine Int.not_lt.mp fun hlt => ?_
    have k1 : (M + s) * (S * v + E' + 1) ≤ (M + s) * (2 * p * (M * (Q' - S))) := mono2 (by omega) (by omega)
    have k2 : S * (4 * M * y - (M + s)) ≤ S * (2 * (v * (M + s))) := mono2 d1 (by omega)
    grind
  refine Int.le_of_mul_le_mul_left (a := S) ?_ hS
  have q1 : (p * (M * (S - Q'))) * (M * (S + Q') - K) ≤ (p * (M * (S - Q'))) * (S * (M + s)) := by
    refine mono2 (by grind) ?_
    exact Int.mul_nonneg (by omega) (Int.mul_nonneg hM0 (by omega))
  have q2 : (p * (M * M)) * (Q' * Q') ≤ (p * (M * M)) * (Q * S) := mono2 hQ (Int.mul_nonneg (by omega) (Int.mul_nonneg hM0 hM0))
  have q3 : (4 * M * S) * (p * (M * (Q - S))) ≤ (4 * M * S) * (S * y + E) := mono2 hb (Int.mul_nonneg (by omega) (by omega))
  have q4 : (2 * E' - S) * (M * (S + Q') - K) ≤ (2 * E' - S) * (S * (M + s)) := mono2 (by grind) (by omega)
  have q5 : ((2 * E' - S) * K) * 100 ≤ ((2 * E' - S) * K) * M := mono2 hM (Int.mul_nonneg (by omega) (by omega))
  have q6 : M * (400 * (S * E + p * ((S - Q') * K))) ≤ M * ((2 * E' - S) * (100 * (S + Q') - K)) := mono2 hE hM0
  grind
/-- the loop's end against a written chain, from below, x above M -/
structure ChPos (n : Nat) (S : Int) (Q E : Nat → Int) : Prop where
  S0 : 0 < S
  q : ∀ r, r < n → S ≤ Q (r + 1) ∧ Q (r + 1) * Q (r + 1) ≤ Q r * S ∧ 2 * E r + 2 * (2 ^ r * (Q (r + 1) - S)) + S ≤ 2 * E (r + 1) ∧ 0 ≤ E r
theorem chPos_end {x M : Int} {n : Nat} {S : Int} {Q E : Nat → Int} (P : ilPre x M) (hx : M ≤ x) (hn : 12 ≤ n) (C : ChPos n S Q E) (h0 : Q 0 * M ≤ x * S) (hE0 : 0 ≤ E 0) :
    ∃ y r, r ≤ 12 ∧ ilJ x M y (r : Nat) ∧ ilT M y (r : Nat) = false ∧ ilLp 40 M (x - M) 0 = (y, ((r : Nat) : Int)) ∧ 2 ^ r * (M * (Q r - S)) ≤ S * y + E r := by
  have hM := P.M0
  obtain ⟨y, R, h, ⟨r, e, hr, hb⟩, t, el⟩ := ilLp_inv P (fun y R => ∃ r : Nat, R = (r : Nat) ∧ r ≤ 12 ∧ 2 ^ r * (M * (Q r - S)) ≤ S * y + E r) ⟨0, rfl, by omega, by simp; grind⟩ (by
    rintro y R h ⟨r, rfl, hr, hb⟩ t
    have hr2 : r < 12 := by
      refine Nat.not_le.mp fun hle => ?_
      have e : r = 12 := by omega
      subst e
      unfold ilT at t
      rw [if_neg (by decide)] at t
      have t1 := fdiv_ge (b := 2 ^ (((12 : Nat) : Int) - 8).toNat) (pow2_pos _) (of_decide_eq_true t)
      have e1 : (2 : Int) ^ (((12 : Nat) : Int) - 8).toNat = 16 := by decide
      rw [e1] at t1
      obtain ⟨u1, u2⟩ := h.up hx
      have := P.hi
      omega
    refine ⟨r + 1, by omega, by omega, ?_⟩
    obtain ⟨c1, c2, c3, c4⟩ := C.q r (by omega)
    have := lowPos (p := 2 ^ r) P h hx (by simp) C.S0 c1 c2 c3 c4 hb
    rw [Int.pow_succ]
    grind)
  subst e
  exact ⟨y, r, hr, h, t, el, hb⟩
structure ChNeg (n : Nat) (S : Int) (Q E K : Nat → Int) : Prop where
  S0 : 0 < S
  q : ∀ r, r < n → 0 ≤ Q (r + 1) ∧ Q (r + 1) ≤ S ∧ Q (r + 1) * Q (r + 1) ≤ Q r * S ∧ S ≤ K r ∧ K r ≤ 100 * Q (r + 1) ∧
    200 * (E r * S) + 100 * (2 ^ r * (S * S)) ≤ 2 * (2 ^ r * (100 * (2 * (K r * Q (r + 1)) - S * Q (r + 1)) - K r * (K r - S))) ∧
    400 * (S * E r + 2 ^ r * ((S - Q (r + 1)) * K r)) ≤ (2 * E (r + 1) - S) * (100 * (S + Q (r + 1)) - K r) ∧ 0 ≤ E r ∧ S ≤ 2 * E (r + 1)
  last : 1024 * (S - Q 10) * 100 + E 10 < 400 * S
theorem chNeg_end {x M : Int} {S : Int} {Q E K : Nat → Int} (P : ilPre x M) (hx : x < M) (C : ChNeg 10 S Q E K) (hE10 : 0 ≤ E 10) (h0 : Q 0 * M ≤ x * S) (hE0 : 0 ≤ E 0) :
    ∃ y r, r ≤ 10 ∧ ilJ x M y (r : Nat) ∧ ilT M y (r : Nat) = false ∧ ilLp 40 M (x - M) 0 = (y, ((r : Nat) : Int)) ∧ 2 ^ r * (M * (Q r - S)) ≤ S * y + E r := by
  have hM := P.M0
  have hM0 : 0 ≤ M := by omega
  obtain ⟨y, R, h, ⟨r, e, hr, hb⟩, t, el⟩ := ilLp_inv P (fun y R => ∃ r : Nat, R = (r : Nat) ∧ r ≤ 10 ∧ 2 ^ r * (M * (Q r - S)) ≤ S * y + E r) ⟨0, rfl, by omega, by simp; grind⟩ (by
    rintro y R h ⟨r, rfl, hr, hb⟩ t
    have hr2 : r < 10 := by
      refine Nat.not_le.mp fun hle => ?_
      have e : r = 10 := by omega
      subst e
      unfold ilT at t
      rw [if_neg (by decide)] at t
      have t1 := fdiv_ge (b := 2 ^ (((10 : Nat) : Int) - 8).toNat) (pow2_pos _) (of_decide_eq_true t)
      have e1 : (2 : Int) ^ (((10 : Nat) : Int) - 8).toNat = 4 := by decide
      rw [e1] at t1
      obtain ⟨u1, u2, u3⟩ := h.dn hx
      have e2 : (2 : Int) ^ 10 = 1024 := by decide
      rw [e2] at hb
      have l := C.last
      have S0 := C.S0
      have k1 : S * y ≤ S * (-(4 * M)) := mono2 (by omega) (by omega)
      have k2 : M * (1024 * (S - Q 10) * 100 + E 10 + 1) ≤ M * (400 * S) := mono2 l hM0
      have k3 : E 10 * 100 ≤ E 10 * M := mono2 hM hE10
      grind
    refine ⟨r + 1, by omega, by omega, ?_⟩
    obtain ⟨c1, c2, c3, c4, c5, c6, c7, c8, c9⟩ := C.q r (by omega)
    have := lowNeg (p := 2 ^ r) P h (by simp) C.S0 c1 c2 c3 c4 c5 c6 c7 c8 c9 hb
    rw [Int.pow_succ]
    grind)
  subst e
  exact ⟨y, r, hr, h, t, el, hb⟩

def cor6 (d : Int) : Int := if d = 1 then 100 else if d = 2 then 70 else if d = 3 then 53 else if d = 4 then 40 else if d = 5 then 31 else if d = 6 then 23 else if d = 7 then 16 else if d = 8 then 10 else 5
def qCh (S q : Int) : Nat → Int
  | 0 => q
  | r + 1 => (isq 300 (qCh S q r * S).toNat : Int)
def eCh (S : Int) (Q : Nat → Int) : Nat → Int
  | 0 => 0
  | r + 1 => eCh S Q r + 2 ^ r * (Q (r + 1) - S) + (S + 1) / 2
abbrev S6 : Int := 1000000000
def qP6 (d : Int) : Nat → Int := qCh S6 (d * S6)
def eP6 (d : Int) : Nat → Int := eCh S6 (qP6 d)
def qN6 (d : Int) : Nat → Int := qCh S6 (d * 100000000)
/-- the room that the root's floor wants, and the errors, x below M -/
def kN6 (S : Int) (Q : Nat → Int) (E : Int) (r : Nat) : Int := S + (S * (100 * (2 ^ r * (S)) + 200 * E)) / (400 * (2 ^ r * Q (r + 1))) + S / 2
def eN6 (S : Int) (Q : Nat → Int) : Nat → Int
  | 0 => 0
  | r + 1 => (400 * (S * eN6 S Q r + 2 ^ r * ((S - Q (r + 1)) * kN6 S Q (eN6 S Q r) r))) / (2 * (100 * (S + Q (r + 1)) - kN6 S Q (eN6 S Q r) r)) + 1 + (S + 1) / 2
theorem chP6_tab : ∀ d : Fin 9, ∀ r : Fin 12, S6 ≤ qP6 (d.val + 1) (r.val + 1) ∧ qP6 (d.val + 1) (r.val + 1) * qP6 (d.val + 1) (r.val + 1) ≤ qP6 (d.val + 1) r.val * S6 ∧ 2 * eP6 (d.val + 1) r.val + 2 * (2 ^ r.val * (qP6 (d.val + 1) (r.val + 1) - S6)) + S6 ≤ 2 * eP6 (d.val + 1) (r.val + 1) ∧ 0 ≤ eP6 (d.val + 1) r.val := by decide +kernel
theorem chN6_tab : ∀ d : Fin 9, ∀ r : Fin 10, 0 ≤ qN6 (d.val + 1) (r.val + 1) ∧ qN6 (d.val + 1) (r.val + 1) ≤ S6 ∧ qN6 (d.val + 1) (r.val + 1) * qN6 (d.val + 1) (r.val + 1) ≤ qN6 (d.val + 1) r.val * S6 ∧
    S6 ≤ kN6 S6 (qN6 (d.val + 1)) (eN6 S6 (qN6 (d.val + 1)) r.val) r.val ∧ kN6 S6 (qN6 (d.val + 1)) (eN6 S6 (qN6 (d.val + 1)) r.val) r.val ≤ 100 * qN6 (d.val + 1) (r.val + 1) ∧
    200 * (eN6 S6 (qN6 (d.val + 1)) r.val * S6) + 100 * (2 ^ r.val * (S6 * S6)) ≤ 2 * (2 ^ r.val * (100 * (2 * (kN6 S6 (qN6 (d.val + 1)) (eN6 S6 (qN6 (d.val + 1)) r.val) r.val * qN6 (d.val + 1) (r.val + 1)) - S6 * qN6 (d.val + 1) (r.val + 1)) - kN6 S6 (qN6 (d.val + 1)) (eN6 S6 (qN6 (d.val + 1)) r.val) r.val * (kN6 S6 (qN6 (d.val + 1)) (eN6 S6 (qN6 (d.val + 1)) r.val) r.val - S6))) ∧
    400 * (S6 * eN6 S6 (qN6 (d.val + 1)) r.val + 2 ^ r.val * ((S6 - qN6 (d.val + 1) (r.val + 1)) * kN6 S6 (qN6 (d.val + 1)) (eN6 S6 (qN6 (d.val + 1)) r.val) r.val)) ≤ (2 * eN6 S6 (qN6 (d.val + 1)) (r.val + 1) - S6) * (100 * (S6 + qN6 (d.val + 1) (r.val + 1)) - kN6 S6 (qN6 (d.val + 1)) (eN6 S6 (qN6 (d.val + 1)) r.val) r.val) ∧ 0 ≤ eN6 S6 (qN6 (d.val + 1)) r.val ∧ S6 ≤ 2 * eN6 S6 (qN6 (d.val + 1)) (r.val + 1) := by decide +kernel
theorem chN6_last : ∀ d : Fin 9, 1024 * (S6 - qN6 (d.val + 1) 10) * 100 + eN6 S6 (qN6 (d.val + 1)) 10 < 400 * S6 ∧ 0 ≤ eN6 S6 (qN6 (d.val + 1)) 10 := by decide +kernel
theorem divN_mono {a b n : Int} (hn : 0 < n) (h : a ≤ b) : divN a n ≤ divN b n := by
  have na := divN_near (a := a) hn
  have nb := divN_near (a := b) hn
  have ea := divN_even (a := a) hn
  have eb := divN_even (a := b) hn
  generalize divN a n = p at *
  generalize divN b n = q at *
  refine Int.not_lt.mp fun hlt => ?_
  have k : n * (q + 1) ≤ n * p := mono2 (by omega) (by omega)
  have e1 : n * (q + 1) = n * q + n := by grind
  have e3 : p = q + 1 := by
    refine Int.le_antisymm (Int.not_lt.mp fun hlt => ?_) (by omega)
    have : n * (q + 2) ≤ n * p := mono2 (by omega) (by omega)
    have e4 : n * (q + 2) = n * q + n + n := by grind
    omega
  have e2 : n * p = n * q + n := by rw [e3]; exact e1
  have a1 := ea (by omega)
  have a2 := eb (by omega)
  omega
def dd6 (x : Int) : Int := divN (ilogN x 10000 * 10000) 23025
def yP6 (d : Int) (r : Nat) : Int := max 0 ((2 ^ r * (10000 * (qP6 d r - S6)) - eP6 d r + S6 - 1) / S6)
def yN6 (d : Int) (r : Nat) : Int := (2 ^ r * (10000 * (qN6 d r - S6)) - eN6 S6 (qN6 d) r + S6 - 1) / S6
theorem finP6 : ∀ d : Fin 9, ∀ r : Fin 13, 100 * (100 - cor6 (d.val + 1)) - 50 < divN (divN (9980 * yP6 (d.val + 1) r.val) 10000 * 10000) 23025 := by decide +kernel
theorem finN6 : ∀ d : Fin 9, ∀ r : Fin 11, -100 * cor6 (d.val + 1) - 50 < divN (divN (10020 * yN6 (d.val + 1) r.val) 10000 * 10000) 23025 := by decide +kernel
theorem w6_tab : ∀ k : Fin 79, 9980 ≤ ilogW 10000 ((k.val : Int) - 39) ∧ ilogW 10000 ((k.val : Int) - 39) ≤ 10020 := by decide +kernel
theorem w6 {ys : Int} (h1 : -39 ≤ ys) (h2 : ys ≤ 39) : 9980 ≤ ilogW 10000 ys ∧ ilogW 10000 ys ≤ 10020 := by
  have := w6_tab ⟨(ys + 39).toNat, by omega⟩
  have e : (((ys + 39).toNat : Nat) : Int) - 39 = ys := by omega
  simpa only [e] using this
theorem ys6 {y R : Int} (h0 : 0 ≤ R) (t : ilT 10000 y R = false) : -39 ≤ rshN y R ∧ rshN y R ≤ 39 := by
  obtain ⟨t1, t2⟩ := ilT_stop h0 t
  have hp := pow2_pos R.toNat
  have hn := divN_near (a := y) hp
  rw [rshN_div]
  generalize divN y (2 ^ R.toNat) = q at *
  generalize (2 : Int) ^ R.toNat = p at *
  constructor
  · refine Int.not_lt.mp fun hlt => ?_
    have k1 : p * q ≤ p * (-40) := mono2 (by omega) (by omega)
    omega
  · refine Int.not_lt.mp fun hlt => ?_
    have k1 : p * 40 ≤ p * q := mono2 (by omega) (by omega)
    omega
theorem pre_u {x : Int} (h1 : 1000 ≤ x) (h2 : x ≤ 100000) : ilPre x 10000 := ⟨by omega, by decide +kernel, by omega, by omega⟩
theorem fin9 {d : Int} (h1 : 1 ≤ d) (h2 : d ≤ 9) {P : Int → Prop} (h : ∀ k : Fin 9, P (k.val + 1)) : P d := by
  have := h ⟨(d - 1).toNat, by omega⟩
  have e : (((d - 1).toNat : Nat) : Int) + 1 = d := by omega
  simpa only [e] using this
theorem low06_pos {x d : Int} (h1 : 1 ≤ d) (h2 : d ≤ 9) (hx : d * 10000 ≤ x) (hx2 : x ≤ 100000) : 100 * (100 - cor6 d) - 50 < dd6 x := by
  have P := pre_u (x := x) (by omega) hx2
  have C : ChPos 12 S6 (qP6 d) (eP6 d) := ⟨by decide, fun r hr => by
    have := fin9 h1 h2 (P := fun d => ∀ r : Fin 12, S6 ≤ qP6 d (r.val + 1) ∧ qP6 d (r.val + 1) * qP6 d (r.val + 1) ≤ qP6 d r.val * S6 ∧ 2 * eP6 d r.val + 2 * (2 ^ r.val * (qP6 d (r.val + 1) - S6)) + S6 ≤ 2 * eP6 d (r.val + 1) ∧ 0 ≤ eP6 d r.val) chP6_tab
    exact this ⟨r, hr⟩⟩
  have q0 : qP6 d 0 = d * S6 := rfl
  have e0 : eP6 d 0 = 0 := rfl
  obtain ⟨y, r, hr, hj, ht, el, hb⟩ := chPos_end P (by omega) (by omega) C (by rw [q0]; show d * 1000000000 * 10000 ≤ x * 1000000000; omega) (by rw [e0]; omega)
  have y0 := (hj.up (by omega)).1
  have hys := ys6 (by omega) ht
  have hw := w6 hys.1 hys.2
  have hyl : yP6 d r ≤ y := by
    unfold yP6
    generalize (2 : Int) ^ r * (10000 * (qP6 d r - S6)) = A at *
    generalize eP6 d r = B at *
    have hb' : A ≤ 1000000000 * y + B := hb
    show max 0 ((A - B + 1000000000 - 1) / 1000000000) ≤ y
    omega
  have hyl0 : 0 ≤ yP6 d r := by unfold yP6; omega
  have hf : 100 * (100 - cor6 d) - 50 < divN (divN (9980 * yP6 d r) 10000 * 10000) 23025 := by
    have := fin9 h1 h2 (P := fun d => ∀ r : Fin 13, 100 * (100 - cor6 d) - 50 < divN (divN (9980 * yP6 d r.val) 10000 * 10000) 23025) finP6
    exact this ⟨r, by omega⟩
  refine Int.lt_of_lt_of_le hf ?_
  unfold dd6 ilogN
  rw [el]
  refine divN_mono (by decide) (Int.mul_le_mul_of_nonneg_right (divN_mono (by decide) ?_) (by decide))
  exact mul_lo (by decide) hyl0 hw.1 hyl
theorem low06_neg {x d : Int} (h1 : 1 ≤ d) (h2 : d ≤ 9) (hx : d * 1000 ≤ x) (hx2 : x ≤ 10000) : -100 * cor6 d - 50 < dd6 x := by
  have P := pre_u (x := x) (by omega) (by omega)
  by_cases hM : x = 10000
  · subst hM
    have e : dd6 10000 = 0 := by decide +kernel
    rw [e]
    have : ∀ k : Fin 9, -100 * cor6 (k.val + 1) - 50 < 0 := by decide
    exact fin9 h1 h2 (P := fun d => -100 * cor6 d - 50 < 0) this
  have C : ChNeg 10 S6 (qN6 d) (eN6 S6 (qN6 d)) (fun r => kN6 S6 (qN6 d) (eN6 S6 (qN6 d) r) r) := ⟨by decide, fun r hr => by
    have := fin9 h1 h2 (P := fun d => ∀ r : Fin 10, 0 ≤ qN6 d (r.val + 1) ∧ qN6 d (r.val + 1) ≤ S6 ∧ qN6 d (r.val + 1) * qN6 d (r.val + 1) ≤ qN6 d r.val * S6 ∧
    S6 ≤ kN6 S6 (qN6 d) (eN6 S6 (qN6 d) r.val) r.val ∧ kN6 S6 (qN6 d) (eN6 S6 (qN6 d) r.val) r.val ≤ 100 * qN6 d (r.val + 1) ∧
    200 * (eN6 S6 (qN6 d) r.val * S6) + 100 * (2 ^ r.val * (S6 * S6)) ≤ 2 * (2 ^ r.val * (100 * (2 * (kN6 S6 (qN6 d) (eN6 S6 (qN6 d) r.val) r.val * qN6 d (r.val + 1)) - S6 * qN6 d (r.val + 1)) - kN6 S6 (qN6 d) (eN6 S6 (qN6 d) r.val) r.val * (kN6 S6 (qN6 d) (eN6 S6 (qN6 d) r.val) r.val - S6))) ∧
    400 * (S6 * eN6 S6 (qN6 d) r.val + 2 ^ r.val * ((S6 - qN6 d (r.val + 1)) * kN6 S6 (qN6 d) (eN6 S6 (qN6 d) r.val) r.val)) ≤ (2 * eN6 S6 (qN6 d) (r.val + 1) - S6) * (100 * (S6 + qN6 d (r.val + 1)) - kN6 S6 (qN6 d) (eN6 S6 (qN6 d) r.val) r.val) ∧ 0 ≤ eN6 S6 (qN6 d) r.val ∧ S6 ≤ 2 * eN6 S6 (qN6 d) (r.val + 1)) chN6_tab
    exact this ⟨r, hr⟩, by
    have := fin9 h1 h2 (P := fun d => 1024 * (S6 - qN6 d 10) * 100 + eN6 S6 (qN6 d) 10 < 400 * S6 ∧ 0 ≤ eN6 S6 (qN6 d) 10) chN6_last
    exact this.1⟩
  have l10 : 0 ≤ eN6 S6 (qN6 d) 10 := (fin9 h1 h2 (P := fun d => 1024 * (S6 - qN6 d 10) * 100 + eN6 S6 (qN6 d) 10 < 400 * S6 ∧ 0 ≤ eN6 S6 (qN6 d) 10) chN6_last).2
  have q0 : qN6 d 0 = d * 100000000 := rfl
  have e0 : eN6 S6 (qN6 d) 0 = 0 := rfl
  obtain ⟨y, r, hr, hj, ht, el, hb⟩ := chNeg_end P (by omega) C l10 (by rw [q0]; show d * 100000000 * 10000 ≤ x * 1000000000; omega) (by rw [e0]; omega)
  obtain ⟨y0, _, _⟩ := hj.dn (by omega)
  have hys := ys6 (by omega) ht
  have hw := w6 hys.1 hys.2
  have hyl : yN6 d r ≤ y := by
    unfold yN6
    generalize (2 : Int) ^ r * (10000 * (qN6 d r - S6)) = A at *
    generalize eN6 S6 (qN6 d) r = B at *
    have hb' : A ≤ 1000000000 * y + B := hb
    show (A - B + 1000000000 - 1) / 1000000000 ≤ y
    omega
  have hf : -100 * cor6 d - 50 < divN (divN (10020 * yN6 d r) 10000 * 10000) 23025 := by
    have := fin9 h1 h2 (P := fun d => ∀ r : Fin 11, -100 * cor6 d - 50 < divN (divN (10020 * yN6 d r.val) 10000 * 10000) 23025) finN6
    exact this ⟨r, by omega⟩
  refine Int.lt_of_lt_of_le hf ?_
  unfold dd6 ilogN
  rw [el]
  refine divN_mono (by decide) (Int.mul_le_mul_of_nonneg_right (divN_mono (by decide) ?_) (by decide))
  have k1 : 10020 * yN6 d r ≤ 10020 * y := mono2 hyl (by decide)
  have k2 : (-y) * ilogW 10000 (rshN y r) ≤ (-y) * 10020 := mono2 hw.2 (by omega)
  show _ ≤ ilogW 10000 (rshN y r) * y
  grind
/-- the law -/
theorem dlog_06 {c e f x : Int} (hf : dl_f c e = f) (hx : dl_c c e 4 = x) : dlog10N c e 2 = f * 100 + divN (dd6 x) 100 := by
  rw [dlog10_val (p := 2) (by omega) hf hx, shift_val (by omega)]
  have e1 : (10 : Int) ^ (2 + 2 : Int).toNat = 10000 := by decide
  have e2 : log10D (2 + 2) = 23025 := by decide +kernel
  have e3 : (10 : Int) ^ (2 : Int).toNat = 100 := by decide
  rw [e1, e2, e3]; rfl
def d6 (x : Int) : Int := divN (divN (ilogN x 1000000 * 1000000) 2302585) 100
theorem dlog_64 {c e f x : Int} (hf : dl_f c e = f) (hx : dl_c c e 6 = x) : dlog10N c e 4 = f * 10000 + d6 x := by
  rw [dlog10_val (p := 4) (by omega) hf hx, shift_val (by omega)]
  have e1 : (10 : Int) ^ (4 + 2 : Int).toNat = 1000000 := by decide
  have e2 : log10D (4 + 2) = 2302585 := by decide +kernel
  have e3 : (10 : Int) ^ (4 : Int).toNat = 10000 := by decide
  rw [e1, e2, e3]; rfl
theorem tab64P : ∀ k : Fin 9, (d6 ((k.val + 1 : Int) * 1000000)).fdiv 100 = 100 - cor6 (k.val + 1) := by decide +kernel
theorem tab64N : ∀ k : Fin 9, (d6 ((k.val + 1 : Int) * 100000)).fdiv 100 = -cor6 (k.val + 1) := by decide +kernel
theorem fdiv_shift {a b : Int} : (a * 10000 + b).fdiv 100 = a * 100 + b.fdiv 100 := by
  rw [Int.fdiv_eq_ediv_of_nonneg _ (by omega), Int.fdiv_eq_ediv_of_nonneg _ (by omega)]; omega
/-- the exponents by the figures -/
theorem f6 {c e size : Int} (hs : ndig c = size) (q : Nat) : (1 ≤ e + size → dl_f c e = e + size - 1 ∧ dl_k c e (q : Nat) = (q : Nat) - (size - 1)) ∧ (¬ 1 ≤ e + size → dl_f c e = e + size ∧ dl_k c e (q + 1 : Nat) = (q : Nat) - (size - 1)) := by
  refine ⟨fun h => ?_, fun h => ?_⟩
  · have hf : dl_f c e = e + size - 1 := by
      unfold dl_f; rw [hs, if_pos (by simp <;> omega)]
    exact ⟨hf, by unfold dl_k; rw [hf]; omega⟩
  · have hf : dl_f c e = e + size := by
      unfold dl_f; rw [hs, if_neg (by simp <;> omega)]; omega
    exact ⟨hf, by unfold dl_k; rw [hf]; omega⟩
/-- a number of first figure d and so many more -/
structure D6 (c d more : Int) : Prop where
  m0 : 0 ≤ more
  d1 : 1 ≤ d
  d2 : d ≤ 9
  lo : d * 10 ^ more.toNat ≤ c
  hi : c < (d + 1) * 10 ^ more.toNat
theorem D6.pos {c d more : Int} (h : D6 c d more) : 0 < c := by
  have p := ten_pos more.toNat
  have : 1 * 10 ^ more.toNat ≤ d * 10 ^ more.toNat := Int.mul_le_mul_of_nonneg_right h.d1 (by omega)
  have := h.lo
  omega
theorem D6.dig {c d more : Int} (h : D6 c d more) : ndig c = more + 1 := by
  have p := ten_pos more.toNat
  refine ndig_of (by have := h.m0; omega) ?_ ?_
  · have e : (more + 1 - 1).toNat = more.toNat := by omega
    rw [e]
    have : 1 * 10 ^ more.toNat ≤ d * 10 ^ more.toNat := Int.mul_le_mul_of_nonneg_right h.d1 (by omega)
    have := h.lo
    omega
  · have e : (more + 1).toNat = more.toNat + 1 := by have := h.m0; omega
    rw [e, Int.pow_succ]
    have : (d + 1) * 10 ^ more.toNat ≤ 10 * 10 ^ more.toNat := Int.mul_le_mul_of_nonneg_right (by have := h.d2; omega) (by omega)
    have := h.hi
    omega
theorem scaled_ge {c e q d : Int} {k : Nat} {more : Int} (h : D6 c d more) (hk : dl_k c e q = (k : Nat) - (more + 1 - 1)) : d * 10 ^ k ≤ dl_c c e q ∧ dl_c c e q ≤ 10 * 10 ^ k := by
  obtain ⟨s1, s2, s3⟩ := scaled h.dig hk h.pos
  obtain ⟨u1, u2, u3⟩ := unit_facts h.dig h.pos
  have em : (more + 1 - 1).toNat = more.toNat := by omega
  rw [em] at s1 s2 s3 u1 u2 u3
  have pk := ten_pos k
  have lo := h.lo
  generalize dl_c c e q = x at *
  generalize (10 : Int) ^ more.toNat = u at *
  generalize (10 : Int) ^ k = K at *
  constructor
  · refine Int.not_lt.mp fun hlt => ?_
    have k1 : u * x ≤ u * (d * K - 1) := mono2 (by omega) (by omega)
    have k2 : K * (d * u) ≤ K * c := mono2 lo (by omega)
    grind
  · refine Int.not_lt.mp fun hlt => ?_
    have k1 : u * (10 * K + 1) ≤ u * x := mono2 (by omega) (by omega)
    have k2 : K * c ≤ K * (10 * u - 1) := mono2 (by omega) (by omega)
    grind
theorem scaled_eq {d e q : Int} {k : Nat} {more : Int} (h : D6 (d * 10 ^ more.toNat) d more) (hk : dl_k (d * 10 ^ more.toNat) e q = (k : Nat) - (more + 1 - 1)) : dl_c (d * 10 ^ more.toNat) e q = d * 10 ^ k := by
  obtain ⟨s1, s2, s3⟩ := scaled h.dig hk h.pos
  have em : (more + 1 - 1).toNat = more.toNat := by omega
  rw [em] at s1 s2 s3
  have u1 := ten_pos more.toNat
  generalize dl_c (d * 10 ^ more.toNat) _ q = x at *
  generalize (10 : Int) ^ more.toNat = u at *
  generalize (10 : Int) ^ k = K at *
  refine Int.le_antisymm (Int.not_lt.mp fun hlt => ?_) (Int.not_lt.mp fun hlt => ?_)
  · have k1 : u * (d * K + 1) ≤ u * x := mono2 (by omega) (by omega)
    grind
  · have k1 : u * x ≤ u * (d * K - 1) := mono2 (by omega) (by omega)
    grind
theorem near_ge {a b : Int} (h : 100 * a - 50 < b) : a ≤ divN b 100 := by
  have n := divN_near (a := b) (b := 100) (by decide)
  omega
theorem law06_a {c d more e : Int} (h : D6 c d more) : 100 * e + (100 * (more + 1) - cor6 d) ≤ dlog10N c e 2 := by
  obtain ⟨c1, c2⟩ := f6 (e := e) h.dig 4
  obtain ⟨c3, c4⟩ := f6 (e := e) h.dig 3
  have e4 : (10 : Int) ^ 4 = 10000 := by decide
  have e3 : (10 : Int) ^ 3 = 1000 := by decide
  by_cases c0 : 1 ≤ e + (more + 1)
  · obtain ⟨hf, hk⟩ := c1 c0
    obtain ⟨g1, g2⟩ := scaled_ge h hk
    rw [dlog_06 hf rfl]
    rw [e4] at g1 g2
    have := near_ge (low06_pos h.d1 h.d2 g1 (by omega))
    show _ ≤ _ + divN (dd6 (dl_c c e ((4 : Nat) : Int))) 100
    omega
  · obtain ⟨hf, hk⟩ := c4 c0
    obtain ⟨g1, g2⟩ := scaled_ge h hk
    rw [dlog_06 hf rfl]
    rw [e3] at g1 g2
    have e34 : (((3 + 1 : Nat)) : Int) = ((4 : Nat) : Int) := rfl
    rw [e34] at g1 g2
    have q : -100 * cor6 d - 50 < dd6 (dl_c c e ((4 : Nat) : Int)) := low06_neg h.d1 h.d2 g1 (by omega)
    have q2 := near_ge (a := -cor6 d) (b := dd6 (dl_c c e ((4 : Nat) : Int))) (by omega)
    show _ ≤ _ + divN (dd6 (dl_c c e ((4 : Nat) : Int))) 100
    omega
theorem law06_b {d more e : Int} (h : D6 (d * 10 ^ more.toNat) d more) : 100 * e + (100 * (more + 1) - cor6 d) = (dlog10N (d * 10 ^ more.toNat) e 4).fdiv 100 := by
  obtain ⟨c1, c2⟩ := f6 (e := e) h.dig 6
  obtain ⟨c3, c4⟩ := f6 (e := e) h.dig 5
  have e6 : (10 : Int) ^ 6 = 1000000 := by decide
  have e5 : (10 : Int) ^ 5 = 100000 := by decide
  by_cases c0 : 1 ≤ e + (more + 1)
  · obtain ⟨hf, hk⟩ := c1 c0
    have g := scaled_eq h hk
    rw [dlog_64 hf (x := d * 1000000) (by rw [← e6]; exact g), fdiv_shift]
    have := fin9 h.d1 h.d2 (P := fun d => (d6 (d * 1000000)).fdiv 100 = 100 - cor6 d) tab64P
    rw [this]; omega
  · obtain ⟨hf, hk⟩ := c4 c0
    have g := scaled_eq h hk
    rw [dlog_64 hf (x := d * 100000) (by rw [← e5]; exact g), fdiv_shift]
    have := fin9 h.d1 h.d2 (P := fun d => (d6 (d * 100000)).fdiv 100 = -cor6 d) tab64N
    rw [this]; omega

abbrev Tell (n : Nat) (w : World) (mean : ExcName → Option Value) (mg mb : Str → Option Value) (f : Addr) (pre : Prop) (vs : List Value) (R : Tok → Value) : Prop :=
  ∀ (news : List (Addr × Obj)) (dp un : Nat) (gd : Option (List Code)) (cn : Str) (cs : Scope) (a : Addr) (ccd : Value) (cl : List (Str × Addr)) (outer : List Env) (A₀ : Around) (base h₀ : Heap) (L : Addr) (m : Str → Option Value) (s : Shared) (Q E : Value → Shared → Prop),
    Below A₀ base outer h₀ → Fr h₀ L s.heap m → (hd.heap_39 w.params).In h₀ → News h₀ L s.heap news → Top hd.view_39 (looseW hd.view_39 [Str.ofString "_ilog", Str.ofString "_log10_digits", Str.ofString "_log10_lb"]) mean mg mb h₀ → cs.kind = .function →
    pre → dp + n < recursionLimit → un + 8 * n < cLine →
    (∀ (t : Tok) (h' : Heap) (tk' : Nat), Fr h₀ L h' m → News h₀ L h' news → Q (R t) { s with heap := h', toks := tk' }) →
    wpAny (model Challenge.rw_dm0270_06.row.prog w) (ktrTop dp un gd cn cs L a ccd cl outer) (call (.ref f) vs) Q E s

local macro_rules | `(tactic| walk_at "call builtin:divmod") => `(tactic| (k_here; (with_reducible show wpAny _ _ (call (Value.builtin _) [Value.int _ _, Value.int _ _]) _ _ _); k_dflt (refine' divmod_N ?k1 ?k2 ?k3 ?_ ?k5; (case k1 => k_asm); (case k2 => k_asm); (case k3 => omega); (case k5 => exact Or.inl (PyProof.noPylong_of_log2 (by assumption))); k_whole); intro h' F' N'))

set_option maxRecDepth 100000 in
set_option maxHeartbeats 8000000 in
theorem t_div (w : World) (mean) (mg mb) (a b : Int) (ta tb : Tok) : Tell 1 w mean mg mb 35 (0 < b ∧ b ≤ Big) [.int a ta, .int b tb] (fun t => .int (divN a b) t) := by
  unfold Tell; k_fill
  intro news dp un gd cn cs aa ccd cl outer A₀ base h₀ L m s Q E B F X N T hk hpre hd hu hret
  obtain ⟨hb0, hb1⟩ := hpre
  have hb2 := log2_big (Int.le_of_lt hb0) hb1
  refine wpAny_call ?_
  k_dflt cell_enter
  k_steps
  all_goals cb_end hret
set_option maxRecDepth 100000 in
set_option maxHeartbeats 8000000 in
theorem t_rsh (w : World) (mean) (mg mb) (x sh : Int) (ta tb : Tok) : Tell 1 w mean mg mb 28 (0 ≤ sh ∧ sh ≤ 100) [.int x ta, .int sh tb] (fun t => .int (rshN x sh) t) := by
  unfold Tell; k_fill
  intro news dp un gd cn cs aa ccd cl outer A₀ base h₀ L m s Q E B F X N T hk hpre hd hu hret
  obtain ⟨hb0, hb1⟩ := hpre
  refine wpAny_call ?_
  k_dflt cell_enter
  k_steps
  all_goals cb_end hret
local macro_rules | `(tactic| walk_at "binaryOp FloorDiv int int") => `(tactic| (k_here; (with_reducible refine floordiv_int ?kbe ?_ (Or.inl (PyProof.noPylong_of_log2 (log2_big ?kb1 ?kb2)))); (case kbe => omega); (case kb1 => omega); (case kb2 => omega)))
set_option maxRecDepth 100000 in
set_option maxHeartbeats 8000000 in
theorem t_sqrt (w : World) (mean) (mg mb) (n a : Int) (ta tb : Tok) : Tell 1 w mean mg mb 21 (0 < n ∧ n ≤ Big ∧ 0 < a ∧ a ≤ Big) [.int n ta, .int a tb] (fun t => .int (sqrtN n) t) := by
  unfold Tell; k_fill
  intro news dp un gd cn cs aa ccd cl outer A₀ base h₀ L m s Q E B F X N T hk hpre hd hu hret
  obtain ⟨hn0, hn1, ha0, ha1⟩ := hpre
  refine wpAny_call ?_
  k_dflt cell_enter
  k_with_none
  k_with "exec While Compare cons nil" => k_while (fun _ a b => (0 < a ∧ a ≤ Big) ∧ sqP n a b) (fun _ a b => sqM n a b) "a" "b"
  k_with "state" => (first | exact ⟨⟨by assumption, by assumption⟩, by assumption, by assumption, Or.inl rfl⟩ | (rename (sqP _ _ _) => hI; have h9 := sqP_next hn0 hn1 hI; exact ⟨⟨h9.1, h9.2.1⟩, h9⟩))
  k_with "measure" => (rename (sqP _ _ _) => hI; have h9 := sqM_next hn0 hn1 hI (by assumption); exact h9)
  k_with "tree" => (rename (sqP _ _ _) => hI; exact sq_end hn0 hn1 hI (by first | assumption | omega))
  k_steps
  all_goals cb_end hret

local macro_rules | `(tactic| walk_at "call ref") => `(tactic| (k_here; (with_reducible show wpAny _ _ (call (Value.ref 35) [Value.int _ _, Value.int _ _]) _ _ _); k_dflt (refine' t_div _ _ _ _ _ _ _ _ _ _ _ _ _ _ _ _ _ _ _ _ _ _ _ _ _ _ ?k1 ?k2 ?k3 ?k4 ?k5 ?kK ?kp ?kd ?ku ?_; (case k1 => k_asm); (case k2 => k_asm); (case k3 => k_asm); (case k4 => k_asm); (case k5 => k_asm); (case kK => first | exact rfl | assumption); (case kp => first | exact ⟨by assumption, by assumption⟩ | exact ⟨by omega, by omega⟩ | k_extra "pre"); (case kd => ktr_room); (case ku => ktr_units)); intro t9 h9 tk9 F9 N9; (try dsimp only); (try k_fold)))
local macro_rules | `(tactic| walk_at "call ref") => `(tactic| (k_here; (with_reducible show wpAny _ _ (call (Value.ref 28) [Value.int _ _, Value.int _ _]) _ _ _); k_dflt (refine' t_rsh _ _ _ _ _ _ _ _ _ _ _ _ _ _ _ _ _ _ _ _ _ _ _ _ _ _ ?k1 ?k2 ?k3 ?k4 ?k5 ?kK ?kp ?kd ?ku ?_; (case k1 => k_asm); (case k2 => k_asm); (case k3 => k_asm); (case k4 => k_asm); (case k5 => k_asm); (case kK => first | exact rfl | assumption); (case kp => exact ⟨by omega, by omega⟩); (case kd => ktr_room); (case ku => ktr_units)); intro t9 h9 tk9 F9 N9; (try dsimp only); (try k_fold)))
local macro_rules | `(tactic| walk_at "call ref") => `(tactic| (k_here; (with_reducible show wpAny _ _ (call (Value.ref 21) [Value.int _ _, Value.int _ _]) _ _ _); k_dflt (refine' t_sqrt _ _ _ _ _ _ _ _ _ _ _ _ _ _ _ _ _ _ _ _ _ _ _ _ _ _ ?k1 ?k2 ?k3 ?k4 ?k5 ?kK ?kp ?kd ?ku ?_; (case k1 => k_asm); (case k2 => k_asm); (case k3 => k_asm); (case k4 => k_asm); (case k5 => k_asm); (case kK => first | exact rfl | assumption); (case kp => first | exact ⟨by assumption, by assumption, by omega, by assumption⟩ | k_extra "pre"); (case kd => ktr_room); (case ku => ktr_units)); intro t9 h9 tk9 F9 N9; (try dsimp only); (try k_fold)))
local macro_rules | `(tactic| mul_fits) => `(tactic| exact mul_300 (by assumption) (by assumption))
local macro_rules | `(tactic| walk_at "binaryOp LShift int int") => `(tactic| (k_here; (with_reducible refine lshift_int ?kb1 ?kb2 ?_); (case kb1 => omega); (case kb2 => first | exact shl_abs (by assumption) (by omega) | exact shl_300 (by assumption) (by omega) | exact shl_600 (by assumption) (by assumption) (by omega) | exact shl_300 (intBits_natAbs_le (by assumption)) (by omega))))
local macro_rules | `(tactic| walk_at "binaryOp RShift int int") => `(tactic| (k_here; (with_reducible refine rshift_int ?kb1 ?_); (case kb1 => omega)))
local macro_rules | `(tactic| walk_at "call type:str") => `(tactic| (k_here; (with_reducible show wpAny _ _ (call (Value.type "str") [Value.int _ _]) _ _ _); (refine P.str_of_int ?ks1 ?_); (case ks1 => assumption)))
local macro_rules | `(tactic| walk_at "call builtin:len") => `(tactic| (k_here; (with_reducible show wpAny _ _ (call (Value.builtin "len") [Value.str _ _]) _ _ _); (refine SBL.len ?ks1 ?_); (case ks1 => (have h9 := int_text_len_1921 (by assumption); omega))))
set_option maxRecDepth 100000 in
set_option maxHeartbeats 8000000 in
theorem t_ilog (w : World) (mean) (mg mb) (x M : Int) (ta tb : Tok) : Tell 2 w mean mg mb 43 (ilPre x M) [.int x ta, .int M tb] (fun t => .int (ilogN x M) t) := by
  unfold Tell; k_fill
  intro news dp un gd cn cs aa ccd cl outer A₀ base h₀ L m s Q E B F X N T hk hpre hd hu hret
  have hM0 := hpre.M0
  have hMB := hpre.MBig
  have hMb := hpre.Mbits
  have hMl := log2_M hpre
  have hT1 : 0 < -(-10 * ((Str.ofString (toString M)).length : Int)).fdiv (3 * 8) := (ilTT_pos hpre).1
  have hT2 : -(-10 * ((Str.ofString (toString M)).length : Int)).fdiv (3 * 8) ≤ 1000 := (ilTT_pos hpre).2
  have hBig := big_ge
  refine wpAny_call ?_
  k_dflt (refine' code_def ?k1 ?k2 ?k3 ?k4 ?k5 ?kA ?kF ?kK ?k6 ?k7 ?k8 ?k9 ?kB ?_ ?c2 ?c3 ?c4 ?c5; (case kA => exact rfl); (case kF => exact rfl); (case kK => assumption); (case k1 => k_asm); (case k2 => k_asm); (case k3 => k_asm); (case k4 => k_asm); (case k5 => k_asm); (case k6 => k_is); (case k7 => k_is); (case k8 => ktr_room); (case k9 => (refine' kp_binds ?kx ?ke; (case kx => k_in); (case ke => exact fun _ => rfl))); (case c5 => decide); (case kB => exact locs rfl); (case c2 => exact rfl); (case c3 => exact rfl); (case c4 => exact rfl); k_whole; intro g' L' h' FG' F' N' B' X' T'; (try dsimp only); (try k_lift B'); (try k_fold))
  k_with_none
  k_with "exec While BoolOp cons nil" => k_while (fun _ y R => ilF x M y R ∧ (0 ≤ R ∧ R ≤ 25) ∧ intBits y ≤ 300 ∧ (0 < M * (M + rshN y R) ∧ M * (M + rshN y R) ≤ Big) ∧ (0 < M + sqrtN (M * (M + rshN y R)) ∧ M + sqrtN (M * (M + rshN y R)) ≤ Big) ∧ intBits (M + rshN y R) ≤ 300 ∧ intBits (rshN y R) ≤ 300) (fun _ y R => (30 - R).toNat) "y" "R"
  k_with "pyIter ref" => k_state_given ["yshift", "T"] (fun ys T pre w => w = pre.foldl (horn M ys) (divN M T) ∧ (-(2 * M) ≤ w ∧ w ≤ 2 * M) ∧ intBits w ≤ 300) "w"
  k_with "state" => (first | exact ((ilJL.start hpre).full hpre).conj | (rename (ilF _ _ _ _) => hI; first | (have t9 := ilT_t1 hI (by omega) (by assumption); exact ((hI.jl.next hpre t9).full hpre).conj) | (have t9 := ilT_t2 hI (by omega) (by assumption); exact ((hI.jl.next hpre t9).full hpre).conj) | exact horn_start hpre hT1 _ | (have t9 := ilT_f1 hI (by omega) (by assumption); exact horn_state hpre rfl hI t9 (by omega) ⟨by assumption, ⟨by assumption, by assumption⟩, by assumption⟩) | (have t9 := ilT_f2 hI (by omega) (by assumption); exact horn_state hpre rfl hI t9 (by omega) ⟨by assumption, ⟨by assumption, by assumption⟩, by assumption⟩)))
  k_with "tree" => (rename (ilF _ _ _ _) => hI; first | (have t9 := ilT_f1 hI (by omega) (by assumption); exact ilog_end hI t9 (by assumption)) | (have t9 := ilT_f2 hI (by omega) (by assumption); exact ilog_end hI t9 (by assumption)))
  k_steps
  all_goals cb_end hret

local macro_rules | `(tactic| walk_at "call type:int") => `(tactic| (k_here; (with_reducible show wpAny _ _ (call (Value.type "int") [Value.str (Txt.slice _ none (some (_ + 1))) _]) _ _ _); (refine KIN.call_text (And.left (dig_text ?kd1 ?kd2)) (And.right (dig_text ?kd3 ?kd4)) ?_); (case kd1 => omega); (case kd2 => omega); (case kd3 => omega); (case kd4 => omega)))
set_option maxRecDepth 100000 in
set_option maxHeartbeats 8000000 in
theorem t_dig (w : World) (mean) (mg mb) (p : Int) (tp : Tok) : Tell 2 w mean mg mb 82 (0 ≤ p ∧ p ≤ 46) [.int p tp] (fun t => .int (log10D p) t) := by
  unfold Tell; k_fill
  intro news dp un gd cn cs aa ccd cl outer A₀ base h₀ L m s Q E B F X N T hk hpre hd hu hret
  obtain ⟨hp0, hp1⟩ := hpre
  k_with_none
  refine wpAny_call ?_
  k_dflt (refine' method_call ?ho ?_; (case ho => (refine (Frag.In.keeps X F.keep) _ _ ?_; k_is)))
  k_dflt cell_enter
  k_steps
  all_goals cb_end hret

theorem callWith_MK {M : Model} {A : Around} {E : Value → Shared → Prop} {s : Shared} {K : Frag} {env : Env} {pos : Pos} {first : List Value} {Q : Value → Shared → Prop} {h₀ : Heap} {q g : Addr} {self : Value} {e : Expr} {rest : List Expr} (_X : K.In h₀) (hl : K.lookup q = some (methodObj (.ref g) self)) (hf : fnIn K g = true)
    (h : wpAny M A (spliced (backTo pos (starEach (e :: rest) env))) (fun vs s₁ => K.In s₁.heap ∧ wpAny M A (call (.ref q) (first ++ vs)) Q E s₁) E s)
    (he : starEach (e :: rest) env = (false, eval e env) :: starEach rest env := by rfl) (hplain : (backTo pos (starEach rest env)).any (·.1) = false := by rfl) :
    wpAny M A (callWith pos (.ref q) first (backTo pos (starEach (e :: rest) env)) []) Q E s := by
  rw [he] at h ⊢
  exact callWith_of (by show ((false || (backTo pos (starEach rest env)).any (·.1)) || false) = false; rw [hplain]; rfl) (fun h X => keeps_M hf h ⟨X _ _ hl, X⟩) (PySem.Calls.evalArgs_plain h)
local macro_rules | `(tactic| walk_at "callWith ref") => `(tactic| (k_here; (with_reducible show wpAny _ _ (callWith _ (Value.ref 82) _ _ _) _ _ _); k_dflt (refine' callWith_MK ?k1 ?k2 ?k3 ?_; (case k1 => k_asm); (case k2 => k_is); (case k3 => k_is); k_whole)))
local macro_rules | `(tactic| walk_at "call ref") => `(tactic| (k_here; (with_reducible show wpAny _ _ (call (Value.ref 35) [Value.int _ _, Value.int _ _]) _ _ _); k_dflt (refine' t_div _ _ _ _ _ _ _ _ _ _ _ _ _ _ _ _ _ _ _ _ _ _ _ _ _ _ ?k1 ?k2 ?k3 ?k4 ?k5 ?kK ?kp ?kd ?ku ?_; (case k1 => k_asm); (case k2 => k_asm); (case k3 => k_asm); (case k4 => k_asm); (case k5 => k_asm); (case kK => first | exact rfl | assumption); (case kp => first | exact ⟨by assumption, by assumption⟩ | exact ⟨by omega, by omega⟩ | k_extra "pre"); (case kd => ktr_room); (case ku => ktr_units)); intro t9 h9 tk9 F9 N9; (try dsimp only); (try k_fold)))
local macro_rules | `(tactic| walk_at "call ref") => `(tactic| (k_here; (with_reducible show wpAny _ _ (call (Value.ref 43) [Value.int _ _, Value.int _ _]) _ _ _); k_dflt (refine' t_ilog _ _ _ _ _ _ _ _ _ _ _ _ _ _ _ _ _ _ _ _ _ _ _ _ _ _ ?k1 ?k2 ?k3 ?k4 ?k5 ?kK ?kp ?kd ?ku ?_; (case k1 => k_asm); (case k2 => k_asm); (case k3 => k_asm); (case k4 => k_asm); (case k5 => k_asm); (case kK => first | exact rfl | assumption); (case kp => first | assumption | k_extra "pre"); (case kd => ktr_room); (case ku => ktr_units)); intro t9 h9 tk9 F9 N9; (try dsimp only); (try k_fold)))
local macro_rules | `(tactic| walk_at "call ref") => `(tactic| (k_here; (with_reducible show wpAny _ _ (call (Value.ref 82) [Value.int _ _]) _ _ _); k_dflt (refine' t_dig _ _ _ _ _ _ _ _ _ _ _ _ _ _ _ _ _ _ _ _ _ _ _ _ ?k1 ?k2 ?k3 ?k4 ?k5 ?kK ?kp ?kd ?ku ?_; (case k1 => k_asm); (case k2 => k_asm); (case k3 => k_asm); (case k4 => k_asm); (case k5 => k_asm); (case kK => first | exact rfl | assumption); (case kp => exact ⟨by omega, by omega⟩); (case kd => ktr_room); (case ku => ktr_units)); intro t9 h9 tk9 F9 N9; (try dsimp only); (try k_fold)))
local macro_rules | `(tactic| mul_fits) => `(tactic| k_extra "mul")
local macro_rules | `(tactic| walk_at "binaryOp Pow int int") => `(tactic| (k_here; (with_reducible refine pow_int_small ?kb1 ?kb2 ?kb3 ?_); (case kb1 => k_extra "pow0"); (case kb2 => k_extra "pow1"); (case kb3 => decide)))
local macro_rules | `(tactic| walk_at "call type:str") => `(tactic| (k_here; (with_reducible show wpAny _ _ (call (Value.type "str") [Value.int _ _]) _ _ _); (refine P.str_of_int ?ks1 ?_); (case ks1 => assumption)))
local macro_rules | `(tactic| walk_at "call builtin:len") => `(tactic| (k_here; (with_reducible show wpAny _ _ (call (Value.builtin "len") [Value.str _ _]) _ _ _); (refine SBL.len ?ks1 ?_); (case ks1 => (have h9 := int_text_len_1921 (by assumption); omega))))
set_option maxRecDepth 100000 in
set_option maxHeartbeats 8000000 in
theorem t_dl10 (w : World) (mean) (mg mb) (c e p : Int) (tc te tp : Tok) : Tell 3 w mean mg mb 50 (0 < c ∧ c.natAbs.log2 < 1920 ∧ intBits e ≤ 4000000 ∧ 0 ≤ p ∧ p ≤ 44) [.int c tc, .int e te, .int p tp] (fun t => .int (dlog10N c e p) t) := by
  unfold Tell; k_fill
  intro news dp un gd cn cs aa ccd cl outer A₀ base h₀ L m s Q E B F X N T hk hpre hd hu hret
  obtain ⟨hc0, hcl, heb, hp0, hp1⟩ := hpre
  have hl1 : ndig c ≤ 1921 := by
    have := int_text_len_1921 hcl
    unfold ndig; omega
  have hkb := dl_kbound (e := e) (q := p + 2) hc0 hl1 (by omega) (by omega)
  have hBig := big_ge
  have hcb : intBits c ≤ 5000000 := bits_log2 hcl
  have hkk : (e + (p + 2) - (e + ((Str.ofString (toString c)).length : Int) - if decide (1 ≤ e + ((Str.ofString (toString c)).length : Int)) = true then 1 else 0)) = dl_k c e (p + 2) := rfl
  have hff : (e + ((Str.ofString (toString c)).length : Int) - if decide (1 ≤ e + ((Str.ofString (toString c)).length : Int)) = true then 1 else 0) = dl_f c e := rfl
  refine wpAny_call ?_
  k_dflt cell_enter
  k_with_none
  k_with "pow0" => (first | omega | assumption | exact neg_nonneg_of (by assumption))
  k_with "pow1" => (first | omega | (rw [hkk]; exact Int.le_trans hkb.1 (by decide)) | (rw [hkk]; exact neg_le_of hkb.2))
  k_with "mul" => (first | (rw [hkk]; exact mul_ten hcb (toNat_le_of hkb.1)) | exact mul_ten (ilog_bits1 hc0 (by omega) (by omega) hkk (by assumption)) (by omega) | exact mul_ten (ilog_bits2 hc0 (by omega) (by omega) hkk (by assumption)) (by omega) | (rw [hff]; exact mul_ten (dl_fbits heb hl1 hc0) (by omega)))
  k_with "pre" => (first | (rw [hkk]; exact ⟨ten_pos _, ten_big (toNat_neg_of hkb.2)⟩) | exact log10D_pos (by omega) (by omega) | (rw [hkk]; exact dl_pre1 hc0 (by omega) (by omega) (by rw [← hkk]; assumption)) | (rw [hkk]; exact dl_pre2 hc0 (by omega) (by omega) (by rw [← hkk]; assumption)))
  k_with "tree" => (rw [hkk, hff]; first | exact dl_val1 (by omega) (by rw [← hkk]; assumption) | exact dl_val2 (by omega) (by rw [← hkk]; assumption))
  k_steps
  all_goals cb_end hret

local macro_rules | `(tactic| walk_at "call type:str") => `(tactic| (k_here; (with_reducible show wpAny _ _ (call (Value.type "str") [Value.int _ _]) _ _ _); (refine P.str_of_int ?ks1 ?_); (case ks1 => assumption)))
local macro_rules | `(tactic| walk_at "call builtin:len") => `(tactic| (k_here; (with_reducible show wpAny _ _ (call (Value.builtin "len") [Value.str _ _]) _ _ _); (refine SBL.len ?ks1 ?_); (case ks1 => (have h9 := int_text_len_1921 (by assumption); omega))))
theorem head_digits : ∀ (k n d : Nat), 1 ≤ d → d ≤ 9 → d * 10 ^ k ≤ n → n < (d + 1) * 10 ^ k → (Nat.toDigits 10 n)[0]? = some d.digitChar
  | 0, n, d, h1, h2, h3, h4 => by
    have e : n = d := by simp at h3 h4; omega
    subst e
    rw [Nat.toDigits_of_lt_base (by omega)]; rfl
  | k + 1, n, d, h1, h2, h3, h4 => by
    have p : 0 < 10 ^ k := Nat.pow_pos (by omega)
    rw [Nat.pow_succ] at h3 h4
    have e1 : d * (10 ^ k * 10) = d * 10 ^ k * 10 := by grind
    have e2 : (d + 1) * (10 ^ k * 10) = (d + 1) * 10 ^ k * 10 := by grind
    rw [e1] at h3; rw [e2] at h4
    have h5 : 1 * 10 ^ k ≤ d * 10 ^ k := Nat.mul_le_mul_right _ h1
    have ih := head_digits k (n / 10) d h1 h2 (by omega) (by omega)
    rw [Nat.toDigits_of_base_le (by omega) (by omega)]
    rw [List.getElem?_append_left]
    · exact ih
    · have hne := Nat.toDigits_ne_nil (b := 10) (n := n / 10)
      exact List.length_pos_iff.mpr hne
theorem item0 {c d more : Int} (h : D6 c d more) : Txt.item (Str.ofString (toString c)) 0 = ⟨#[d.toNat.digitChar.toNat]⟩ := by
  have h0 := h.pos
  have m0 := h.m0; have d1 := h.d1; have d2 := h.d2
  have lo := h.lo; have hi := h.hi
  obtain ⟨n, rfl⟩ := Int.eq_ofNat_of_zero_le (Int.le_of_lt h0)
  obtain ⟨a, rfl⟩ := Int.eq_ofNat_of_zero_le (a := d) (by omega)
  have lo' : a * 10 ^ more.toNat ≤ n := by exact_mod_cast lo
  have hi' : n < (a + 1) * 10 ^ more.toNat := by exact_mod_cast hi
  have hd := head_digits more.toNat n a (by omega) (by omega) lo' hi'
  have ht := text_ofNat n
  have hlen : 0 < (Nat.toDigits 10 n).length := List.length_pos_iff.mpr Nat.toDigits_ne_nil
  show Txt.item (Str.ofString (toString (Int.ofNat n))) 0 = _
  rw [ht]
  unfold Txt.item Txt.charAt seqIndex?
  have e : ((⟨(List.map Char.toNat (Nat.toDigits 10 n)).toArray⟩ : Str)).length = (Nat.toDigits 10 n).length := by simp [Str.length]
  rw [e]
  have hd' : (Nat.toDigits 10 n)[0] = a.digitChar := by
    rw [List.getElem?_eq_getElem hlen] at hd
    exact Option.some.inj hd
  simp [hlen, hd']
theorem item_1 {c more : Int} (h : D6 c 1 more) : Txt.item (Str.ofString (toString c)) 0 = Str.ofString "1" := (item0 h).trans (by decide)
theorem item_2 {c more : Int} (h : D6 c 2 more) : Txt.item (Str.ofString (toString c)) 0 = Str.ofString "2" := (item0 h).trans (by decide)
theorem item_3 {c more : Int} (h : D6 c 3 more) : Txt.item (Str.ofString (toString c)) 0 = Str.ofString "3" := (item0 h).trans (by decide)
theorem item_4 {c more : Int} (h : D6 c 4 more) : Txt.item (Str.ofString (toString c)) 0 = Str.ofString "4" := (item0 h).trans (by decide)
theorem item_5 {c more : Int} (h : D6 c 5 more) : Txt.item (Str.ofString (toString c)) 0 = Str.ofString "5" := (item0 h).trans (by decide)
theorem item_6 {c more : Int} (h : D6 c 6 more) : Txt.item (Str.ofString (toString c)) 0 = Str.ofString "6" := (item0 h).trans (by decide)
theorem item_7 {c more : Int} (h : D6 c 7 more) : Txt.item (Str.ofString (toString c)) 0 = Str.ofString "7" := (item0 h).trans (by decide)
theorem item_8 {c more : Int} (h : D6 c 8 more) : Txt.item (Str.ofString (toString c)) 0 = Str.ofString "8" := (item0 h).trans (by decide)
theorem item_9 {c more : Int} (h : D6 c 9 more) : Txt.item (Str.ofString (toString c)) 0 = Str.ofString "9" := (item0 h).trans (by decide)
theorem len1 {c d more : Int} (h : D6 c d more) : ((Str.ofString (toString c)).length : Int) = more + 1 := h.dig
theorem cor_cases {d : Int} (h1 : 1 ≤ d) (h2 : d ≤ 9) : d = 1 ∨ d = 2 ∨ d = 3 ∨ d = 4 ∨ d = 5 ∨ d = 6 ∨ d = 7 ∨ d = 8 ∨ d = 9 := by omega
local macro_rules | `(tactic| walk_at "subscriptTail Name Constant str int") => `(tactic| (k_here; k_dflt (refine item_str (by decide) ?kb1 ?kb2 ?_; (case kb1 => (rename (D6 _ _ _) => hD9; (have h9 := len1 hD9); (have h8 := hD9.m0); omega)); (case kb2 => (rename (D6 _ _ _) => hD9; (have h9 := len1 hD9); (have h8 := hD9.m0); omega))); intro _; (rename (Txt.item _ _ = _) => hI9; rw [hI9])))
def lead (c : Int) : Int := c / 10 ^ (ndig c - 1).toNat
theorem lead_of {c d more : Int} (h : D6 c d more) : lead c = d := by
  have p := ten_pos more.toNat
  have e : (ndig c - 1).toNat = more.toNat := by rw [h.dig]; omega
  unfold Mine.lead
  rw [e]
  have lo := h.lo; have hi := h.hi
  refine Int.le_antisymm ?_ ?_
  · have := Int.ediv_lt_of_lt_mul p hi
    omega
  · exact Int.le_ediv_of_mul_le p lo
theorem d6_of {c : Int} (h : 0 < c) : D6 c (lead c) (ndig c - 1) := by
  obtain ⟨n1, n2, n3⟩ := ndig_range h
  have p := ten_pos (ndig c - 1).toNat
  have e : (ndig c).toNat = (ndig c - 1).toNat + 1 := by omega
  rw [e, Int.pow_succ] at n3
  unfold lead
  have hm := Int.mul_ediv_add_emod c (10 ^ (ndig c - 1).toNat)
  have h1 := Int.emod_nonneg c (b := 10 ^ (ndig c - 1).toNat) (by omega)
  have h2 := Int.emod_lt_of_pos c p
  refine ⟨by omega, Int.le_ediv_of_mul_le p (by omega), ?_, ?_, ?_⟩
  · have := Int.ediv_lt_of_lt_mul p (b := 10) (a := c) (by omega)
    omega
  · rw [Int.mul_comm]; omega
  · have e2 : (c / 10 ^ (ndig c - 1).toNat + 1) * 10 ^ (ndig c - 1).toNat = 10 ^ (ndig c - 1).toNat * (c / 10 ^ (ndig c - 1).toNat) + 10 ^ (ndig c - 1).toNat := by grind
    rw [e2]; omega
set_option maxRecDepth 100000 in
set_option maxHeartbeats 8000000 in
theorem t_lb (w : World) (mean) (mg mb) (c : Int) (tc : Tok) : Tell 1 w mean mg mb 91 (0 < c ∧ c.natAbs.log2 < 1920) [.int c tc] (fun t => .int (100 * ndig c - cor6 (lead c)) t) := by
  unfold Tell; k_fill
  intro news dp un gd cn cs aa ccd cl outer A₀ base h₀ L m s Q E B F X N T hk hpre hd hu hret
  obtain ⟨hc0, hcl⟩ := hpre
  have hD := d6_of hc0
  have hl1 : ndig c ≤ 1921 := by
    have := int_text_len_1921 hcl
    unfold ndig; omega
  refine wpAny_call ?_
  k_dflt (refine' code_def ?k1 ?k2 ?k3 ?k4 ?k5 ?kA ?kF ?kK ?k6 ?k7 ?k8 ?k9 ?kB ?_ ?c2 ?c3 ?c4 ?c5; (case kA => exact rfl); (case kF => exact rfl); (case kK => assumption); (case k1 => k_asm); (case k2 => k_asm); (case k3 => k_asm); (case k4 => k_asm); (case k5 => k_asm); (case k6 => k_is); (case k7 => k_is); (case k8 => ktr_room); (case k9 => (refine' kp_binds ?kx ?ke; (case kx => k_in); (case ke => exact fun _ => rfl))); (case c5 => decide); (case kB => exact locs rfl); (case c2 => exact rfl); (case c3 => exact rfl); (case c4 => exact rfl); k_whole; intro g' L' h' FG' F' N' B' X' T'; (try dsimp only); (try k_lift B'); (try k_fold))
  k_with_none
  generalize lead c = d at *
  have en : ndig c = ((Str.ofString (toString c)).length : Int) := rfl
  rcases cor_cases hD.d1 hD.d2 with rfl | rfl | rfl | rfl | rfl | rfl | rfl | rfl | rfl
  · have hItem := item_1 hD
    k_steps
    all_goals cb_end hret
  · have hItem := item_2 hD
    k_steps
    all_goals cb_end hret
  · have hItem := item_3 hD
    k_steps
    all_goals cb_end hret
  · have hItem := item_4 hD
    k_steps
    all_goals cb_end hret
  · have hItem := item_5 hD
    k_steps
    all_goals cb_end hret
  · have hItem := item_6 hD
    k_steps
    all_goals cb_end hret
  · have hItem := item_7 hD
    k_steps
    all_goals cb_end hret
  · have hItem := item_8 hD
    k_steps
    all_goals cb_end hret
  · have hItem := item_9 hD
    k_steps
    all_goals cb_end hret

local macro_rules | `(tactic| walk_at "call ref") => `(tactic| (k_here; (with_reducible show wpAny _ _ (call (Value.ref 50) [Value.int _ _, Value.int _ _, Value.int _ _]) _ _ _); k_dflt (refine' t_dl10 _ _ _ _ _ _ _ _ _ _ _ _ _ _ _ _ _ _ _ _ _ _ _ _ _ _ _ _ ?k1 ?k2 ?k3 ?k4 ?k5 ?kK ?kp ?kd ?ku ?_; (case k1 => k_asm); (case k2 => k_asm); (case k3 => k_asm); (case k4 => k_asm); (case k5 => k_asm); (case kK => first | exact rfl | assumption); (case kp => k_extra "pre"); (case kd => ktr_room); (case ku => ktr_units)); intro t9 h9 tk9 F9 N9; (try dsimp only); (try k_fold)))
local macro_rules | `(tactic| walk_at "call ref") => `(tactic| (k_here; (with_reducible show wpAny _ _ (call (Value.ref 91) [Value.int _ _]) _ _ _); k_dflt (refine' t_lb _ _ _ _ _ _ _ _ _ _ _ _ _ _ _ _ _ _ _ _ _ _ _ _ ?k1 ?k2 ?k3 ?k4 ?k5 ?kK ?kp ?kd ?ku ?_; (case k1 => k_asm); (case k2 => k_asm); (case k3 => k_asm); (case k4 => k_asm); (case k5 => k_asm); (case kK => first | exact rfl | assumption); (case kp => k_extra "pre"); (case kd => ktr_room); (case ku => ktr_units)); intro t9 h9 tk9 F9 N9; (try dsimp only); (try k_fold)))
theorem ne_same {prog : Program} {w : World} {A : Around} {E : Value → Shared → Prop} {s : Shared} {a b : Int} {t u : Tok} {Q : Value → Shared → Prop} (h : a = b) (hq : Q (.bool false) s) : wpAny (model prog w) A (compareOp .NotEq (.int a t) (.int b u)) Q E s :=
  ne_int (by subst h; have e : (a != a) = false := by simp
             rw [e]; exact hq)
local macro_rules | `(tactic| walk_at "compareOp NotEq int int") => `(tactic| (k_here; (with_reducible show wpAny _ _ (compareOp CmpOp.NotEq (Value.int _ _) (Value.int ((dlog10N _ _ _).fdiv _) _)) _ _ _); k_dflt (refine ne_same ?kne ?_; (case kne => k_extra "same"))))
theorem z_len {vs : List Value} {ns : List Int} (hi : IntsAre vs ns) (hn : ¬ (63 : Int) < ns.length) : vs.toArray.size ≤ sizeLine := kmk_sz hi (by rw [sizeLine_eq]; omega)
theorem z_len3 {vs : List Value} {ns : List Int} {k : Nat} {ds : List Int} (hi : IntsAre vs (ns ++ ds.drop k)) (hn : ¬ (63 : Int) < ns.length) (hd : ds.length ≤ 100) : vs.toArray.size ≤ sizeLine := kmk_sz hi (by
  rw [sizeLine_eq, List.length_append, List.length_drop]; omega)
local macro_rules | `(tactic| walk_at "binaryOp Pow int int") => `(tactic| (k_here; (with_reducible refine pow_int_small ?kb1 ?kb2 ?kb3 ?_); (case kb1 => omega); (case kb2 => omega); (case kb3 => decide)))
local macro_rules | `(tactic| mul_fits) => `(tactic| k_extra "mul")
local macro_rules | `(tactic| walk_at "subscriptTail") => `(tactic| (k_here; (fail_if_success (with_reducible show wpAny _ _ (subscriptTail (PySem.Expr.Name _ _) _ _ _) _ _ _)); (with_reducible show wpAny _ _ (subscriptTail _ (PySem.Expr.Slice _ _ none _) (Value.ref _) (Value.ref _)) _ _ _); k_dflt (refine kba_turn (value' := PySem.Expr.Name (PySem.Str.ofString "_") ⟨0, 0, 0, 0⟩) (fun _ => rfl) ?_)))
local macro_rules | `(tactic| walk_at "execs cons") => `(tactic| (k_here; dsimp only))
local macro_rules | `(tactic| walk_at "execs nil") => `(tactic| (k_here; dsimp only))
local macro_rules | `(tactic| walk_at "UnrEndW") => `(tactic| (k_here; (fail_if_success plain_pass); k_dflt (walk_at "UnrEndW")))
local macro_rules | `(tactic| walk_at "eval Slice") => `(tactic| (k_here; dsimp only))
local macro_rules | `(tactic| walk_at "binaryOp Add ref ref") => `(tactic| (k_here; dsimp only))
local macro_rules | `(tactic| walk_at "exec Assign") => `(tactic| (k_here; dsimp only))
local macro_rules | `(tactic| walk_at "storeName") => `(tactic| (k_here; dsimp only))
local macro_rules | `(tactic| walk_at "subscriptTail Name Slice ref ref") => `(tactic| (k_here; (with_reducible show wpAny _ _ (subscriptTail _ (PySem.Expr.Slice _ _ none _) (Value.ref _) (Value.ref _)) _ _ _); k_dflt (refine' kmk_slice_ints ?F ?N ?l ?p ?q ?i ?m ?c ?_ ?s ?t ?z; (case F => k_asm); (case N => k_asm); (case l => kmk_list); (case p => kmk_part); (case q => kmk_part); (case i => l_ints); (case m => first | exact kmk_from (by l_ints) (Int.natCast_nonneg _) | exact kmk_upto (by l_ints) (by decide)); (case c => exact rfl); (case s => with_unfolding_all rfl); (case t => kmk_pure); (case z => first | exact Nat.le_of_ble_eq_true rfl | exact z_len3 (by assumption) (by assumption) (by decide) | exact z_len (by assumption) (by assumption))); intro D' ws' h' F' N' l1 hI' hC' hL'; (clear hC' hL'); (try simp only [Int.reduceToNat] at hI'); (try k_lt l1); (try k_sweep)))
theorem bits_mem {ns : List Int} (hL : (PyData.list (ns.map PyData.int)).layable0 = true) {a : Int} (h : a ∈ ns) : intBits a ≤ 1048576 := intBits_le_of_item h hL
theorem ints_at : ∀ {vs : List Value} {ms : List Int} {i : Nat}, IntsAre vs ms → i < vs.length → ∃ n t, vs[i]? = some (.int n t) ∧ n ∈ ms
  | _, _, i, .nil, h => by simp at h
  | _, _, 0, .cons n t r, h => ⟨n, t, rfl, by simp⟩
  | _, _, i + 1, .cons n t r, h => by
    obtain ⟨m, u, e, hm⟩ := ints_at r (i := i) (by simpa using h)
    exact ⟨m, u, by simpa using e, by simp [hm]⟩
theorem row_len {vs : List Value} {ns : List Int} (hI : IntsAre vs (List.take 24 ns ++ [1, 0, 29, -7, 188])) : ∃ n : Nat, vs.toArray.size = n ∧ 5 ≤ n ∧ n ≤ 29 := by
  refine ⟨_, rfl, ?_, ?_⟩ <;> rw [List.size_toArray, hI.length, List.length_append, List.length_take] <;> (simp <;> omega)
theorem row_at {vs : List Value} {ns : List Int} (hL : (PyData.list (ns.map PyData.int)).layable0 = true) (hI : IntsAre vs (List.take 24 ns ++ [1, 0, 29, -7, 188])) {n : Nat} (hn : vs.toArray.size = n) {k : Int} (h0 : 0 ≤ k) (h1 : k < n) : ∃ m t, vs[k.toNat]? = some (.int m t) ∧ intBits m ≤ 1048576 := by
  rw [List.size_toArray] at hn
  obtain ⟨m, t, e, hm⟩ := ints_at hI (i := k.toNat) (by omega)
  refine ⟨m, t, e, ?_⟩
  rcases List.mem_append.mp hm with hm | hm
  · exact bits_mem hL (List.mem_of_mem_take hm)
  · have : ∀ z ∈ ([1, 0, 29, -7, 188] : List Int), intBits z ≤ 1048576 := by decide
    exact this m hm
theorem my_item {prog : Program} {w : World} {A : Around} {E : Value → Shared → Prop} {s : Shared} {h₀ : Heap} {L : Addr} {news : List (Addr × Obj)} {value slice : PySem.Expr} {l : Addr} {vs : List Value} {c : Nat} {k : Int} {u : Tok} {v : Value} {Q : Value → Shared → Prop}
    (N : News h₀ L s.heap news) (hm : (l, listOf vs.toArray c) ∈ news) (h0 : 0 ≤ k) (hhi : k < 2 ^ 63) (hx : vs[k.toNat]? = some v) (h : Q v s)
    (hs : subscripted slice false (.ref l) (.int k u) = operate [.ref l, .int k u] (getItem (.ref l) (.int k u)) := by with_unfolding_all rfl) :
    wpAny (model prog w) A (subscriptTail value slice (.ref l) (.int k u)) Q E s :=
  tail_any (News.isList N hm).typeIs slot_list_getitem.lookup (wpAny_getItem_list (News.isList N hm) h0 hhi (by simpa using hx) h) hs
local macro_rules | `(tactic| walk_at "call builtin:len") => `(tactic| (k_here; (with_reducible show wpAny _ _ (call (Value.builtin "len") [Value.ref _]) _ _ _); (with_reducible rename IntsAre _ (List.take _ _ ++ _) => hI9); (have q9 := row_len hI9); (obtain ⟨n9, hn9, hn5, hn29⟩ := q9); (refine KM.len_K (by k_asm) (by k_dflt k_mem) hn9 (by omega) ?_)))
local macro_rules | `(tactic| walk_at "exec For Name Call cons nil") => `(tactic| (k_here; (rename Fr _ _ _ _ => lF'); (with_unfolding_all refine' For_invVF lF' ?k1 ?k2 ?_; (case k1 => exact rfl); (case k2 => exact rfl); k_whole)))
theorem gt_no {prog : Program} {w : World} {A : Around} {E : Value → Shared → Prop} {s : Shared} {a b : Int} {t u : Tok} {Q : Value → Shared → Prop} (h : a ≤ b) (hq : Q (.bool false) s) : wpAny (model prog w) A (compareOp .Gt (.int a t) (.int b u)) Q E s :=
  gt_int (by have e : decide (a > b) = false := decide_eq_false (by omega)
             first | (rw [e]; exact hq) | (simp only [e]; exact hq) | simpa [e] using hq)
local macro_rules | `(tactic| walk_at "compareOp Gt int int") => `(tactic| (k_here; (with_reducible show wpAny _ _ (compareOp CmpOp.Gt (Value.int _ _) (Value.int (dlog10N _ _ _) _)) _ _ _); k_dflt (refine gt_no ?kne ?_; (case kne => k_extra "gt"))))
theorem range6 {n : Nat} (h1 : 5 ≤ n) (h2 : n ≤ 29) : ∃ k : Nat, Builtin.Range.small 0 ((n : Int) - 1) 2 = true ∧ Builtin.Range.rangeSize 0 ((n : Int) - 1) 2 = (k : Int) ∧ 2 * k ≤ n := by
  have h : ∀ n : Fin 30, 5 ≤ n.val → Builtin.Range.small 0 ((n.val : Int) - 1) 2 = true ∧ Builtin.Range.rangeSize 0 ((n.val : Int) - 1) 2 = ((n.val / 2 : Nat) : Int) := by decide +kernel
  exact ⟨n / 2, (h ⟨n, by omega⟩ h1).1, (h ⟨n, by omega⟩ h1).2, by omega⟩
theorem d6_facts {x : Int} : (0 ≤ x.fmod 9 ∧ x.fmod 9 < 9) ∧ 0 ≤ (x.fdiv 9).fmod 30 ∧ (x.fdiv 9).fmod 30 < 30 := ⟨⟨fmod_lo _ (by decide), fmod_hi _ (by decide)⟩, fmod_lo _ (by decide), fmod_hi _ (by decide)⟩
theorem d6_a {d m : Int} (h1 : 0 ≤ d) (h2 : d < 9) (h3 : 0 ≤ m) : D6 ((1 + d) * 10 ^ m.toNat) (1 + d) m := by
  have p := ten_pos m.toNat
  exact ⟨h3, by omega, by omega, by omega, Int.mul_lt_mul_of_pos_right (by omega) p⟩
theorem d6_r {d m r : Int} (h1 : 0 ≤ d) (h2 : d < 9) (h3 : 0 ≤ m) (h4 : 0 ≤ r) (h5 : r < 10 ^ m.toNat) : D6 ((1 + d) * 10 ^ m.toNat + r) (1 + d) m := by
  have e : (1 + d + 1) * (10 : Int) ^ m.toNat = (1 + d) * 10 ^ m.toNat + 10 ^ m.toNat := by grind
  exact ⟨h3, by omega, by omega, by omega, by omega⟩
theorem d6_b {d m : Int} (h1 : 0 ≤ d) (h2 : d < 9) (h3 : 0 ≤ m) : D6 ((1 + d) * 10 ^ m.toNat + 10 ^ m.toNat - 1) (1 + d) m := by
  have p := ten_pos m.toNat
  have := d6_r (r := 10 ^ m.toNat - 1) h1 h2 h3 (by omega) (by omega)
  have e : (1 + d) * (10 : Int) ^ m.toNat + (10 ^ m.toNat - 1) = (1 + d) * 10 ^ m.toNat + 10 ^ m.toNat - 1 := by omega
  rw [← e]; exact this
theorem d6_c {d m y : Int} (h1 : 0 ≤ d) (h2 : d < 9) (h3 : 0 ≤ m) : D6 ((1 + d) * 10 ^ m.toNat + y.fmod (10 ^ m.toNat)) (1 + d) m := d6_r h1 h2 h3 (fmod_lo _ (ten_pos _)) (fmod_hi _ (ten_pos _))
theorem D6.log {c d m : Int} (h : D6 c d m) (hm : m < 30) : c.natAbs.log2 < 1920 := by
  refine log2_200 h.pos ?_
  have p := ten_pos m.toNat
  have h1 := h.hi
  have h2 : (d + 1) * 10 ^ m.toNat ≤ 10 * 10 ^ m.toNat := Int.mul_le_mul_of_nonneg_right (by have := h.d2; omega) (by omega)
  have h3 : (10 : Int) ^ (m.toNat + 1) ≤ 10 ^ 200 := ten_le (by omega)
  rw [Int.pow_succ] at h3
  generalize (10 : Int) ^ 200 = k at *
  omega
theorem D6.pre {c d m e p : Int} (h : D6 c d m) (hm : m < 30) (he : intBits e ≤ 1048576) (hp0 : 0 ≤ p) (hp1 : p ≤ 44) : 0 < c ∧ c.natAbs.log2 < 1920 ∧ intBits e ≤ 4000000 ∧ 0 ≤ p ∧ p ≤ 44 := ⟨h.pos, h.log hm, by omega, hp0, hp1⟩
theorem mul_e {a e : Int} (h1 : 0 ≤ a) (h2 : a ≤ 1000000) (he : intBits e ≤ 1048576) : IntMulOk a e := IntMulOk.of_le (m := 64) (n := 1048576) (bits_sm (by omega) h2) he (by decide)
local macro_rules | `(tactic| walk_at "pyIter ref") => `(tactic| (k_here; (with_reducible show wpAny _ _ (pyIter (Value.ref _)) (fun it s₂ => LoopAtV _ _ _ _ _ (PySem.Str.ofString "place") _ _ _ it s₂) _ _); (have q9 := range6 (by assumption) (by assumption)); (obtain ⟨k9, hs9, hk9, hk8⟩ := q9); k_dflt (refine' range_each [PySem.Str.ofString "x", PySem.Str.ofString "e", PySem.Str.ofString "more", PySem.Str.ofString "first", PySem.Str.ofString "c", PySem.Str.ofString "lower"] ?hh ?hr ?hs ?hn ?F ?N ?_ ?_; (case hh => exact rfl); (case hr => assumption); (case hs => exact hs9); (case hn => exact hk9); (case F => k_asm); (case N => k_asm)); (all_goals (first | (intro i9 t9 u9 h9 tk9 own9 hi9 F9 N9; (try simp only [List.cons_append, List.nil_append] at N9); (try k_fold)) | ((intro u9 h9 tk9 F9 N9); (fail_if_success (with_reducible intro q9)))))))
theorem d6_A {x : Int} : D6 ((1 + x.fmod 9) * 10 ^ ((x.fdiv 9).fmod 30).toNat) (1 + x.fmod 9) ((x.fdiv 9).fmod 30) := d6_a (fmod_lo _ (by decide)) (fmod_hi _ (by decide)) (fmod_lo _ (by decide))
theorem d6_B {x : Int} : D6 ((1 + x.fmod 9) * 10 ^ ((x.fdiv 9).fmod 30).toNat + 10 ^ ((x.fdiv 9).fmod 30).toNat - 1) (1 + x.fmod 9) ((x.fdiv 9).fmod 30) := d6_b (fmod_lo _ (by decide)) (fmod_hi _ (by decide)) (fmod_lo _ (by decide))
theorem d6_C {x y : Int} : D6 ((1 + x.fmod 9) * 10 ^ ((x.fdiv 9).fmod 30).toNat + y.fmod (10 ^ ((x.fdiv 9).fmod 30).toNat)) (1 + x.fmod 9) ((x.fdiv 9).fmod 30) := d6_c (fmod_lo _ (by decide)) (fmod_hi _ (by decide)) (fmod_lo _ (by decide))
theorem law06_A {c d more e : Int} (h : D6 c d more) : 100 * e + (100 * ndig c - cor6 (lead c)) ≤ dlog10N c e 2 := by
  rw [lead_of h, h.dig]; exact law06_a h
theorem law06_B {c d more e : Int} (h : D6 c d more) (h2 : D6 (d * 10 ^ more.toNat) d more) : 100 * e + (100 * ndig c - cor6 (lead c)) = (dlog10N (d * 10 ^ more.toNat) e 4).fdiv 100 := by
  rw [lead_of h, h.dig]; exact law06_b h2
theorem m30 {y : Int} : y.fmod 30 < 30 := fmod_hi _ (by decide)
theorem e_bits6 {ns : List Int} (hL : (PyData.list (ns.map PyData.int)).layable0 = true) {k : Nat} : intBits ((List.take 24 ns ++ [1, 0, 29, -7, 188]).getD k 0) ≤ 1048576 := by
  rw [List.getD_eq_getElem?_getD]
  cases h : (List.take 24 ns ++ [1, 0, 29, -7, 188])[k]? with
  | none => decide
  | some m =>
    have hm := List.mem_of_getElem? h
    show intBits m ≤ _
    rcases List.mem_append.mp hm with hm | hm
    · exact bits_mem hL (List.mem_of_mem_take hm)
    · have : ∀ z ∈ ([1, 0, 29, -7, 188] : List Int), intBits z ≤ 1048576 := by decide
      exact this m hm
local macro_rules | `(tactic| walk_at "TurnEnd") => `(tactic| ((dsimp only [TurnEnd]); exact ⟨_, _, _, rfl, by k_asm, cb_drop (by k_asm) (by first | exact fun p hp => hp | exact fun p hp => List.mem_cons_of_mem _ hp | kcj_all), by (intro y h1 h2; (simp only [List.contains_cons, List.contains_nil, Bool.or_false, Bool.or_eq_false_iff, beq_eq_false_iff_ne, ne_eq] at h2); (simp [h1, h2]))⟩))
set_option maxRecDepth 100000 in
set_option maxHeartbeats 8000000 in
theorem foo : PySem.Challenge.rw_dm0270_06.Holds := hd (by
  k_go0
  (rename Heap.CodeRec _ _ _ => hX9; clear hX9)
  (rename (Dflts ..) => hX9; clear hX9)
  dsimp only
  (with_reducible change wpAny _ _ _ _ _ _)
  k_fold
  k_with_none
  k_with "mul" => (first | exact mul_e (by decide) (by decide) (e_bits6 (by assumption)) | exact mul_ten (Nat.le_trans (bits_sm (by have := fmod_lo _ (n := 9) (by decide); omega) (by omega)) (by decide)) (by omega))
  k_with "pre" => (first | exact ⟨D6.pos d6_A, D6.log d6_A m30⟩ | exact ⟨D6.pos d6_B, D6.log d6_B m30⟩ | exact ⟨D6.pos d6_C, D6.log d6_C m30⟩ | exact D6.pre d6_A m30 (e_bits6 (by assumption)) (by decide) (by decide) | exact D6.pre d6_B m30 (e_bits6 (by assumption)) (by decide) (by decide) | exact D6.pre d6_C m30 (e_bits6 (by assumption)) (by decide) (by decide))
  k_with "gt" => (first | exact law06_A d6_A | exact law06_A d6_B | exact law06_A d6_C)
  k_with "same" => (first | exact law06_B d6_A d6_A | exact law06_B d6_B d6_A | exact law06_B d6_C d6_A)
  k_steps)

end Mine
theorem PySem.Challenge.cw_dm0270_06_holds : PySem.Challenge.rw_dm0270_06.Holds := by
  exact Mine.foo
