import PyProof.Rows.All
import Wide.All
import OpenK.AllK
import Wide.FinOn
import KE.KMinBuiltin
import PySem.Challenge.RW_dm0270_10
open PySem PySem.W PyProof.Rows PySem.Calls
open PySem.Builtin.Int (intBits)
set_option Elab.async false
set_option linter.unusedVariables false
set_option rowWalk.seconds 0
namespace Mine
set_option maxRecDepth 100000 in
set_option maxHeartbeats 8000000 in
open_top hd for PySem.Challenge.rw_dm0270_10
section
def divN (a b : Int) : Int := a.fdiv b + (if decide (b < 2 * a.fmod b + Builtin.bitAnd (a.fdiv b) 1) = true then 1 else 0)
def rshN (x sh : Int) : Int := x.fdiv (2 ^ sh.toNat) + (if decide (1 * 2 ^ sh.toNat < 2 * Builtin.bitAnd x (1 * 2 ^ sh.toNat - 1) + Builtin.bitAnd (x.fdiv (2 ^ sh.toNat)) 1) = true then 1 else 0)
def isq : Nat → Nat → Nat
  | 0, _ => 0
  | k + 1, n => if n = 0 then 0 else
      let r := 2 * isq k (n / 4)
      if (r + 1) * (r + 1) ≤ n then r + 1 else r
@[irreducible] def sqrtN (n : Int) : Int :=
  let r : Int := isq 10000 n.toNat
  if r * r + r < n then r + 1 else r
def nxt (n a : Int) : Int := (a - (-n).fdiv a).fdiv 2
def IsSq (n s : Int) : Prop := 0 < s ∧ s * s - s < n ∧ n ≤ s * s + s

theorem isq_spec : ∀ (k n : Nat), n < 4 ^ k → isq k n * isq k n ≤ n ∧ n < (isq k n + 1) * (isq k n + 1)
  | 0, n, h => by simp at h; subst h; simp [isq]
  | k + 1, n, h => by
    unfold isq
    split
    · next h0 => subst h0; simp
    · have ih := isq_spec k (n / 4) (by rw [Nat.pow_succ] at h; omega)
      generalize isq k (n / 4) = r at ih
      obtain ⟨h1, h2⟩ := ih
      dsimp only
      have e1 : (2 * r) * (2 * r) = 4 * (r * r) := by grind
      have e2 : (2 * r + 1) * (2 * r + 1) = 4 * (r * r) + 4 * r + 1 := by grind
      have e3 : (2 * r + 1 + 1) * (2 * r + 1 + 1) = 4 * ((r + 1) * (r + 1)) := by grind
      split
      · next h3 => exact ⟨h3, by rw [e3]; omega⟩
      · next h3 => exact ⟨by rw [e1]; omega, by omega⟩

@[irreducible] def Big : Int := 2 ^ 8000
theorem big_toNat {n : Int} (h : n ≤ Big) : n.toNat < 4 ^ 10000 := by
  have h1 : (2 ^ 8000 : Nat) < 4 ^ 10000 := by decide +kernel
  have h2 : n.toNat ≤ 2 ^ 8000 := by
    unfold Big at h
    refine Int.toNat_le.mpr ?_
    have e : ((2 ^ 8000 : Nat) : Int) = (2 : Int) ^ 8000 := Int.natCast_pow 2 8000
    rw [e]; exact h
  exact Nat.lt_of_le_of_lt h2 h1
theorem log2_big {n : Int} (h0 : 0 ≤ n) (h : n ≤ Big) : n.natAbs.log2 < 9000 := by
  by_cases hz : n.natAbs = 0
  · rw [hz]; decide +kernel
  · refine (Nat.log2_lt hz).mpr ?_
    have h1 : (2 ^ 8000 : Nat) < 2 ^ 9000 := by decide +kernel
    refine Nat.lt_of_le_of_lt ?_ h1
    unfold Big at h
    have e : ((2 ^ 8000 : Nat) : Int) = (2 : Int) ^ 8000 := Int.natCast_pow 2 8000
    rw [← e] at h
    generalize (2 ^ 8000 : Nat) = k at h ⊢
    omega
theorem sqrtN_spec {n : Int} (h0 : 0 < n) (h1 : n ≤ Big) : IsSq n (sqrtN n) := by
  have hk := isq_spec 10000 n.toNat (big_toNat h1)
  unfold sqrtN IsSq
  clear h1
  generalize isq 10000 n.toNat = r at hk
  obtain ⟨h2, h3⟩ := hk
  have en : (n.toNat : Int) = n := by omega
  have h2' : (r : Int) * r ≤ n := by rw [← en]; exact_mod_cast h2
  have h3' : n < ((r : Int) + 1) * (r + 1) := by rw [← en]; exact_mod_cast h3
  dsimp only
  have e : ((r : Int) + 1) * (r + 1) = r * r + 2 * r + 1 := by grind
  rw [e] at h3'
  clear h2 h3
  split
  · next h4 =>
    clear en h2' 
    generalize (r : Int) = q at *
    generalize n.toNat = zz at *
    exact ⟨by omega, by grind, by grind⟩
  · next h4 =>
    have hr0 : 0 ≤ (r : Int) := by omega
    generalize (r : Int) = q at *
    have hq : 0 < q := by
      refine Int.not_le.mp fun h => ?_
      have hq : q = 0 := by omega
      subst hq
      omega
    exact ⟨hq, by grind, by grind⟩

theorem ceil_spec {n a : Int} (ha : 0 < a) : n ≤ (-(-n).fdiv a) * a ∧ (-(-n).fdiv a) * a < n + a := by
  have h := Int.mul_fdiv_add_fmod (-n) a
  have h1 := fmod_lo (-n) ha
  have h2 := fmod_hi (-n) ha
  have e : (-(-n).fdiv a) * a = - (a * (-n).fdiv a) := by grind
  rw [e]; omega
theorem fdiv2 (x : Int) : 2 * x.fdiv 2 ≤ x ∧ x < 2 * x.fdiv 2 + 2 := by
  have h := Int.mul_fdiv_add_fmod x 2
  have h1 := fmod_lo x (n := 2) (by omega)
  have h2 := fmod_hi x (n := 2) (by omega)
  omega
theorem nxt_ge {n a s : Int} (ha : 0 < a) (hn : 0 < n) (hs : IsSq n s) : s ≤ nxt n a := by
  obtain ⟨s0, s1, s2⟩ := hs
  unfold nxt
  have hc := ceil_spec (n := n) ha
  have h2 := fdiv2 (a - (-n).fdiv a)
  generalize (-n).fdiv a = d at *
  suffices h : 2 * s ≤ a - d by omega
  refine Int.not_lt.mp fun hlt => ?_
  have hd : 0 < -d := by
    refine Int.not_le.mp fun h => ?_
    have : -d * a ≤ 0 := Int.mul_nonpos_of_nonpos_of_nonneg h (by omega)
    omega
  have h4 : (a - d) * (a - d) ≤ (2 * s - 1) * (2 * s - 1) := Int.mul_le_mul (by omega) (by omega) (by omega) (by omega)
  have h5 : 0 ≤ (a + d) * (a + d) := by
    rcases Int.le_total 0 (a + d) with h | h
    · exact Int.mul_nonneg h h
    · exact Int.mul_nonneg_of_nonpos_of_nonpos h h
  grind
theorem nxt_lt {n a s : Int} (hs : IsSq n s) (h : s < a) : nxt n a < a := by
  obtain ⟨s0, s1, s2⟩ := hs
  unfold nxt
  have ha : 0 < a := by omega
  have hc := ceil_spec (n := n) ha
  have h2 := fdiv2 (a - (-n).fdiv a)
  generalize (-n).fdiv a = d at *
  suffices h : -d < a by omega
  refine Int.not_le.mp fun hle => ?_
  have h3 : a * a ≤ -d * a := Int.mul_le_mul_of_nonneg_right hle (by omega)
  have h4 : (s + 1) * (s + 1) ≤ a * a := Int.mul_le_mul (by omega) (by omega) (by omega) (by omega)
  have h5 : s * s + s ≤ a * a - a := by
    have : (s + 1) * s ≤ a * (a - 1) := Int.mul_le_mul (by omega) (by omega) (by omega) (by omega)
    grind
  omega
theorem nxt_eq {n s : Int} (hs : IsSq n s) : nxt n s = s := by
  obtain ⟨s0, s1, s2⟩ := hs
  unfold nxt
  have hc := ceil_spec (n := n) s0
  have h2 := fdiv2 (s - (-n).fdiv s)
  generalize (-n).fdiv s = d at *
  have h3 : s ≤ -d := by
    refine Int.not_lt.mp fun h => ?_
    have : -d * s ≤ (s - 1) * s := Int.mul_le_mul_of_nonneg_right (by omega) (by omega)
    grind
  have h4 : -d ≤ s + 1 := by
    refine Int.not_lt.mp fun h => ?_
    have : (s + 2) * s ≤ -d * s := Int.mul_le_mul_of_nonneg_right (by omega) (by omega)
    grind
  omega
theorem nxt_le {n a : Int} (ha : 0 < a) (hn : 0 < n) : nxt n a ≤ n ∨ nxt n a ≤ a := by
  unfold nxt
  have hc := ceil_spec (n := n) ha
  have h2 := fdiv2 (a - (-n).fdiv a)
  generalize (-n).fdiv a = d at *
  have hd : -d ≤ n := by
    refine Int.not_lt.mp fun h => ?_
    have h3 : (n + 1) * a ≤ -d * a := Int.mul_le_mul_of_nonneg_right (by omega) (by omega)
    have h4 : n * 1 ≤ n * a := Int.mul_le_mul_of_nonneg_left (by omega) (by omega)
    have h5 : n * 1 * 1 ≤ n * a := by omega
    grind
  omega

end
section
def sqP (n a b : Int) : Prop := 0 < a ∧ a ≤ Big ∧ (b = 0 ∨ (0 < b ∧ a = nxt n b))
def sqM (n a b : Int) : Nat := if a < sqrtN n then (n + 2).toNat else if a = sqrtN n ∧ b = sqrtN n then 0 else (a - sqrtN n + 1).toNat
theorem sqP_next {n a b : Int} (h0 : 0 < n) (h1 : n ≤ Big) (h : sqP n a b) : sqP n (nxt n a) a := by
  obtain ⟨ha, hb, _⟩ := h
  have hs := sqrtN_spec h0 h1
  have hg := nxt_ge ha h0 hs
  have hl := nxt_le ha h0
  have := hs.1
  exact ⟨by omega, by omega, Or.inr ⟨ha, rfl⟩⟩
theorem isSq_le {n s : Int} (h : IsSq n s) : s ≤ n := by
  obtain ⟨h1, h2, h3⟩ := h
  refine Int.not_lt.mp fun h => ?_
  have : (s - 1) * 1 ≤ (s - 1) * s := Int.mul_le_mul_of_nonneg_left (by omega) (by omega)
  grind
theorem sqM_next {n a b : Int} (h0 : 0 < n) (h1 : n ≤ Big) (h : sqP n a b) (hne : ¬ a = b) : sqM n (nxt n a) a < sqM n a b := by
  obtain ⟨ha, hb, _⟩ := h
  have hs := sqrtN_spec h0 h1
  have hsn := isSq_le hs
  have hg := nxt_ge ha h0 hs
  have hl := nxt_le ha h0
  have hs0 := hs.1
  unfold sqM
  by_cases c1 : a < sqrtN n
  · rw [if_pos c1, if_neg (by omega)]
    split
    · omega
    · omega
  · rw [if_neg c1, if_neg (by omega)]
    by_cases c2 : a = sqrtN n
    · have e : nxt n a = sqrtN n := by rw [c2]; exact nxt_eq hs
      rw [if_pos ⟨e, c2⟩, if_neg (by omega)]
      omega
    · have hlt := nxt_lt hs (a := a) (by omega)
      rw [if_neg (by omega), if_neg (by omega)]
      omega
theorem sq_end {n a b : Int} (h0 : 0 < n) (h1 : n ≤ Big) (h : sqP n a b) (he : a = b) : a = sqrtN n := by
  obtain ⟨ha, hb, hc⟩ := h
  have hs := sqrtN_spec h0 h1
  subst he
  rcases hc with hc | ⟨_, hc⟩
  · omega
  · have hg := nxt_ge ha h0 hs
    rcases Int.lt_trichotomy a (sqrtN n) with c | c | c
    · omega
    · exact c
    · have := nxt_lt hs c; omega

end
section
theorem divN_near {a b : Int} (hb : 0 < b) : -b ≤ 2 * (a - b * divN a b) ∧ 2 * (a - b * divN a b) ≤ b := by
  unfold divN
  have h := Int.mul_fdiv_add_fmod a b
  have h1 := fmod_lo a hb
  have h2 := fmod_hi a hb
  rw [bitAnd_m1]
  have h3 : 0 ≤ a.fdiv b % 2 ∧ a.fdiv b % 2 < 2 := by omega
  generalize a.fdiv b % 2 = e at *
  generalize a.fdiv b = q at *
  generalize a.fmod b = r at *
  have e1 : b * (q + 1) = b * q + b := by grind
  have e2 : b * (q + 0) = b * q := by grind
  split <;> rename_i hc <;> simp only [decide_eq_true_eq] at hc
  · rw [e1]; omega
  · rw [e2]; omega
/-- at a tie the quotient is even -/
theorem divN_even {a b : Int} (hb : 0 < b) (ht : 2 * (a - b * divN a b) = b ∨ 2 * (a - b * divN a b) = -b) : divN a b % 2 = 0 := by
  unfold divN at *
  have h := Int.mul_fdiv_add_fmod a b
  have h1 := fmod_lo a hb
  have h2 := fmod_hi a hb
  rw [bitAnd_m1] at *
  generalize a.fdiv b = q at *
  generalize a.fmod b = r at *
  have e1 : b * (q + 1) = b * q + b := by grind
  have e2 : b * (q + 0) = b * q := by grind
  split at ht <;> rename_i hc
  · rw [if_pos hc]
    simp only [decide_eq_true_eq] at hc
    rw [e1] at ht; omega
  · rw [if_neg hc]
    simp only [decide_eq_true_eq] at hc
    rw [e2] at ht; omega
theorem divN_le {a b c : Int} (hb : 0 < b) (h : a ≤ b * c) : divN a b ≤ c := by
  have hn := divN_near (a := a) hb
  generalize divN a b = q at *
  refine Int.not_lt.mp fun hlt => ?_
  have : b * (c + 1) ≤ b * q := Int.mul_le_mul_of_nonneg_left (by omega) (by omega)
  have e : b * (c + 1) = b * c + b := by grind
  omega
theorem divN_ge {a b c : Int} (hb : 0 < b) (h : b * c ≤ a) : c ≤ divN a b := by
  have hn := divN_near (a := a) hb
  generalize divN a b = q at *
  refine Int.not_lt.mp fun hlt => ?_
  have : b * q ≤ b * (c - 1) := Int.mul_le_mul_of_nonneg_left (by omega) (by omega)
  have e : b * (c - 1) = b * c - b := by grind
  omega
theorem pow2_pos (k : Nat) : (0 : Int) < 2 ^ k := kbt_pos k
theorem rshN_div (x sh : Int) : rshN x sh = divN x (2 ^ sh.toNat) := by
  unfold rshN divN
  rw [Int.one_mul, kbt_maskF]
/-- the while's test -/
def ilT (M y R : Int) : Bool := if R ≤ 8 then decide (M ≤ (y.natAbs : Int) * 2 ^ (8 - R).toNat) else decide (M ≤ (y.natAbs : Int).fdiv (2 ^ (R - 8).toNat))
def ilS (M y R : Int) : Int := divN (M * y * 2) (M + sqrtN (M * (M + rshN y R)))
def ilLp : Nat → Int → Int → Int → Int × Int
  | 0, _, y, R => (y, R)
  | k + 1, M, y, R => if ilT M y R = true then ilLp k M (ilS M y R) (R + 1) else (y, R)
/-- what holds between the turns -/
structure ilJ (x M y R : Int) : Prop where
  R0 : 0 ≤ R
  R1 : R ≤ 25
  up : M ≤ x → 0 ≤ y ∧ y ≤ x - M
  dn : x < M → y ≤ 0 ∧ -y ≤ 2 ^ R.toNat * (M - x) ∧ 5 ^ R.toNat * (1 - y) ≤ 8 ^ R.toNat * (M - x + 1)
structure ilPre (x M : Int) : Prop where
  M0 : 100 ≤ M
  M1 : M ≤ 2 ^ 250
  lo : M ≤ 10 * x
  hi : x ≤ 10 * M
theorem ilJ.start {x M : Int} (_h : ilPre x M) : ilJ x M (x - M) 0 := by
  refine ⟨by omega, by omega, fun h => by omega, fun h => ⟨by omega, ?_, ?_⟩⟩
  · show -(x - M) ≤ 2 ^ 0 * (M - x); omega
  · show 5 ^ 0 * (1 - (x - M)) ≤ 8 ^ 0 * (M - x + 1); omega
theorem rsh_ge {y R c : Int} (h : 2 ^ R.toNat * c ≤ y) : c ≤ rshN y R := by
  rw [rshN_div]; exact divN_ge (pow2_pos _) h
theorem rsh_le {y R c : Int} (h : y ≤ 2 ^ R.toNat * c) : rshN y R ≤ c := by
  rw [rshN_div]; exact divN_le (pow2_pos _) h
theorem ilJ.rsh {x M y R : Int} (P : ilPre x M) (h : ilJ x M y R) : M ≤ 10 * (M + rshN y R) ∧ M + rshN y R ≤ 10 * M ∧ (M ≤ x → 0 ≤ rshN y R) ∧ (x < M → rshN y R ≤ 0) := by
  have h1 := P.lo; have h2 := P.hi; have h0 := P.M0
  have hp := pow2_pos R.toNat
  by_cases c : M ≤ x
  · obtain ⟨u1, u2⟩ := h.up c
    have g1 : (0 : Int) ≤ rshN y R := rsh_ge (by rw [Int.mul_zero]; exact u1)
    have g2 : rshN y R ≤ x - M := rsh_le (by
      have : 1 * (x - M) ≤ 2 ^ R.toNat * (x - M) := Int.mul_le_mul_of_nonneg_right (by omega) (by omega)
      omega)
    exact ⟨by omega, by omega, fun _ => g1, fun _ => by omega⟩
  · obtain ⟨d1, d2, d3⟩ := h.dn (by omega)
    have g1 : -(M - x) ≤ rshN y R := rsh_ge (by
      have : (2 : Int) ^ R.toNat * -(M - x) = -(2 ^ R.toNat * (M - x)) := by grind
      omega)
    have g2 : rshN y R ≤ 0 := rsh_le (by rw [Int.mul_zero]; exact d1)
    exact ⟨by omega, by omega, fun _ => by omega, fun _ => g2⟩
theorem mul_lo {a b c d : Int} (ha : 0 ≤ a) (hb : 0 ≤ b) (h1 : a ≤ c) (h2 : b ≤ d) : a * b ≤ c * d := Int.mul_le_mul h1 h2 hb (Int.le_trans ha h1)
theorem big_250 {n : Int} (h : n ≤ 2 ^ 1000) : n ≤ Big := by
  refine Int.le_trans h ?_
  unfold Big
  have e1 : ((2 ^ 1000 : Nat) : Int) = (2 : Int) ^ 1000 := Int.natCast_pow 2 1000
  have e2 : ((2 ^ 8000 : Nat) : Int) = (2 : Int) ^ 8000 := Int.natCast_pow 2 8000
  rw [← e1, ← e2]
  have : (2 ^ 1000 : Nat) ≤ 2 ^ 8000 := by decide +kernel
  exact Int.ofNat_le.mpr this
theorem mulpow {a b : Int} {m n : Nat} (ha : 0 ≤ a) (hb : 0 ≤ b) (h1 : a ≤ 2 ^ m) (h2 : b ≤ 2 ^ n) : a * b ≤ 2 ^ (m + n) := by
  rw [Int.pow_add]; exact mul_lo ha hb h1 h2
/-- the square root's argument -/
theorem ilJ.arg {x M y R : Int} (P : ilPre x M) (h : ilJ x M y R) : 0 < M * (M + rshN y R) ∧ M * (M + rshN y R) ≤ Big ∧ IsSq (M * (M + rshN y R)) (sqrtN (M * (M + rshN y R))) := by
  obtain ⟨r1, r2, _, _⟩ := h.rsh P
  have h0 := P.M0
  have p1 : 0 < M * (M + rshN y R) := Int.mul_pos (by omega) (by omega)
  have p2 : M * (M + rshN y R) ≤ Big := by
    refine big_250 (Int.le_trans (mulpow (m := 250) (n := 254) (by omega) (by omega) P.M1 ?_) ?_)
    · have := P.M1
      have e : (2 : Int) ^ 254 = 2 ^ 250 * 16 := by decide +kernel
      rw [e]; omega
    · decide +kernel
  exact ⟨p1, p2, sqrtN_spec p1 p2⟩
theorem ilJ.root {x M y R : Int} (P : ilPre x M) (h : ilJ x M y R) : (M ≤ x → M ≤ sqrtN (M * (M + rshN y R))) ∧ M ≤ 4 * sqrtN (M * (M + rshN y R)) ∧ sqrtN (M * (M + rshN y R)) ≤ 4 * M := by
  obtain ⟨r1, r2, r3, r4⟩ := h.rsh P
  obtain ⟨a1, a2, s0, s1, s2⟩ := h.arg P
  have h0 := P.M0
  generalize rshN y R = r at *
  generalize sqrtN (M * (M + r)) = s at *
  refine ⟨fun c => ?_, ?_, ?_⟩
  · refine Int.not_lt.mp fun hlt => ?_
    have k1 : s * s ≤ (M - 1) * (M - 1) := mul_lo (by omega) (by omega) (by omega) (by omega)
    have k2 : M * M ≤ M * (M + r) := Int.mul_le_mul_of_nonneg_left (by have := r3 c; omega) (by omega)
    grind
  · refine Int.not_lt.mp fun hlt => ?_
    have k1 : (4 * s) * (4 * s) ≤ (M - 1) * (M - 1) := mul_lo (by omega) (by omega) (by omega) (by omega)
    have k2 : M * M ≤ M * (10 * (M + r)) := Int.mul_le_mul_of_nonneg_left (by omega) (by omega)
    have k3 : 100 * M ≤ M * M := Int.mul_le_mul_of_nonneg_right (by omega) (by omega)
    grind
  · refine Int.not_lt.mp fun hlt => ?_
    have k1 : (4 * M + 1) * (4 * M) ≤ s * (s - 1) := mul_lo (by omega) (by omega) (by omega) (by omega)
    have k2 : M * (M + r) ≤ M * (10 * M) := Int.mul_le_mul_of_nonneg_left (by omega) (by omega)
    have k3 : 0 ≤ M * M := Int.mul_nonneg (by omega) (by omega)
    grind

end
section
theorem fdiv_ge {a b c : Int} (hb : 0 < b) (h : c ≤ a.fdiv b) : b * c ≤ a := by
  have h1 := Int.mul_fdiv_add_fmod a b
  have h2 := fmod_lo a hb
  have : b * c ≤ b * a.fdiv b := Int.mul_le_mul_of_nonneg_left h (by omega)
  omega
theorem fdiv_lt {a b c : Int} (hb : 0 < b) (h : a.fdiv b < c) : a < b * c := by
  have h1 := Int.mul_fdiv_add_fmod a b
  have h2 := fmod_hi a hb
  have : b * (a.fdiv b + 1) ≤ b * c := Int.mul_le_mul_of_nonneg_left (by omega) (by omega)
  have e : b * (a.fdiv b + 1) = b * a.fdiv b + b := by grind
  omega
theorem ilT_lt {x M y R : Int} (P : ilPre x M) (h : ilJ x M y R) (t : ilT M y R = true) : R ≤ 24 := by
  refine Int.not_lt.mp fun hlt => ?_
  have hR : R = 25 := by have := h.R1; omega
  subst hR
  have h0 := P.M0; have h1 := P.lo; have h2 := P.hi
  unfold ilT at t
  rw [if_neg (by omega)] at t
  have t1 := fdiv_ge (b := 2 ^ (25 - 8 : Int).toNat) (pow2_pos _) (of_decide_eq_true t)
  have e1 : (2 : Int) ^ (25 - 8 : Int).toNat = 131072 := by decide +kernel
  rw [e1] at t1
  have e5 : (5 : Int) ^ (25 : Int).toNat = 298023223876953125 := by decide +kernel
  have e8 : (8 : Int) ^ (25 : Int).toNat = 37778931862957161709568 := by decide +kernel
  by_cases c : M ≤ x
  · obtain ⟨u1, u2⟩ := h.up c; omega
  · obtain ⟨d1, d2, d3⟩ := h.dn (by omega)
    rw [e5, e8] at d3
    omega
theorem ilJ.next {x M y R : Int} (P : ilPre x M) (h : ilJ x M y R) (t : ilT M y R = true) : ilJ x M (ilS M y R) (R + 1) := by
  have hR := ilT_lt P h t
  have h0 := P.M0; have hR0 := h.R0
  obtain ⟨s1, s2, s3⟩ := h.root P
  unfold ilS
  generalize sqrtN (M * (M + rshN y R)) = s at *
  have hD : 0 < M + s := by omega
  have hn := divN_near (a := M * y * 2) hD
  have eT : (R + 1).toNat = R.toNat + 1 := by omega
  refine ⟨by omega, by omega, fun c => ?_, fun c => ?_⟩
  · obtain ⟨u1, u2⟩ := h.up c
    have k1 : 0 ≤ M * y := Int.mul_nonneg (by omega) u1
    have k2 : 0 ≤ (s - M) * y := Int.mul_nonneg (by have := s1 c; omega) u1
    have g1 : 0 ≤ divN (M * y * 2) (M + s) := divN_ge hD (by omega)
    have g2 : divN (M * y * 2) (M + s) ≤ y := divN_le hD (by grind)
    exact ⟨g1, by omega⟩
  · obtain ⟨d1, d2, d3⟩ := h.dn c
    have k0 : 0 ≤ M * (-y) := Int.mul_nonneg (by omega) (by omega)
    have k1 : 0 ≤ s * (-y) := Int.mul_nonneg (by omega) (by omega)
    have g1 : divN (M * y * 2) (M + s) ≤ 0 := divN_le hD (by grind)
    have g2 : 2 * y ≤ divN (M * y * 2) (M + s) := divN_ge hD (by grind)
    have k2 : 0 ≤ (4 * (M + s) - 5 * M) * (-y) := Int.mul_nonneg (by omega) (by omega)
    generalize hv : divN (M * y * 2) (M + s) = v at *
    have g3 : 5 * (1 - v) ≤ 8 * (1 - y) := by
      refine Int.not_lt.mp fun hlt => ?_
      have k3 : (M + s) * (10 * v) ≤ (M + s) * (16 * y - 7) := Int.mul_le_mul_of_nonneg_left (by omega) (by omega)
      grind
    rw [eT]
    refine ⟨g1, ?_, ?_⟩
    · rw [Int.pow_succ]
      have : (2 : Int) ^ R.toNat * 2 * (M - x) = 2 * (2 ^ R.toNat * (M - x)) := by grind
      omega
    · have p5 : (0 : Int) < 5 ^ R.toNat := Int.pow_pos (by omega)
      have k4 : 5 ^ R.toNat * (5 * (1 - v)) ≤ 5 ^ R.toNat * (8 * (1 - y)) := Int.mul_le_mul_of_nonneg_left g3 (by omega)
      rw [Int.pow_succ, Int.pow_succ]
      have e1 : (5 : Int) ^ R.toNat * 5 * (1 - v) = 5 ^ R.toNat * (5 * (1 - v)) := by grind
      have e2 : (5 : Int) ^ R.toNat * (8 * (1 - y)) = 8 * (5 ^ R.toNat * (1 - y)) := by grind
      have e3 : (8 : Int) ^ R.toNat * 8 * (M - x + 1) = 8 * (8 ^ R.toNat * (M - x + 1)) := by grind
      omega
/-- the sizes -/
theorem bits_of_le {x : Int} {m : Nat} (h1 : -(2 ^ m : Int) < x) (h2 : x < 2 ^ m) : intBits x ≤ m := by
  rw [intBits_le_iff]
  have e : ((2 ^ m : Nat) : Int) = (2 : Int) ^ m := Int.natCast_pow 2 m
  rw [← e] at h1 h2
  generalize (2 ^ m : Nat) = k at *
  omega
theorem pow_le_25 {R : Int} (h1 : R ≤ 25) : (2 : Int) ^ R.toNat ≤ 2 ^ 25 := by
  have h : R.toNat ≤ 25 := by omega
  have e1 : ((2 ^ R.toNat : Nat) : Int) = (2 : Int) ^ R.toNat := Int.natCast_pow 2 _
  have e2 : ((2 ^ 25 : Nat) : Int) = (2 : Int) ^ 25 := Int.natCast_pow 2 _
  rw [← e1, ← e2]
  exact Int.ofNat_le.mpr (Nat.pow_le_pow_right (by omega) h)
theorem ilJ.abs {x M y R : Int} (P : ilPre x M) (h : ilJ x M y R) : -(33554432 * (9 * M)) ≤ y ∧ y ≤ 33554432 * (9 * M) := by
  have h0 := P.M0; have h1 := P.lo; have h2 := P.hi
  by_cases c : M ≤ x
  · obtain ⟨u1, u2⟩ := h.up c; omega
  · obtain ⟨d1, d2, d3⟩ := h.dn (by omega)
    have k := pow_le_25 h.R1
    have e : (2 : Int) ^ 25 = 33554432 := by decide +kernel
    rw [e] at k
    have k2 : 2 ^ R.toNat * (M - x) ≤ 33554432 * (M - x) := Int.mul_le_mul_of_nonneg_right k (by omega)
    omega
theorem ilPre.Mbits {x M : Int} (P : ilPre x M) : intBits M ≤ 300 := by
  have h0 := P.M0; have h1 := P.M1
  have e : (2 : Int) ^ 300 = 2 ^ 250 * 1125899906842624 := by decide +kernel
  generalize (2 : Int) ^ 250 = k at *
  refine bits_of_le ?_ ?_ <;> rw [e] <;> omega
theorem ilJ.ybits {x M y R : Int} (P : ilPre x M) (h : ilJ x M y R) : intBits y ≤ 300 := by
  have h0 := P.M0; have h1 := P.M1
  have h2 := h.abs P
  have e : (2 : Int) ^ 300 = 2 ^ 250 * 1125899906842624 := by decide +kernel
  generalize (2 : Int) ^ 250 = k at *
  refine bits_of_le ?_ ?_ <;> rw [e] <;> omega
theorem ilJ.rbits {x M y R : Int} (P : ilPre x M) (h : ilJ x M y R) : intBits (M + rshN y R) ≤ 300 := by
  have h0 := P.M0; have h1 := P.M1
  have h2 := h.rsh P
  have e : (2 : Int) ^ 300 = 2 ^ 250 * 1125899906842624 := by decide +kernel
  generalize (2 : Int) ^ 250 = k at *
  refine bits_of_le ?_ ?_ <;> rw [e] <;> omega
/-- the divisor of a turn -/
theorem ilJ.dvs {x M y R : Int} (P : ilPre x M) (h : ilJ x M y R) : 0 < M + sqrtN (M * (M + rshN y R)) ∧ M + sqrtN (M * (M + rshN y R)) ≤ Big := by
  have h0 := P.M0; have h1 := P.M1
  obtain ⟨s1, s2, s3⟩ := h.root P
  refine ⟨by omega, big_250 ?_⟩
  have e : (2 : Int) ^ 1000 = 2 ^ 250 * 2 ^ 750 := by decide +kernel
  rw [e]
  have e2 : (16 : Int) ≤ 2 ^ 750 := by decide +kernel
  have k : (2 : Int) ^ 250 * 16 ≤ 2 ^ 250 * 2 ^ 750 := Int.mul_le_mul_of_nonneg_left e2 (by decide +kernel)
  generalize (2 : Int) ^ 250 * 2 ^ 750 = kk at *
  generalize (2 : Int) ^ 250 = k at *
  omega
theorem ilPre.MBig {x M : Int} (P : ilPre x M) : M ≤ Big := big_250 (Int.le_trans P.M1 (by decide +kernel))
/-- the loop is the function -/
def ilJL (x M y R : Int) : Prop := ilJ x M y R ∧ ilLp 40 M (x - M) 0 = ilLp (40 - R.toNat) M y R
theorem ilJL.start {x M : Int} (P : ilPre x M) : ilJL x M (x - M) 0 := ⟨ilJ.start P, rfl⟩
theorem ilJL.next {x M y R : Int} (P : ilPre x M) (h : ilJL x M y R) (t : ilT M y R = true) : ilJL x M (ilS M y R) (R + 1) := by
  refine ⟨h.1.next P t, ?_⟩
  rw [h.2]
  have hR := ilT_lt P h.1 t
  have h0 := h.1.R0
  have e : 40 - R.toNat = (40 - (R + 1).toNat) + 1 := by omega
  rw [e]
  show (if ilT M y R = true then _ else _) = _
  rw [if_pos t]
theorem ilJL.stop {x M y R : Int} (h : ilJL x M y R) (t : ilT M y R = false) : ilLp 40 M (x - M) 0 = (y, R) := by
  rw [h.2]
  have hR := h.1.R1
  have h0 := h.1.R0
  have e : 40 - R.toNat = (39 - R.toNat) + 1 := by omega
  rw [e]
  show (if ilT M y R = true then _ else _) = _
  rw [if_neg (by simp [t])]
theorem ilT_stop {M y R : Int} (h0 : 0 ≤ R) (t : ilT M y R = false) : -(2 ^ R.toNat * M) < 256 * y ∧ 256 * y < 2 ^ R.toNat * M := by
  unfold ilT at t
  split at t
  · next c =>
    have t1 := of_decide_eq_false t
    have e : (256 : Int) = 2 ^ R.toNat * 2 ^ (8 - R).toNat := by
      rw [← Int.pow_add]
      have : R.toNat + (8 - R).toNat = 8 := by omega
      rw [this]; rfl
    have hp := pow2_pos R.toNat
    have k : 2 ^ R.toNat * ((y.natAbs : Int) * 2 ^ (8 - R).toNat) < 2 ^ R.toNat * M := Int.mul_lt_mul_of_pos_left (by omega) hp
    have e2 : (2 : Int) ^ R.toNat * ((y.natAbs : Int) * 2 ^ (8 - R).toNat) = 256 * y.natAbs := by
      rw [e]; grind
    omega
  · next c =>
    have t1 := of_decide_eq_false t
    have t2 := fdiv_lt (pow2_pos (R - 8).toNat) (Int.not_le.mp t1)
    have e : (2 : Int) ^ R.toNat = 256 * 2 ^ (R - 8).toNat := by
      have : R.toNat = 8 + (R - 8).toNat := by omega
      rw [this, Int.pow_add]; rfl
    have e2 : 2 ^ R.toNat * M = 256 * (2 ^ (R - 8).toNat * M) := by rw [e]; grind
    omega

end
section
def ndig (a : Int) : Int := ((Str.ofString (toString a)).length : Nat)
theorem ndig_nat (m : Nat) : ndig (m : Int) = ((Nat.toDigits 10 m).length : Nat) := by
  unfold ndig
  have h := text_ofNat m
  have e : (Str.ofString (toString ((m : Nat) : Int))).length = ((Nat.toDigits 10 m).map Char.toNat).length := by
    show (Str.ofString (toString (Int.ofNat m))).length = _
    rw [h]; simp [Str.length]
  rw [e, List.length_map]
theorem ndig_le {a : Int} {k : Nat} (h0 : 0 ≤ a) (hk : 0 < k) (h : a < 10 ^ k) : ndig a ≤ k := by
  obtain ⟨m, rfl⟩ := Int.eq_ofNat_of_zero_le h0
  rw [ndig_nat]
  have : m < 10 ^ k := by exact_mod_cast h
  exact Int.ofNat_le.mpr ((Nat.length_toDigits_le_iff (by omega) hk).mpr this)
theorem ndig_gt {a : Int} {k : Nat} (h0 : 0 < a) (h : 10 ^ k ≤ a) : (k : Int) < ndig a := by
  obtain ⟨m, rfl⟩ := Int.eq_ofNat_of_zero_le (Int.le_of_lt h0)
  rw [ndig_nat]
  have hm : 10 ^ k ≤ m := by exact_mod_cast h
  refine Int.ofNat_lt.mpr (Nat.not_le.mp fun hle => ?_)
  by_cases hk : k = 0
  · subst hk
    have := (Nat.length_toDigits_le_iff (b := 10) (n := m) (k := 1) (by omega) (by omega)).mp (by omega)
    have h2 : (Nat.toDigits 10 m).length = 0 := by omega
    rw [List.length_eq_zero_iff] at h2
    exact Nat.toDigits_ne_nil h2
  · have := (Nat.length_toDigits_le_iff (b := 10) (n := m) (k := k) (by omega) (by omega)).mp hle
    omega
theorem ndig_eq {a : Int} {k : Nat} (h1 : 10 ^ k ≤ a) (h2 : a < 10 ^ (k + 1)) : ndig a = k + 1 := by
  have hp : (0 : Int) < 10 ^ k := Int.pow_pos (by omega)
  have g1 := ndig_gt (a := a) (k := k) (by omega) h1
  have g2 := ndig_le (a := a) (k := k + 1) (by omega) (by omega) h2
  omega
theorem ndig_pos {a : Int} (h : 0 < a) : 1 ≤ ndig a := by
  have := ndig_gt (a := a) (k := 0) h (by rw [Int.pow_zero]; omega)
  omega
/-- Horner's step -/
def horn (M ys : Int) (w k : Int) : Int := divN M k - divN (ys * w) M
theorem horn_bound {M ys w k : Int} (hM : 100 ≤ M) (hk : 1 ≤ k) (hy : -M ≤ 100 * ys ∧ 100 * ys ≤ M) (hw : -(2 * M) ≤ w ∧ w ≤ 2 * M) : -(2 * M) ≤ horn M ys w k ∧ horn M ys w k ≤ 2 * M := by
  have g1 : divN M k ≤ M := divN_le (by omega) (by
    have : 1 * M ≤ k * M := Int.mul_le_mul_of_nonneg_right hk (by omega)
    omega)
  have g2 : 0 ≤ divN M k := divN_ge (by omega) (by omega)
  have k1 : 100 * (ys * w) ≤ M * (2 * M) ∧ -(M * (2 * M)) ≤ 100 * (ys * w) := by
    have a1 : 0 ≤ (M - 100 * ys) * (2 * M - w) := Int.mul_nonneg (by omega) (by omega)
    have a2 : 0 ≤ (M + 100 * ys) * (2 * M + w) := Int.mul_nonneg (by omega) (by omega)
    have a3 : 0 ≤ (M - 100 * ys) * (2 * M + w) := Int.mul_nonneg (by omega) (by omega)
    have a4 : 0 ≤ (M + 100 * ys) * (2 * M - w) := Int.mul_nonneg (by omega) (by omega)
    constructor <;> grind
  have k2 : 100 * M ≤ M * M := Int.mul_le_mul_of_nonneg_right hM (by omega)
  have g3 : divN (ys * w) M ≤ M := divN_le (by omega) (by grind)
  have g4 : -M ≤ divN (ys * w) M := divN_ge (by omega) (by grind)
  unfold horn; omega
theorem divM_bound {M k : Int} (hM : 100 ≤ M) (hk : 1 ≤ k) : -(2 * M) ≤ divN M k ∧ divN M k ≤ 2 * M := by
  have g1 : divN M k ≤ M := divN_le (by omega) (by
    have : 1 * M ≤ k * M := Int.mul_le_mul_of_nonneg_right hk (by omega)
    omega)
  have g2 : 0 ≤ divN M k := divN_ge (by omega) (by omega)
  omega
theorem ys_bound {x M y R : Int} (P : ilPre x M) (h : ilJ x M y R) (t : ilT M y R = false) : -M ≤ 100 * rshN y R ∧ 100 * rshN y R ≤ M := by
  have h0 := P.M0
  obtain ⟨t1, t2⟩ := ilT_stop h.R0 t
  have hp := pow2_pos R.toNat
  have hn := divN_near (a := y) hp
  rw [rshN_div]
  generalize divN y (2 ^ R.toNat) = r at *
  generalize (2 : Int) ^ R.toNat = p at *
  constructor
  · refine Int.not_lt.mp fun hlt => ?_
    have k1 : p * (100 * r) ≤ p * (-M - 1) := Int.mul_le_mul_of_nonneg_left (by omega) (by omega)
    have k2 : p * 100 ≤ p * M := Int.mul_le_mul_of_nonneg_left (by omega) (by omega)
    grind
  · refine Int.not_lt.mp fun hlt => ?_
    have k1 : p * (M + 1) ≤ p * (100 * r) := Int.mul_le_mul_of_nonneg_left (by omega) (by omega)
    have k2 : p * 100 ≤ p * M := Int.mul_le_mul_of_nonneg_left (by omega) (by omega)
    grind
theorem bits2M {x M w : Int} (P : ilPre x M) (hw : -(2 * M) ≤ w ∧ w ≤ 2 * M) : intBits w ≤ 300 := by
  have h0 := P.M0; have h1 := P.M1
  have e : (2 : Int) ^ 300 = 2 ^ 250 * 1125899906842624 := by decide +kernel
  generalize (2 : Int) ^ 250 = k at *
  refine bits_of_le ?_ ?_ <;> rw [e] <;> omega
theorem bitsYs {x M y R : Int} (P : ilPre x M) (h : ilJ x M y R) : intBits (rshN y R) ≤ 300 := by
  have h0 := P.M0; have h1 := P.M1
  have h2 := h.rsh P
  have e : (2 : Int) ^ 300 = 2 ^ 250 * 1125899906842624 := by decide +kernel
  generalize (2 : Int) ^ 250 = k at *
  refine bits_of_le ?_ ?_ <;> rw [e] <;> omega
theorem log2_M {x M : Int} (P : ilPre x M) : M.natAbs.log2 < 1920 := by
  have h0 := P.M0; have h1 := P.M1
  refine (Nat.log2_lt (by omega)).mpr ?_
  have e : ((2 ^ 250 : Nat) : Int) = (2 : Int) ^ 250 := Int.natCast_pow 2 250
  rw [← e] at h1
  have h2 : (2 ^ 250 : Nat) < 2 ^ 1920 := by decide +kernel
  generalize (2 ^ 250 : Nat) = k at *
  omega

end
section
/-- all that a turn asks -/
structure ilF (x M y R : Int) : Prop where
  jl : ilJL x M y R
  r0 : 0 ≤ R
  r1 : R ≤ 25
  yb : intBits y ≤ 300
  a1 : 0 < M * (M + rshN y R)
  a2 : M * (M + rshN y R) ≤ Big
  d1 : 0 < M + sqrtN (M * (M + rshN y R))
  d2 : M + sqrtN (M * (M + rshN y R)) ≤ Big
  rb : intBits (M + rshN y R) ≤ 300
  sb : intBits (rshN y R) ≤ 300
theorem ilJL.full {x M y R : Int} (P : ilPre x M) (h : ilJL x M y R) : ilF x M y R :=
  ⟨h, h.1.R0, h.1.R1, h.1.ybits P, (h.1.arg P).1, (h.1.arg P).2.1, (h.1.dvs P).1, (h.1.dvs P).2, h.1.rbits P, bitsYs P h.1⟩
theorem mul_300 {a b : Int} (ha : intBits a ≤ 300) (hb : intBits b ≤ 300) : IntMulOk a b := IntMulOk.of_le ha hb (by decide)
theorem shl_300 {a n : Int} (ha : intBits a ≤ 300) (h1 : n ≤ 100) : (intBits a : Int) + n ≤ 2 ^ 27 := by
  have e : (2 : Int) ^ 27 = 134217728 := by decide
  rw [e]; omega
theorem shl_600 {a b n : Int} (ha : intBits a ≤ 300) (hb : intBits b ≤ 300) (h1 : n ≤ 100) : (intBits (a * b) : Int) + n ≤ 2 ^ 27 := by
  have e : (2 : Int) ^ 27 = 134217728 := by decide
  have := intBits_mul_le ha hb
  rw [e]; omega
theorem ilF.conj {x M y R : Int} (h : ilF x M y R) : ilF x M y R ∧ (0 ≤ R ∧ R ≤ 25) ∧ intBits y ≤ 300 ∧ (0 < M * (M + rshN y R) ∧ M * (M + rshN y R) ≤ Big) ∧ (0 < M + sqrtN (M * (M + rshN y R)) ∧ M + sqrtN (M * (M + rshN y R)) ≤ Big) ∧ intBits (M + rshN y R) ≤ 300 ∧ intBits (rshN y R) ≤ 300 :=
  ⟨h, ⟨h.r0, h.r1⟩, h.yb, ⟨h.a1, h.a2⟩, ⟨h.d1, h.d2⟩, h.rb, h.sb⟩
theorem ite_abs (y : Int) : (if y < 0 then -y else y) = (y.natAbs : Int) := by split <;> omega
theorem shl_abs {a n : Int} (ha : intBits a ≤ 300) (h1 : n ≤ 100) : (intBits (if a < 0 then -a else a) : Int) + n ≤ 2 ^ 27 := by
  rw [ite_abs]; exact shl_300 (intBits_natAbs_le ha) h1
theorem ilT_t1 {x M y R : Int} (_ : ilF x M y R) (h1 : R ≤ 8) (h2 : M ≤ (if y < 0 then -y else y) * 2 ^ (8 - R).toNat) : ilT M y R = true := by
  rw [ite_abs] at h2; unfold ilT; rw [if_pos h1]; exact decide_eq_true h2
theorem ilT_t2 {x M y R : Int} (_ : ilF x M y R) (h1 : 8 < R) (h2 : M ≤ (if y < 0 then -y else y).fdiv (2 ^ (R - 8).toNat)) : ilT M y R = true := by
  rw [ite_abs] at h2; unfold ilT; rw [if_neg (by omega)]; exact decide_eq_true h2
theorem ilT_f1 {x M y R : Int} (_ : ilF x M y R) (h1 : R ≤ 8) (h2 : ¬ M ≤ (if y < 0 then -y else y) * 2 ^ (8 - R).toNat) : ilT M y R = false := by
  rw [ite_abs] at h2; unfold ilT; rw [if_pos h1]; exact decide_eq_false h2
theorem ilT_f2 {x M y R : Int} (_ : ilF x M y R) (h1 : 8 < R) (h2 : ¬ M ≤ (if y < 0 then -y else y).fdiv (2 ^ (R - 8).toNat)) : ilT M y R = false := by
  rw [ite_abs] at h2; unfold ilT; rw [if_neg (by omega)]; exact decide_eq_false h2
def ilTT (M : Int) : Int := -(-10 * ndig M).fdiv (3 * 8)
theorem fdiv24 (x : Int) : 24 * x.fdiv (3 * 8) ≤ x ∧ x < 24 * x.fdiv (3 * 8) + 24 := by
  show 24 * x.fdiv 24 ≤ x ∧ x < 24 * x.fdiv 24 + 24
  have h := Int.mul_fdiv_add_fmod x 24
  have h1 := fmod_lo x (n := 24) (by omega)
  have h2 := fmod_hi x (n := 24) (by omega)
  omega
theorem ilTT_pos {x M : Int} (P : ilPre x M) : 0 < ilTT M ∧ ilTT M ≤ 1000 := by
  have h0 := P.M0
  have h1 := ndig_pos (a := M) (by omega)
  have h2 : ndig M ≤ 1921 := by
    have := int_text_len_1921 (log2_M P)
    unfold ndig; omega
  unfold ilTT
  have := fdiv24 (-10 * ndig M)
  omega
theorem big_ge : 10000 ≤ Big := by
  refine big_250 ?_
  have e : (2 : Int) ^ 1000 = 2 ^ 14 * 2 ^ 986 := by decide +kernel
  decide +kernel
theorem big_ge1 : 1000000 ≤ Big := by
  refine big_250 ?_
  decide +kernel
theorem horn_state {x M y R ys w T : Int} {pre : List Int} {k : Int} (P : ilPre x M) (_hys : ys = rshN y R) (h : ilF x M y R) (t : ilT M y R = false) (hk : 1 ≤ k)
    (hw : w = pre.foldl (horn M ys) (divN M T) ∧ (-(2 * M) ≤ w ∧ w ≤ 2 * M) ∧ intBits w ≤ 300) :
    divN M k - divN (ys * w) M = (pre ++ [k]).foldl (horn M ys) (divN M T) ∧ (-(2 * M) ≤ divN M k - divN (ys * w) M ∧ divN M k - divN (ys * w) M ≤ 2 * M) ∧ intBits (divN M k - divN (ys * w) M) ≤ 300 := by
  subst _hys
  have hb := horn_bound (k := k) P.M0 hk (ys_bound P h.jl.1 t) hw.2.1
  refine ⟨?_, hb, bits2M P hb⟩
  rw [List.foldl_append, ← hw.1]
  rfl
theorem horn_start {x M T : Int} (P : ilPre x M) (hT : 0 < T) (ys : Int) : divN M T = ([] : List Int).foldl (horn M ys) (divN M T) ∧ (-(2 * M) ≤ divN M T ∧ divN M T ≤ 2 * M) ∧ intBits (divN M T) ≤ 300 := by
  have hb := divM_bound (k := T) P.M0 hT
  exact ⟨rfl, hb, bits2M P hb⟩
@[irreducible] def ilogW (M ys : Int) : Int := (downKs (ilTT M - 1) (ilTT M - 1 - 0).toNat).foldl (horn M ys) (divN M (ilTT M))
@[irreducible] def ilogN (x M : Int) : Int := divN (ilogW M (rshN (ilLp 40 M (x - M) 0).1 (ilLp 40 M (x - M) 0).2) * (ilLp 40 M (x - M) 0).1) M
theorem ilog_end {x M y R w : Int} (h : ilF x M y R) (t : ilT M y R = false) (hw : w = (downKs (ilTT M - 1) (ilTT M - 1 - 0).toNat).foldl (horn M (rshN y R)) (divN M (ilTT M))) : divN (w * y) M = ilogN x M := by
  unfold ilogN ilogW
  rw [h.jl.stop t, hw]

end
section
@[irreducible] def log10D (p : Int) : Int := 23025850929940456840179914546843642076011014886 / 10 ^ (46 - p).toNat
theorem natAbs_divN_le {a b : Int} (hb : 0 < b) : (divN a b).natAbs ≤ a.natAbs := by
  rcases Int.le_total 0 a with h | h
  · have g1 : 0 ≤ divN a b := divN_ge hb (by omega)
    have g2 : divN a b ≤ a := divN_le hb (by
      have : 1 * a ≤ b * a := Int.mul_le_mul_of_nonneg_right (by omega) h
      omega)
    omega
  · have g1 : divN a b ≤ 0 := divN_le hb (by omega)
    have g2 : a ≤ divN a b := divN_ge hb (by
      have : 1 * (-a) ≤ b * (-a) := Int.mul_le_mul_of_nonneg_right (by omega) (by omega)
      grind)
    omega
theorem intBits_divN_le {a b : Int} {m : Nat} (hb : 0 < b) (h : intBits a ≤ m) : intBits (divN a b) ≤ m := intBits_le_of_natAbs (natAbs_divN_le hb) h
theorem ilJ_run {x M : Int} (P : ilPre x M) : ∀ (n : Nat) (y R : Int), ilJL x M y R → 40 - R.toNat = n → ∃ y' R', ilJL x M y' R' ∧ ilT M y' R' = false ∧ ilLp 40 M (x - M) 0 = (y', R')
  | 0, y, R, h, e => by have := h.1.R1; omega
  | n + 1, y, R, h, e => by
    cases t : ilT M y R with
    | false => exact ⟨y, R, h, t, h.stop t⟩
    | true => exact ilJ_run P n _ _ (h.next P t) (by have := h.1.R0; omega)
theorem ilLp_facts {x M : Int} (P : ilPre x M) : ∃ y R, ilF x M y R ∧ ilT M y R = false ∧ ilLp 40 M (x - M) 0 = (y, R) := by
  obtain ⟨y, R, h, t, e⟩ := ilJ_run P 40 (x - M) 0 (ilJL.start P) rfl
  exact ⟨y, R, h.full P, t, e⟩
theorem mem_down {a₀ : Int} {n : Nat} {k : Int} (h : k ∈ downKs a₀ n) : a₀ - (n : Int) < k ∧ k ≤ a₀ := mem_downKs h
theorem horn_foldl {x M y R : Int} (P : ilPre x M) (h : ilF x M y R) (t : ilT M y R = false) : ∀ (ks : List Int) (w : Int), (∀ k ∈ ks, 1 ≤ k) → (-(2 * M) ≤ w ∧ w ≤ 2 * M) → -(2 * M) ≤ ks.foldl (horn M (rshN y R)) w ∧ ks.foldl (horn M (rshN y R)) w ≤ 2 * M
  | [], w, _, hw => hw
  | k :: r, w, hk, hw => horn_foldl P h t r _ (fun q hq => hk q (.tail _ hq)) (horn_bound P.M0 (hk k (.head _)) (ys_bound P h.jl.1 t) hw)
theorem ilogW_bound {x M y R : Int} (P : ilPre x M) (h : ilF x M y R) (t : ilT M y R = false) : -(2 * M) ≤ ilogW M (rshN y R) ∧ ilogW M (rshN y R) ≤ 2 * M := by
  have hT := ilTT_pos P
  unfold ilogW
  refine horn_foldl P h t _ _ (fun k hk => ?_) (divM_bound P.M0 hT.1)
  have := mem_down hk
  omega
theorem ilog_bits {x M : Int} (P : ilPre x M) : intBits (ilogN x M) ≤ 600 := by
  obtain ⟨y, R, h, t, e⟩ := ilLp_facts P
  unfold ilogN
  rw [e]
  refine intBits_divN_le (by have := P.M0; omega) ?_
  exact intBits_mul_le (m := 300) (n := 300) (bits2M P (ilogW_bound P h t)) h.yb

def dl_f (c e : Int) : Int := e + ndig c - (if decide (1 ≤ e + ndig c) = true then 1 else 0)
def dl_k (c e q : Int) : Int := e + q - dl_f c e
@[irreducible] def dl_c (c e q : Int) : Int := if 0 ≤ dl_k c e q then c * 10 ^ (dl_k c e q).toNat else divN c (10 ^ (-(dl_k c e q)).toNat)
theorem ten_split {a b : Nat} (h : b ≤ a) : (10 : Int) ^ a = 10 ^ b * 10 ^ (a - b) := by
  rw [← Int.pow_add]; congr 1; omega
theorem ten_pos (k : Nat) : (0 : Int) < 10 ^ k := Int.pow_pos (by omega)
theorem ten_le {a b : Nat} (h : a ≤ b) : (10 : Int) ^ a ≤ 10 ^ b := by
  rw [ten_split h]
  have h1 := ten_pos a
  have h2 := ten_pos (b - a)
  have : (10 : Int) ^ a * 1 ≤ 10 ^ a * 10 ^ (b - a) := Int.mul_le_mul_of_nonneg_left (by omega) (by omega)
  omega
/-- the size of a number by its figures -/
theorem ndig_range {c : Int} (h : 0 < c) : 1 ≤ ndig c ∧ 10 ^ (ndig c - 1).toNat ≤ c ∧ c < 10 ^ (ndig c).toNat := by
  have h1 := ndig_pos h
  refine ⟨h1, ?_, ?_⟩
  · refine Int.not_lt.mp fun hlt => ?_
    by_cases hz : (ndig c - 1).toNat = 0
    · rw [hz, Int.pow_zero] at hlt; omega
    · have := ndig_le (Int.le_of_lt h) (by omega) hlt; omega
  · refine Int.not_le.mp fun hle => ?_
    have := ndig_gt h hle; omega
theorem scale_mul {c : Int} {l k : Nat} (h1 : 10 ^ l ≤ c) (h2 : c < 10 ^ (l + 1)) : 10 ^ (l + k) ≤ c * 10 ^ k ∧ c * 10 ^ k ≤ 10 ^ (l + 1 + k) := by
  have hp := ten_pos k
  rw [Int.pow_add, Int.pow_add]
  exact ⟨Int.mul_le_mul_of_nonneg_right h1 (by omega), Int.mul_le_mul_of_nonneg_right (by omega) (by omega)⟩
theorem scale_div {c : Int} {l k : Nat} (hk : k ≤ l) (h1 : 10 ^ l ≤ c) (h2 : c < 10 ^ (l + 1)) : 10 ^ (l - k) ≤ divN c (10 ^ k) ∧ divN c (10 ^ k) ≤ 10 ^ (l + 1 - k) := by
  refine ⟨divN_ge (ten_pos k) ?_, divN_le (ten_pos k) ?_⟩
  · rw [← ten_split hk]; exact h1
  · rw [← ten_split (by omega)]; omega
/-- the scaled coefficient lies within a decade of M -/
theorem dl_c_range {c e q : Int} (hc : 0 < c) (hq : 2 ≤ q) : (1 ≤ e + ndig c → 10 ^ q.toNat ≤ dl_c c e q ∧ dl_c c e q ≤ 10 ^ (q.toNat + 1)) ∧ (¬ 1 ≤ e + ndig c → 10 ^ (q.toNat - 1) ≤ dl_c c e q ∧ dl_c c e q ≤ 10 ^ q.toNat) := by
  obtain ⟨n1, n2, n3⟩ := ndig_range hc
  have e3 : (ndig c).toNat = (ndig c - 1).toNat + 1 := by omega
  rw [e3] at n3
  refine ⟨fun h => ?_, fun h => ?_⟩
  · have hk : dl_k c e q = q - ndig c + 1 := by
      unfold dl_k dl_f; rw [if_pos (decide_eq_true h)]; omega
    unfold dl_c
    rw [hk]
    split
    · next c1 =>
      have := scale_mul (k := (q - ndig c + 1).toNat) n2 n3
      have e1 : (ndig c - 1).toNat + (q - ndig c + 1).toNat = q.toNat := by omega
      have e2 : (ndig c - 1).toNat + 1 + (q - ndig c + 1).toNat = q.toNat + 1 := by omega
      rw [e1, e2] at this; exact this
    · next c1 =>
      have := scale_div (k := (-(q - ndig c + 1)).toNat) (by omega) n2 n3
      have e1 : (ndig c - 1).toNat - (-(q - ndig c + 1)).toNat = q.toNat := by omega
      have e2 : (ndig c - 1).toNat + 1 - (-(q - ndig c + 1)).toNat = q.toNat + 1 := by omega
      rw [e1, e2] at this; exact this
  · have hk : dl_k c e q = q - ndig c := by
      unfold dl_k dl_f; rw [if_neg (by simp; omega)]; omega
    unfold dl_c
    rw [hk]
    split
    · next c1 =>
      have := scale_mul (k := (q - ndig c).toNat) n2 n3
      have e1 : (ndig c - 1).toNat + (q - ndig c).toNat = q.toNat - 1 := by omega
      have e2 : (ndig c - 1).toNat + 1 + (q - ndig c).toNat = q.toNat := by omega
      rw [e1, e2] at this; exact this
    · next c1 =>
      have := scale_div (k := (-(q - ndig c)).toNat) (by omega) n2 n3
      have e1 : (ndig c - 1).toNat - (-(q - ndig c)).toNat = q.toNat - 1 := by omega
      have e2 : (ndig c - 1).toNat + 1 - (-(q - ndig c)).toNat = q.toNat := by omega
      rw [e1, e2] at this; exact this
theorem dl_pre {c e q : Int} (hc : 0 < c) (hq : 2 ≤ q) (hq2 : q ≤ 70) : ilPre (dl_c c e q) (10 ^ q.toNat) := by
  have h := dl_c_range (e := e) hc hq
  have e1 : (10 : Int) ^ (q.toNat + 1) = 10 * 10 ^ q.toNat := by rw [Int.pow_succ]; omega
  have e2 : (10 : Int) ^ q.toNat = 10 * 10 ^ (q.toNat - 1) := by
    have : q.toNat = q.toNat - 1 + 1 := by omega
    rw [this, Int.pow_succ]; simp; omega
  have p0 := ten_pos (q.toNat - 1)
  refine ⟨?_, ?_, ?_, ?_⟩
  · have := ten_le (a := 2) (b := q.toNat) (by omega); omega
  · refine Int.le_trans (ten_le (b := 70) (by omega)) (by decide +kernel)
  · by_cases g : 1 ≤ e + ndig c
    · have := h.1 g; omega
    · have := h.2 g; omega
  · by_cases g : 1 ≤ e + ndig c
    · have := h.1 g; omega
    · have := h.2 g; omega

end
section
theorem bits10 (n : Nat) : intBits ((10 : Int) ^ n) ≤ 4 * n + 1 := intBits_pow_le (by decide) n
theorem mul_ten {a : Int} {n : Nat} (ha : intBits a ≤ 5000000) (hn : n ≤ 1000000) : IntMulOk a (10 ^ n) :=
  IntMulOk.of_le (m := 5000000) (n := 4000001) ha (Nat.le_trans (bits10 n) (by omega)) (by decide)
theorem neg_nonneg_of {k : Int} (h : ¬ 0 ≤ k) : 0 ≤ -k := by omega
theorem neg_le_of {k : Int} (h : -2000 ≤ k) : -k ≤ 1000000 := by omega
theorem toNat_le_of {k : Int} (h : k ≤ 1000) : k.toNat ≤ 1000000 := by omega
theorem toNat_neg_of {k : Int} (h : -2000 ≤ k) : (-k).toNat ≤ 2000 := by omega
theorem bits_log2 {c : Int} (h : c.natAbs.log2 < 1920) : intBits c ≤ 5000000 := by
  refine Nat.le_trans (m := 1920) ?_ (by decide)
  rw [intBits_le_iff]
  by_cases hz : c.natAbs = 0
  · rw [hz]; exact Nat.pow_pos (by omega)
  · exact (Nat.log2_lt hz).mp h
theorem ten_big {n : Nat} (h : n ≤ 2000) : (10 : Int) ^ n ≤ Big := by
  refine Int.le_trans (ten_le h) ?_
  unfold Big
  have e1 : ((10 ^ 2000 : Nat) : Int) = (10 : Int) ^ 2000 := Int.natCast_pow 10 2000
  have e2 : ((2 ^ 8000 : Nat) : Int) = (2 : Int) ^ 8000 := Int.natCast_pow 2 8000
  rw [← e1, ← e2]
  exact Int.ofNat_le.mpr (by decide +kernel)
theorem dl_pre1 {c e q : Int} (hc : 0 < c) (hq : 2 ≤ q) (hq2 : q ≤ 70) (hk : 0 ≤ dl_k c e q) : ilPre (c * 10 ^ (dl_k c e q).toNat) (10 ^ q.toNat) := by
  have := dl_pre (e := e) hc hq hq2
  unfold dl_c at this
  rwa [if_pos hk] at this
theorem dl_pre2 {c e q : Int} (hc : 0 < c) (hq : 2 ≤ q) (hq2 : q ≤ 70) (hk : ¬ 0 ≤ dl_k c e q) : ilPre (divN c (10 ^ (-(dl_k c e q)).toNat)) (10 ^ q.toNat) := by
  have := dl_pre (e := e) hc hq hq2
  unfold dl_c at this
  rwa [if_neg hk] at this
theorem dl_kbound {c e q : Int} (h0 : 0 < c) (h : ndig c ≤ 1921) (hq : 2 ≤ q) (hq2 : q ≤ 70) : dl_k c e q ≤ 1000 ∧ -2000 ≤ dl_k c e q := by
  have := ndig_pos h0
  unfold dl_k dl_f
  split <;> omega

end
section
theorem log2_200 {c : Int} (h0 : 0 < c) (h : c ≤ 10 ^ 200) : c.natAbs.log2 < 1920 := by
  refine (Nat.log2_lt (by omega)).mpr ?_
  have e : ((10 ^ 200 : Nat) : Int) = (10 : Int) ^ 200 := Int.natCast_pow 10 200
  rw [← e] at h
  have h2 : (10 ^ 200 : Nat) < 2 ^ 1920 := by decide +kernel
  generalize (10 ^ 200 : Nat) = k at *
  omega

end
section
/-! a for with any target over a made tuple: the stored names are forgotten but for one int, of which Inv holds; the ledger stands -/
section
variable {prog : Program} {w : World} {A : Around} {E : Value → Shared → Prop} {s : Shared} {env : Env} {h₀ : Heap} {target : PySem.Expr} {body : List Stmt} {Q : Flow → Shared → Prop}
end

end
section
/-! a for over a made list or tuple, any target: one turn is walked for all; the iterator stands ahead of the ledger -/
def TurnEnd0 (h₀ : Heap) (L : Addr) (stored : List Str) (m₀ : Str → Option Value) (led : List (Addr × Obj)) (Q : Flow → Shared → Prop) (s₁ : Shared) (f : Flow) (s₂ : Shared) : Prop :=
  match f with
  | .ret v => Q (.ret v) s₂
  | .brk => Q .next s₂
  | _ => ∃ h' tk m', s₂ = { s₁ with heap := h', toks := tk } ∧ Fr h₀ L h' m' ∧ News h₀ L h' led ∧ ∀ y, stored.contains y = false → m' y = m₀ y
section
variable {prog : Program} {w : World} {A : Around} {E : Value → Shared → Prop} {s : Shared} {env : Env} {h₀ : Heap} {target : PySem.Expr} {body : List Stmt} {Q : Flow → Shared → Prop}
theorem items_zero {I : Addr} {cl : String} {keep news : List (Addr × Obj)} {m₀ : Str → Option Value} {vs : List Value} (stored : List Str) (hI : ∀ p ∈ news, p.1 < I) (hk : SubL keep news)
    (turn : ∀ (i : Nat) v (u : Str → Option Value) h tk (oI : Obj), oI.cls = .type cl → vs[i]? = some v → Fr h₀ env.locals h (fun y => if stored.contains y then u y else m₀ y) → News h₀ env.locals h ((I, oI) :: news) →
      wpAny (model prog w) A (assign target env v) (fun _ s₃ => wpAny (model prog w) A (execs body env) (TurnEnd0 h₀ env.locals stored m₀ ((I, oI) :: news) Q { s with heap := h, toks := tk }) E s₃) E { s with heap := h, toks := tk })
    (done : ∀ (u : Str → Option Value) h tk, Fr h₀ env.locals h (fun y => if stored.contains y then u y else m₀ y) → News h₀ env.locals h news → Q .next { s with heap := h, toks := tk }) :
    ∀ (n i : Nat) (m : Str → Option Value), i + n = vs.length → (∀ y, stored.contains y = false → m y = m₀ y) → ItemsRest prog w A E h₀ env target body Q s [(I, cl)] keep ((vs.drop i).map .val) m news := by
  have em : ∀ m : Str → Option Value, (∀ y, stored.contains y = false → m y = m₀ y) → m = fun y => if stored.contains y then m y else m₀ y := fun m h => by
    funext y
    cases hc : stored.contains y with
    | true => simp
    | false => simp; exact h y hc
  intro n
  induction n with
  | zero =>
    intro i m hi ha
    rw [List.drop_eq_nil_of_le (by omega)]
    intro h tk F N
    rw [em m ha] at F
    exact done m h tk F N
  | succ n ih =>
    intro i m hi ha
    have hlt : i < vs.length := by omega
    rw [List.drop_eq_getElem_cons hlt]
    intro v h tk hv F
    have hv' : v = vs[i] := hv
    intro oI hoI N
    rw [em m ha] at F
    refine wpAny_mono (turn i v m h tk oI hoI (by rw [hv']; exact List.getElem?_eq_getElem hlt) F N) (fun _ s₃ q => wpAny_mono q (fun f s₂ p => ?_) fun _ _ e => e) fun _ _ e => e
    have fin : (∃ h' tk' m', s₂ = { ({ s with heap := h, toks := tk } : Shared) with heap := h', toks := tk' } ∧ Fr h₀ env.locals h' m' ∧ News h₀ env.locals h' ((I, oI) :: news) ∧ ∀ y, stored.contains y = false → m' y = m₀ y) →
        UnrEndW h₀ env.locals { s with heap := h, toks := tk } [(I, oI)] (fun m' n' => SubL keep n' ∧ ItemsRest prog w A E h₀ env target body Q s [(I, cl)] keep ((vs.drop (i + 1)).map .val) m' n') s₂ := by
      rintro ⟨h', tk', m', e, F', N', ha'⟩
      exact ⟨h', tk', m', news, e, F', N', fun p hp q hq => by rw [List.mem_singleton.mp hq]; exact Nat.ne_of_lt (hI p hp), hk, ih (i + 1) m' (by omega) ha'⟩
    cases f with
    | ret v => exact p
    | brk => exact p
    | next => exact fin p
    | cont => exact fin p
theorem subl_one {p : Addr × Obj} {l : List (Addr × Obj)} (h : p ∈ l) : SubL [p] l := And.intro h trivial
theorem tup_zero {ax : Addr} {lo : Obj} {vs : List Value} {n : Nat} {m₀ : Str → Option Value} {news : List (Addr × Obj)} (stored : List Str)
    (hh : A.handled = none) (F : Fr h₀ env.locals s.heap m₀) (N : News h₀ env.locals s.heap news) (hm : (ax, lo) ∈ news) (hc : lo.cls = .type "tuple") (hd : lo.data = .seq vs.toArray n)
    (turn : ∀ I : Addr, (∀ p ∈ news, p.1 < I) → ∀ (i : Nat) v (u : Str → Option Value) h tk (oI : Obj), oI.cls = .type "tuple_iterator" → vs[i]? = some v → Fr h₀ env.locals h (fun y => if stored.contains y then u y else m₀ y) → News h₀ env.locals h ((I, oI) :: news) →
      wpAny (model prog w) A (assign target env v) (fun _ s₃ => wpAny (model prog w) A (execs body env) (TurnEnd0 h₀ env.locals stored m₀ ((I, oI) :: news) Q { s with heap := h, toks := tk }) E s₃) E { s with heap := h, toks := tk })
    (done : ∀ (u : Str → Option Value) h tk, Fr h₀ env.locals h (fun y => if stored.contains y then u y else m₀ y) → News h₀ env.locals h news → Q .next { s with heap := h, toks := tk }) :
    wpAny (model prog w) A (pyIter (.ref ax)) (fun it s₂ => TurnsAt prog w A h₀ env target body Q E it s₂) E s :=
  iter_tupTurns hh F N hm hc hd fun I hI => items_zero stored hI (subl_one hm) (turn I hI) done vs.length 0 m₀ (by omega) (fun _ _ => rfl)
end

end
section
/-! a list comprehension over a tuple that the call has made -/
def SrcTup (h₀ : Heap) (ax : Addr) (its : Array Value) (news : List (Addr × Obj)) : Prop := h₀.IsTuple ax its ∨ ∃ o, (ax, o) ∈ news ∧ o.cls = .type "tuple" ∧ ∃ n, o.data = .seq its n
theorem SrcTup.tup {h₀ h : Heap} {L ax : Addr} {its : Array Value} {news : List (Addr × Obj)} (x : SrcTup h₀ ax its news) (k : ∀ b o, h₀.get? b = some o → h.get? b = some o) (N : News h₀ L h news) : h.IsTuple ax its := by
  rcases x with ⟨o, e, r⟩ | ⟨o, hm, r⟩
  · exact ⟨o, k _ _ e, r⟩
  · exact ⟨o, (N _ hm).1, r⟩
theorem tup_st {h₀ : Heap} {L ax I : Addr} {its : Array Value} : ∀ i (h h' : Heap) (o : Obj) (nw : List (Addr × Obj)), (h.IsTupleIter I ax i ∧ h.IsTuple ax its) → h.get? I = some o → h'.get? I = some o → (∀ b o, h₀.get? b = some o → h'.get? b = some o) → News h₀ L h' nw → SrcTup h₀ ax its nw → (h'.IsTupleIter I ax i ∧ h'.IsTuple ax its) :=
  fun i h h' o nw st e e' k N S => ⟨by obtain ⟨o', q, r⟩ := st.1; rw [e] at q; cases q; exact ⟨o, e', r⟩, S.tup k N⟩
def CompSrcV (prog : Program) (w : World) (A : Around) (h₀ : Heap) (L : Addr) (m : Str → Option Value) (env : Env) (elt : Expr) (x : Str) (scope : Scope) (cl : List (Str × Addr)) (Fin : Shared → List Value → List (Addr × Obj) → Prop) (xv : Value) (s₁ : Shared) : Prop :=
  ∃ ax its news, xv = .ref ax ∧ A.handled = none ∧ Fr h₀ L s₁.heap m ∧ News h₀ L s₁.heap news ∧ SrcTup h₀ ax its news ∧ its.size ≤ sizeLine ∧
    ∀ s₂ : Shared, (∃ h, s₂ = { s₁ with heap := h }) → LCg.CompRest prog w A h₀ L m env elt x scope cl s₂ (SrcTup h₀ ax its) (fun i v => its[i]? = some v) (Fin s₂) its.size 0 [] news
section
variable {prog : Program} {w : World} {A : Around} {E : Value → Shared → Prop} {s : Shared} {h₀ : Heap} {L : Addr} {m : Str → Option Value} {env : Env}
theorem CompSrcV.intro {elt : Expr} {x : Str} {scope : Scope} {cl : List (Str × Addr)} {Fin : Shared → List Value → List (Addr × Obj) → Prop} {ax : Addr} {its : Array Value} {k : Nat} {news : List (Addr × Obj)} {s₁ : Shared}
    (hh : A.handled = none) (F : Fr h₀ L s₁.heap m) (N : News h₀ L s₁.heap news) (hm : (ax, ({ cls := .type "tuple", data := .seq its k } : Obj)) ∈ news) (hsz : its.size ≤ sizeLine)
    (h : ∀ g, LCg.CompRest prog w A h₀ L m env elt x scope cl { s₁ with heap := g } (SrcTup h₀ ax its) (fun i v => its[i]? = some v) (Fin { s₁ with heap := g }) its.size 0 [] news) :
    CompSrcV prog w A h₀ L m env elt x scope cl Fin (.ref ax) s₁ := ⟨ax, its, news, rfl, hh, F, N, .inr ⟨_, hm, rfl, _, rfl⟩, hsz, fun _ ⟨g, e⟩ => e ▸ h g⟩
theorem ListComp_V {elt iter : Expr} {x : Str} {px : Pos} {scope : Scope} {cl : List (Str × Addr)} {pos : Pos} {Q : Value → Shared → Prop} (F₀ : Fr h₀ L s.heap m)
    (hclos : closureFor scope env = pure cl) (hcell : ∀ y ∈ scope.names, y.2 ≠ .cell) (hkind : scope.kind = .function)
    (hnames : ∀ y ∈ scope.names, y.2 = .local → scope.names.lookup y.1 = some .local) (hx : scope.names.lookup x = some .local)
    (h : wpAny (model prog w) A (eval iter env) (CompSrcV prog w A h₀ L m env elt x scope cl (fun s₂ => LCg.FinE h₀ L m s₂ Q)) E s)
    (hs : ∀ x, foldedSetIterable iter env x = pure x := by intro _; rfl) :
    wpAny (model prog w) A (eval (.ListComp elt [⟨.Name x px, iter, [], 0⟩] scope pos) env) Q E s := by
  rw [eval_ListComp]
  refine wpAny_comprehension_free (use := none) rfl hs hclos hkind hnames (wpAny_mono h (fun xv s₁ h₁ => ?_) fun _ _ e => e)
  obtain ⟨ax, its, news, rfl, hh, F, N, S, hsz, R⟩ := h₁
  have hl := S.tup F.keep N
  have hlt : ax < s₁.heap.objs.size := by obtain ⟨_, e, _⟩ := hl; exact Heap.lt_size e
  refine wpAny_pyIter_tuple hl ?_
  have up : ∀ b o, s₁.heap.get? b = some o → (s₁.heap.push { cls := .type "tuple_iterator", data := .fields #[.ref ax, .int 0 0] }).get? b = some o := fun b o e => Heap.get?_push_of_some _ e
  refine LCg.block_U (Walks.tuple hh s₁.heap.objs.size ax (Nat.ne_of_lt hlt) its) hsz (fun i h st => by obtain ⟨o, e, _⟩ := st.1; exact ⟨o, e⟩) tup_st hcell hkind hx ⟨⟨_, Heap.get?_push_size _ rfl, rfl, rfl⟩, hl.push _⟩ (fun b hb => ?_)
    (F.keeps up) (N.grown up) (Nat.ne_of_lt F.ns.lt) (next_is_new F) (fun p hp => Nat.ne_of_lt (Heap.lt_size (N p hp).1)) S (R _ ⟨_, rfl⟩) ?_
  · show b < (s₁.heap.push _).objs.size
    rw [Heap.size_push]
    rcases List.mem_cons.mp hb with rfl | hb
    · exact Nat.lt_succ_self _
    · rw [List.mem_singleton.mp hb]; exact Nat.lt_succ_of_lt hlt
  · intro D C h tk m' ys news' F' N' o1 hn hC₀ hD₀ hCL hDL hCD offC fin
    refine ⟨m', hn, fun h'' hs'' => fin D h'' tk (F'.change hs'' hCL hC₀) (fun p hp => ?_) o1⟩
    refine ⟨hs''.extBut _ _ ?_ (N' p hp).1, (N' p hp).2⟩
    rcases List.mem_cons.mp hp with rfl | hp
    · exact Ne.symm hCD
    · exact offC p hp
theorem CompEnd_one {s₁ : Shared} {I C D D' : Addr} {oI oC oD o' : Obj} {S : List (Addr × Obj) → Prop} {rest : Value → List (Addr × Obj) → Prop} {y : Value} {h' : Heap} {tk : Nat} {news : List (Addr × Obj)}
    (F : Fr h₀ L h' m) (N : News h₀ L h' ((D', o') :: (I, oI) :: (C, oC) :: (D, oD) :: news)) (h1 : D' ≠ I) (h2 : D' ≠ C) (h3 : D' ≠ D) (off : LCg.Off3 I C D news) (hS : S ((D', o') :: news)) (r : rest y ((D', o') :: news)) :
    LCg.CompEnd h₀ L m s₁ I oI C oC D oD S rest y { s₁ with heap := h', toks := tk } :=
  LCg.CompEnd.intro F N ((D', o') :: news) (fun p hp => by
    simp only [List.mem_cons] at hp ⊢
    rcases hp with h | h | h | h | h
    · exact .inr (.inl h)
    · exact .inr (.inr (.inl h))
    · exact .inr (.inr (.inr (.inl h)))
    · exact .inl h
    · exact .inr (.inr (.inr (.inr h)))) ⟨⟨h1, h2, h3⟩, off⟩ hS r
end

end
section
theorem divN_uniq {a b q : Int} (hb : 0 < b) (h1 : -b ≤ 2 * (a - b * q)) (h2 : 2 * (a - b * q) ≤ b) (h3 : 2 * (a - b * q) = b ∨ 2 * (a - b * q) = -b → q % 2 = 0) : divN a b = q := by
  have n := divN_near (a := a) hb
  have e := divN_even (a := a) hb
  generalize divN a b = r at *
  rcases Int.lt_trichotomy r q with h | h | h
  · exfalso
    have k : b * (r + 1) ≤ b * q := Int.mul_le_mul_of_nonneg_left (by omega) (by omega)
    have e1 : b * (r + 1) = b * r + b := by grind
    have e2 : b * q = b * r + b := by omega
    have e3 : q = r + 1 := by
      refine Int.le_antisymm (Int.not_lt.mp fun hlt => ?_) (by omega)
      have : b * (r + 2) ≤ b * q := Int.mul_le_mul_of_nonneg_left (by omega) (by omega)
      have e4 : b * (r + 2) = b * r + b + b := by grind
      omega
    have a1 := e (by omega)
    have a2 := h3 (by omega)
    omega
  · exact h
  · exfalso
    have k : b * (q + 1) ≤ b * r := Int.mul_le_mul_of_nonneg_left (by omega) (by omega)
    have e1 : b * (q + 1) = b * q + b := by grind
    have e3 : r = q + 1 := by
      refine Int.le_antisymm (Int.not_lt.mp fun hlt => ?_) (by omega)
      have : b * (q + 2) ≤ b * r := Int.mul_le_mul_of_nonneg_left (by omega) (by omega)
      have e4 : b * (q + 2) = b * q + b + b := by grind
      omega
    have e2 : b * r = b * q + b := by rw [e3]; exact e1
    have a1 := e (by omega)
    have a2 := h3 (by omega)
    omega
theorem ndig_of {c : Int} {k : Int} (hk : 1 ≤ k) (h1 : 10 ^ (k - 1).toNat ≤ c) (h2 : c < 10 ^ k.toNat) : ndig c = k := by
  have := ndig_eq (a := c) (k := (k - 1).toNat) h1 (by
    have e : (k - 1).toNat + 1 = k.toNat := by omega
    rw [e]; exact h2)
  omega

end
section
structure P01 (n j f t : Int) : Prop where
  f1 : 10 ^ (n - 1).toNat ≤ f
  f2 : f < 10 ^ n.toNat
  t1 : 0 ≤ t
  t2 : t < 10 ^ j.toNat
/-- sizes -/
theorem P01.pos {n j f t : Int} (P : P01 n j f t) : 0 < f := by
  have := ten_pos (n - 1).toNat; have := P.f1; omega
theorem P01.bits {n j f t : Int} (P : P01 n j f t) (hn : n ≤ 100) : intBits f ≤ 5000000 := by
  have h0 := P.pos
  have h2 := P.f2
  refine Nat.le_trans (m := 4 * n.toNat + 1) ?_ (by omega)
  refine intBits_le_of_natAbs (y := 10 ^ n.toNat) ?_ (bits10 _)
  omega
theorem P01.near {n j f t : Int} (P : P01 n j f t) (hn : n ≤ 100) : (0 < f ∧ f ≤ 10 ^ 200) ∧ (0 < f + 1 ∧ f + 1 ≤ 10 ^ 200) := by
  have h0 := P.pos
  have h2 := P.f2
  have h3 : (10 : Int) ^ n.toNat ≤ 10 ^ 200 := ten_le (by omega)
  generalize (10 : Int) ^ 200 = k at *
  omega
theorem bits_sm {a : Int} (h1 : -1000000 ≤ a) (h2 : a ≤ 1000000) : intBits a ≤ 64 := intBits_le_64 (by omega) (by omega)
def In01 (i : Nat) (d : Int) : Prop := 0 ≤ d ∧ intBits d ≤ 1500000 + i
theorem In01.le {i : Nat} {d : Int} (h : In01 i d) (hi : i < 4) : 0 ≤ d ∧ intBits d ≤ 2000000 := ⟨h.1, by have := h.2; omega⟩
abbrev tup2 (f : Int) (a : Tok) (t : Int) (b : Tok) (k : Nat) : Obj := { cls := .type "tuple", data := .seq #[.int f a, .int t b] k }

end
section
/-! the chain of roots, held against written chains: q (r+1) ^ 2 against q r, q r = Q r / S -/
theorem mono2 {a b c : Int} (h : a ≤ b) (hc : 0 ≤ c) : c * a ≤ c * b := Int.mul_le_mul_of_nonneg_left h hc

end
section
@[irreducible] def dlF (f q : Int) : Int := if f = 0 then 0 else divN (f * log10D (q + (ndig (if f < 0 then -f else f) - 1))) (10 ^ (ndig (if f < 0 then -f else f) - 1).toNat)
@[irreducible] def dlogN (c e p : Int) : Int := divN (dlF (dl_f c e) (p + 2) + ilogN (dl_c c e (p + 2)) (10 ^ (p + 2).toNat)) 100

end
section
/-- the law's own logarithm: n turns at most -/
def llog : Nat → Int → Int → Int → Int → Int → Int
  | 0, _, _, _, _, tot => tot
  | n + 1, d2, s2, part, k, tot => if 0 < part then llog n d2 s2 ((part * d2).fdiv s2) (k + 2) (tot + part.fdiv k) else tot
@[irreducible] def lawLog (a b unit : Int) : Int := llog 250 ((a - b) ^ Int.toNat 2) ((a + b) ^ Int.toNat 2) ((2 * unit * (a - b)).fdiv (a + b)) 1 0
structure LgPre (a b unit : Int) : Prop where
  b0 : 0 < b
  ab : b ≤ a
  a2 : a ≤ 2 * b
  a1 : a ≤ 10 ^ 60
  u0 : 0 ≤ unit
  u1 : unit ≤ 10 ^ 70
structure LgF (d2 s2 : Int) : Prop where
  d0 : 0 ≤ d2
  s0 : 0 < s2
  ds : 2 * d2 ≤ s2
  sB : s2 ≤ Big
  db : intBits d2 ≤ 1000
theorem LgPre.f {a b unit : Int} (h : LgPre a b unit) : LgF ((a - b) ^ Int.toNat 2) ((a + b) ^ Int.toNat 2) := by
  obtain ⟨b0, ab, a2, a1, u0, u1⟩ := h
  have e1 : (a - b) ^ Int.toNat 2 = (a - b) * (a - b) := by show (a - b) ^ 2 = _; rw [Int.pow_succ, Int.pow_succ, Int.pow_zero, Int.one_mul]
  have e2 : (a + b) ^ Int.toNat 2 = (a + b) * (a + b) := by show (a + b) ^ 2 = _; rw [Int.pow_succ, Int.pow_succ, Int.pow_zero, Int.one_mul]
  rw [e1, e2]
  have h3 : 3 * (a - b) ≤ a + b := by omega
  have k1 : (3 * (a - b)) * (3 * (a - b)) ≤ (a + b) * (a + b) := mul_lo (by omega) (by omega) h3 h3
  have k2 : 0 ≤ (a - b) * (a - b) := Int.mul_nonneg (by omega) (by omega)
  have e3 : (3 * (a - b)) * (3 * (a - b)) = 9 * ((a - b) * (a - b)) := by grind
  have k3 : (a + b) * (a + b) ≤ (10 ^ 61) * 10 ^ 61 := by
    have : (10 : Int) ^ 61 = 10 * 10 ^ 60 := by decide +kernel
    have : a + b ≤ 10 ^ 61 := by generalize (10 : Int) ^ 60 = k at *; generalize (10 : Int) ^ 61 = k2 at *; omega
    exact mul_lo (by omega) (by omega) this this
  rw [← Int.pow_add] at k3
  refine ⟨k2, Int.mul_pos (by omega) (by omega), by omega, Int.le_trans k3 (ten_big (by decide)), ?_⟩
  refine Nat.le_trans (intBits_le_of_natAbs (y := 10 ^ 122) ?_ (bits10 122)) (by decide)
  generalize (10 : Int) ^ 122 = z at *
  omega
/-- between the turns -/
def GJ (d2 s2 p0 tot part k : Int) : Prop := ∃ n : Nat, n ≤ 250 ∧ k = 2 * (250 - (n : Int)) + 1 ∧ part < 2 ^ n ∧ llog n d2 s2 part k tot = llog 250 d2 s2 p0 1 0
theorem GJ.start {d2 s2 p0 : Int} (h0 : 0 ≤ p0) (h : p0 < 2 ^ 250) : (0 ≤ p0 ∧ ((1 : Int) ≤ 1 ∧ (1 : Int) ≤ 1000)) ∧ intBits p0 ≤ 1000 ∧ GJ d2 s2 p0 0 p0 1 :=
  ⟨⟨h0, by decide, by decide⟩, Nat.le_trans (bits_of_le (m := 250) (by generalize (2 : Int) ^ 250 = z at *; omega) h) (by decide), 250, by omega, by omega, h, rfl⟩
theorem fdiv_half {d2 s2 part : Int} (F : LgF d2 s2) (hp : 0 < part) : 0 ≤ (part * d2).fdiv s2 ∧ 2 * (part * d2).fdiv s2 ≤ part := by
  obtain ⟨d0, s0, ds, sB, db⟩ := F
  have hq := Int.mul_fdiv_add_fmod (part * d2) s2
  have hq1 := fmod_lo (part * d2) s0
  have hq2 := fmod_hi (part * d2) s0
  have n0 : 0 ≤ part * d2 := Int.mul_nonneg (by omega) d0
  generalize (part * d2).fdiv s2 = q at *
  generalize (part * d2).fmod s2 = r at *
  have q0 : 0 ≤ q := by
    refine Int.not_lt.mp fun hlt => ?_
    have : s2 * q ≤ s2 * (-1) := mono2 (by omega) (by omega)
    omega
  refine ⟨q0, ?_⟩
  have k1 : part * (2 * d2) ≤ part * s2 := mono2 ds (by omega)
  have e1 : part * (2 * d2) = 2 * (part * d2) := by grind
  refine Int.le_of_mul_le_mul_left (a := s2) ?_ s0
  have e2 : s2 * (2 * q) = 2 * (s2 * q) := by grind
  have e3 : s2 * part = part * s2 := Int.mul_comm _ _
  omega
theorem GJ.next {d2 s2 p0 tot part k : Int} (F : LgF d2 s2) (h : GJ d2 s2 p0 tot part k) (hp : 0 < part) : (0 ≤ (part * d2).fdiv s2 ∧ (1 ≤ k + 2 ∧ k + 2 ≤ 1000)) ∧ intBits ((part * d2).fdiv s2) ≤ 1000 ∧ GJ d2 s2 p0 (tot + part.fdiv k) ((part * d2).fdiv s2) (k + 2) := by
  obtain ⟨n, h1, h2, h3, h4⟩ := h
  obtain ⟨q0, q2⟩ := fdiv_half F hp
  have n0 : n ≠ 0 := by
    intro e; subst e
    rw [Int.pow_zero] at h3; omega
  obtain ⟨m, rfl⟩ : ∃ m, n = m + 1 := ⟨n - 1, by omega⟩
  rw [Int.pow_succ] at h3
  refine ⟨⟨q0, by omega, by omega⟩, ?_, m, by omega, by omega, by omega, ?_⟩
  · exact Nat.le_trans (bits_of_le (m := m) (by generalize (2 : Int) ^ m = z at *; omega) (by omega)) (by omega)
  · rw [← h4]
    show _ = if 0 < part then llog m d2 s2 ((part * d2).fdiv s2) (k + 2) (tot + part.fdiv k) else tot
    rw [if_pos hp]
theorem GJ.meas {d2 s2 part : Int} (F : LgF d2 s2) (hp : 0 < part) : ((part * d2).fdiv s2).toNat < part.toNat := by
  obtain ⟨q0, q2⟩ := fdiv_half F hp
  omega
theorem GJ.done {a b unit tot part k : Int} (h : GJ ((a - b) ^ Int.toNat 2) ((a + b) ^ Int.toNat 2) ((2 * unit * (a - b)).fdiv (a + b)) tot part k) (hp : ¬ 0 < part) : tot = lawLog a b unit := by
  obtain ⟨n, h1, h2, h3, h4⟩ := h
  unfold lawLog
  rw [← h4]
  cases n with
  | zero => rfl
  | succ m =>
    show tot = if 0 < part then _ else tot
    rw [if_neg hp]
theorem LgPre.p0 {a b unit : Int} (h : LgPre a b unit) : 0 ≤ (2 * unit * (a - b)).fdiv (a + b) ∧ (2 * unit * (a - b)).fdiv (a + b) < 2 ^ 250 := by
  obtain ⟨b0, ab, a2, a1, u0, u1⟩ := h
  have n0 : 0 ≤ 2 * unit * (a - b) := Int.mul_nonneg (by omega) (by omega)
  have k1 : (2 * unit) * (a - b) ≤ (2 * unit) * (a + b) := mono2 (by omega) (by omega)
  have hq := Int.mul_fdiv_add_fmod (2 * unit * (a - b)) (a + b)
  have hq1 := fmod_lo (2 * unit * (a - b)) (n := a + b) (by omega)
  have hq2 := fmod_hi (2 * unit * (a - b)) (n := a + b) (by omega)
  generalize (2 * unit * (a - b)).fdiv (a + b) = q at *
  generalize (2 * unit * (a - b)).fmod (a + b) = r at *
  constructor
  · refine Int.not_lt.mp fun hlt => ?_
    have : (a + b) * q ≤ (a + b) * (-1) := mono2 (by omega) (by omega)
    omega
  · have k2 : q ≤ 2 * unit := by
      refine Int.le_of_mul_le_mul_left (a := a + b) ?_ (by omega)
      have : (a + b) * (2 * unit) = (2 * unit) * (a + b) := Int.mul_comm _ _
      omega
    have k3 : (2 : Int) * 10 ^ 70 < 2 ^ 250 := by decide +kernel
    generalize (10 : Int) ^ 70 = z at *
    generalize (2 : Int) ^ 250 = z2 at *
    omega
theorem LgPre.bits {a b unit : Int} (h : LgPre a b unit) : intBits (2 * unit) ≤ 1000 ∧ intBits (a - b) ≤ 1000 ∧ intBits (a + b) ≤ 1000 ∧ a + b ≤ Big ∧ 0 < a + b ∧ intBits unit ≤ 1000 := by
  obtain ⟨b0, ab, a2, a1, u0, u1⟩ := h
  have k1 : (10 : Int) ^ 61 = 10 * 10 ^ 60 := by decide +kernel
  have k2 : (10 : Int) ^ 71 = 10 * 10 ^ 70 := by decide +kernel
  refine ⟨Nat.le_trans (intBits_le_of_natAbs (y := 10 ^ 71) ?_ (bits10 71)) (by decide), Nat.le_trans (intBits_le_of_natAbs (y := 10 ^ 61) ?_ (bits10 61)) (by decide), Nat.le_trans (intBits_le_of_natAbs (y := 10 ^ 61) ?_ (bits10 61)) (by decide), Int.le_trans ?_ (ten_big (n := 61) (by decide)), by omega, Nat.le_trans (intBits_le_of_natAbs (y := 10 ^ 71) ?_ (bits10 71)) (by decide)⟩ <;>
    (generalize (10 : Int) ^ 60 = z at *; generalize (10 : Int) ^ 61 = z1 at *; generalize (10 : Int) ^ 70 = z2 at *; generalize (10 : Int) ^ 71 = z3 at *; omega)
theorem mul_1000 {a b : Int} (ha : intBits a ≤ 1000) (hb : intBits b ≤ 1000) : IntMulOk a b := IntMulOk.of_le ha hb (by decide)

end
section
/-! written forms in two letters: hv [c0, c1, .., cn] d M = c0 * M ^ n + c1 * d * M ^ (n - 1) + .. + cn * d ^ n -/
def hv : List Int → Int → Int → Int
  | [], _, _ => 0
  | c :: cs, d, M => c * M ^ cs.length + d * hv cs d M
theorem hv_append (xs ys : List Int) (d M : Int) : hv (xs ++ ys) d M = hv xs d M * M ^ ys.length + d ^ xs.length * hv ys d M := by
  induction xs with
  | nil => simp [hv]
  | cons c cs ih =>
    show c * M ^ (cs ++ ys).length + d * hv (cs ++ ys) d M = (c * M ^ cs.length + d * hv cs d M) * M ^ ys.length + d ^ (cs.length + 1) * hv ys d M
    rw [ih, List.length_append, Int.pow_add, Int.pow_succ]
    grind
theorem hv_neg (xs : List Int) (d M : Int) : hv (xs.map (fun c => -c)) d M = -hv xs d M := by
  induction xs with
  | nil => simp [hv]
  | cons c cs ih =>
    show -c * M ^ (cs.map (fun c => -c)).length + d * hv (cs.map (fun c => -c)) d M = -(c * M ^ cs.length + d * hv cs d M)
    rw [ih, List.length_map]
    grind
theorem hv_add : ∀ (xs ys : List Int) (d M : Int), xs.length = ys.length → hv (List.zipWith (· + ·) xs ys) d M = hv xs d M + hv ys d M
  | [], [], _, _, _ => by simp [hv]
  | x :: xs, y :: ys, d, M, h => by
    have hl : xs.length = ys.length := by simpa using h
    show (x + y) * M ^ (List.zipWith (· + ·) xs ys).length + d * hv (List.zipWith (· + ·) xs ys) d M = (x * M ^ xs.length + d * hv xs d M) + (y * M ^ ys.length + d * hv ys d M)
    rw [hv_add xs ys d M hl, List.length_zipWith, hl, Nat.min_self]
    grind
  | [], y :: ys, _, _, h => by simp at h
  | x :: xs, [], _, _, h => by simp at h
theorem hv_scale (k : Int) (xs : List Int) (d M : Int) : hv (xs.map (fun c => k * c)) d M = k * hv xs d M := by
  induction xs with
  | nil => simp [hv]
  | cons c cs ih =>
    show k * c * M ^ (cs.map (fun c => k * c)).length + d * hv (cs.map (fun c => k * c)) d M = k * (c * M ^ cs.length + d * hv cs d M)
    rw [ih, List.length_map]
    grind
/-- times 2 M + d -/
def mulS (xs : List Int) : List Int := List.zipWith (· + ·) ((xs.map (fun c => 2 * c)) ++ [0]) (0 :: xs)
theorem mulS_len (xs : List Int) : (mulS xs).length = xs.length + 1 := by simp [mulS]
theorem hv_mulS (xs : List Int) (d M : Int) : hv (mulS xs) d M = (2 * M + d) * hv xs d M := by
  unfold mulS
  rw [hv_add _ _ _ _ (by simp), hv_append, hv_scale]
  show 2 * hv xs d M * M ^ 1 + d ^ _ * (0 * M ^ 0 + d * 0) + (0 * M ^ xs.length + d * hv xs d M) = _
  rw [Int.pow_succ, Int.pow_zero]
  grind
def mulSn : Nat → List Int → List Int
  | 0, xs => xs
  | n + 1, xs => mulSn n (mulS xs)
theorem hv_mulSn (n : Nat) : ∀ (xs : List Int) (d M : Int), hv (mulSn n xs) d M = (2 * M + d) ^ n * hv xs d M := by
  induction n with
  | zero => intro xs d M; simp [mulSn]
  | succ n ih =>
    intro xs d M
    show hv (mulSn n (mulS xs)) d M = _
    rw [ih, hv_mulS, Int.pow_succ]
    grind
theorem mulSn_len (n : Nat) : ∀ (xs : List Int), (mulSn n xs).length = xs.length + n := by
  induction n with
  | zero => intro xs; rfl
  | succ n ih =>
    intro xs
    show (mulSn n (mulS xs)).length = _
    rw [ih, mulS_len]; omega
/-- the form in d and 2 M + d as a form in d and M -/
def exS : List Int → List Int
  | [] => []
  | c :: cs => List.zipWith (· + ·) (mulSn cs.length [c]) (0 :: exS cs)
theorem exS_len : ∀ (xs : List Int), (exS xs).length = xs.length
  | [] => rfl
  | c :: cs => by
    show (List.zipWith (· + ·) (mulSn cs.length [c]) (0 :: exS cs)).length = _
    rw [List.length_zipWith, mulSn_len]
    simp [exS_len cs]
    omega
theorem hv_exS (d M : Int) : ∀ (xs : List Int), hv (exS xs) d M = hv xs d (2 * M + d)
  | [] => rfl
  | c :: cs => by
    show hv (List.zipWith (· + ·) (mulSn cs.length [c]) (0 :: exS cs)) d M = c * (2 * M + d) ^ cs.length + d * hv cs d (2 * M + d)
    rw [hv_add _ _ _ _ (by rw [mulSn_len]; simp [exS_len cs]; omega), hv_mulSn]
    show (2 * M + d) ^ cs.length * (c * M ^ 0 + d * 0) + (0 * M ^ (exS cs).length + d * hv (exS cs) d M) = _
    rw [hv_exS d M cs, Int.pow_zero]
    grind
theorem hv_zeros (n : Nat) (d M : Int) : hv (List.replicate n 0) d M = 0 := by
  induction n with
  | zero => rfl
  | succ n ih =>
    show 0 * M ^ _ + d * hv (List.replicate n 0) d M = 0
    rw [ih]; simp
/-- sizes -/
def asum : List Int → Int
  | [] => 0
  | c :: cs => (c.natAbs : Int) + asum cs
theorem asum_nonneg : ∀ (xs : List Int), 0 ≤ asum xs
  | [] => Int.le_refl _
  | c :: cs => by have := asum_nonneg cs; show 0 ≤ (c.natAbs : Int) + asum cs; omega
theorem absmul {a b A B : Int} (ha : -A ≤ a ∧ a ≤ A) (hb : -B ≤ b ∧ b ≤ B) : -(A * B) ≤ a * b ∧ a * b ≤ A * B := by
  have c1 : 0 ≤ (A - a) * (B - b) := Int.mul_nonneg (by omega) (by omega)
  have c2 : 0 ≤ (A + a) * (B + b) := Int.mul_nonneg (by omega) (by omega)
  have c3 : 0 ≤ (A - a) * (B + b) := Int.mul_nonneg (by omega) (by omega)
  have c4 : 0 ≤ (A + a) * (B - b) := Int.mul_nonneg (by omega) (by omega)
  constructor <;> grind
theorem hv_bound {d M : Int} (hM : 0 ≤ M) (hd : -M ≤ d ∧ d ≤ M) : ∀ (xs : List Int), -(asum xs * M ^ xs.length) ≤ M * hv xs d M ∧ M * hv xs d M ≤ asum xs * M ^ xs.length
  | [] => by simp [hv, asum]
  | c :: cs => by
    obtain ⟨h1, h2⟩ := hv_bound hM hd cs
    have a := absmul hd ⟨h1, h2⟩
    have p : 0 ≤ M ^ (cs.length + 1) := Int.pow_nonneg hM
    have b := absmul (a := c) (A := (c.natAbs : Int)) (b := M ^ (cs.length + 1)) (B := M ^ (cs.length + 1)) ⟨by omega, by omega⟩ ⟨by omega, by omega⟩
    show -(((c.natAbs : Int) + asum cs) * M ^ (cs.length + 1)) ≤ M * (c * M ^ cs.length + d * hv cs d M) ∧ M * (c * M ^ cs.length + d * hv cs d M) ≤ ((c.natAbs : Int) + asum cs) * M ^ (cs.length + 1)
    have e1 : M * (c * M ^ cs.length + d * hv cs d M) = c * M ^ (cs.length + 1) + d * (M * hv cs d M) := by
      rw [Int.pow_succ]; grind
    have e2 : ((c.natAbs : Int) + asum cs) * M ^ (cs.length + 1) = (c.natAbs : Int) * M ^ (cs.length + 1) + M * (asum cs * M ^ cs.length) := by
      rw [Int.pow_succ]; grind
    rw [e1, e2]
    generalize d * (M * hv cs d M) = u at *
    generalize M * (asum cs * M ^ cs.length) = v at *
    generalize c * M ^ (cs.length + 1) = x at *
    generalize (c.natAbs : Int) * M ^ (cs.length + 1) = y at *
    omega

end
section
/-! Horner's scheme against the written form -/
/-- the least common multiple of 1 .. 25 -/
abbrev Q25 : Int := 26771144400
theorem q25 : ∀ k : Fin 26, 1 ≤ k.val → (k.val : Int) * (Q25 / (k.val : Int)) = Q25 := by decide +kernel
theorem q25i {k : Int} (h1 : 1 ≤ k) (h2 : k ≤ 25) : k * (Q25 / k) = Q25 ∧ 0 ≤ Q25 / k := by
  obtain ⟨m, rfl⟩ := Int.eq_ofNat_of_zero_le (by omega : 0 ≤ k)
  exact ⟨q25 ⟨m, by omega⟩ (by show 1 ≤ m; omega), Int.ediv_nonneg (by decide) (by omega)⟩
def cstep (cs : List Int) (k : Int) : List Int := (Q25 / k) :: cs.map (fun c => -c)
structure HE (M d N e : Int) (w : Int) (cs : List Int) : Prop where
  ne : cs ≠ []
  lo : -(e * (Q25 * M ^ (cs.length - 1))) ≤ N * (w * (Q25 * M ^ (cs.length - 1)) - M * hv cs d M)
  hi : N * (w * (Q25 * M ^ (cs.length - 1)) - M * hv cs d M) ≤ e * (Q25 * M ^ (cs.length - 1))
theorem he_start {M d N e T : Int} (hM : 0 < M) (h1 : 1 ≤ T) (h2 : T ≤ 25) (hN : 0 ≤ N) (he : N ≤ 2 * e) : HE M d N e (divN M T) [Q25 / T] := by
  obtain ⟨q1, q2⟩ := q25i h1 h2
  have n := divN_near (a := M) (b := T) (by omega)
  refine ⟨by simp, ?_, ?_⟩ <;>
    (show _ ≤ _
     generalize divN M T = w at *
     generalize Q25 / T = q at *
     simp only [List.length_singleton, Nat.sub_self, Int.pow_zero, Int.mul_one, hv, List.length_nil, Int.mul_zero, Int.add_zero]
     rw [← q1]
     have k1 : (N * q) * (2 * (M - T * w)) ≤ (N * q) * T := mono2 n.2 (Int.mul_nonneg hN q2)
     have k2 : (N * q) * (-T) ≤ (N * q) * (2 * (M - T * w)) := mono2 n.1 (Int.mul_nonneg hN q2)
     have k3 : (T * q) * N ≤ (T * q) * (2 * e) := mono2 he (Int.mul_nonneg (by omega) q2)
     grind)
/-- one step: the error is that of the rounding of M / k (u2 / 2 units), a half, and the error before times d / M -/
theorem he_step {M d N e e' b k w u2 : Int} {cs : List Int} (hM : 0 < M) (hk1 : 1 ≤ k) (hk2 : k ≤ 25) (hN : 0 < N) (hb : -(b * M) ≤ N * d ∧ N * d ≤ b * M) (hu : -u2 ≤ 2 * (M - k * divN M k) ∧ 2 * (M - k * divN M k) ≤ u2) (hu2 : u2 ≤ k) (u0 : 0 ≤ u2) (hue : N * N * u2 + k * (N * N) + 2 * k * (b * e) ≤ 2 * k * (e' * N))
    (h : HE M d N e w cs) : HE M d N e' (horn M d w k) (cstep cs k) := by
  obtain ⟨ne, lo, hi⟩ := h
  obtain ⟨q1, q2⟩ := q25i hk1 hk2
  have n := divN_near (a := d * w) (b := M) hM
  have hl : (cstep cs k).length - 1 = (cs.length - 1) + 1 := by
    have : cs.length ≠ 0 := by simpa using ne
    simp [cstep]; omega
  have ec : hv (cstep cs k) d M = (Q25 / k) * M ^ (cs.length - 1 + 1) - d * hv cs d M := by
    have : cs.length - 1 + 1 = cs.length := by
      have : cs.length ≠ 0 := by simpa using ne
      omega
    show (Q25 / k) * M ^ (cs.map (fun c => -c)).length + d * hv (cs.map (fun c => -c)) d M = _
    rw [hv_neg, List.length_map, this]
    grind
  suffices hh : -(e' * (Q25 * M ^ ((cstep cs k).length - 1))) ≤ N * (horn M d w k * (Q25 * M ^ ((cstep cs k).length - 1)) - M * hv (cstep cs k) d M) ∧ N * (horn M d w k * (Q25 * M ^ ((cstep cs k).length - 1)) - M * hv (cstep cs k) d M) ≤ e' * (Q25 * M ^ ((cstep cs k).length - 1)) from
    ⟨by simp [cstep], hh.1, hh.2⟩
  rw [hl, ec]
  have pw : 0 < M ^ (cs.length - 1) := Int.pow_pos hM
  rw [Int.pow_succ]
  generalize M ^ (cs.length - 1) = P at *
  generalize hv cs d M = C at *
  unfold horn
  generalize divN M k = a at *
  generalize divN (d * w) M = r at *
  generalize Q25 / k = q at *
  have pQ : 0 < Q25 := by decide
  generalize Q25 = Q at *
  -- the product of d and the error before
  have hd := absmul hb ⟨lo, hi⟩
  have z1 : (P * M * q) * (-u2) ≤ (P * M * q) * (2 * (M - k * a)) := mono2 hu.1 (Int.mul_nonneg (Int.mul_nonneg (by omega) (by omega)) q2)
  have z2 : (P * M * q) * (2 * (M - k * a)) ≤ (P * M * q) * u2 := mono2 hu.2 (Int.mul_nonneg (Int.mul_nonneg (by omega) (by omega)) q2)
  have y1 : (Q * P) * (-M) ≤ (Q * P) * (2 * (d * w - M * r)) := mono2 n.1 (Int.mul_nonneg (by omega) (by omega))
  have y2 : (Q * P) * (2 * (d * w - M * r)) ≤ (Q * P) * M := mono2 n.2 (Int.mul_nonneg (by omega) (by omega))
  have f1 : (P * M * q) * (N * N * u2 + k * (N * N) + 2 * k * (b * e)) ≤ (P * M * q) * (2 * k * (e' * N)) := mono2 hue (Int.mul_nonneg (Int.mul_nonneg (by omega) (by omega)) q2)
  -- X' = pw M (a Q - q M) - (r M - d w) Q pw - d X
  have X : (a - r) * (Q * (P * M)) - M * (q * (P * M) - d * C) = -((P * M * q) * (M - k * a)) + (Q * P) * (d * w - M * r) - d * (w * (Q * P) - M * C) := by
    rw [← q1]; grind
  rw [X]
  generalize hz : (P * M * q) * (M - k * a) = z at *
  generalize hy : (Q * P) * (d * w - M * r) = y at *
  generalize hx : w * (Q * P) - M * C = x at *
  have eQ : (P * M * q) * k = Q * P * M := by rw [← q1]; grind
  have ez : (P * M * q) * (2 * (M - k * a)) = 2 * z := by rw [← hz]; grind
  have ey : (Q * P) * (2 * (d * w - M * r)) = 2 * y := by rw [← hy]; grind
  rw [ez] at z1 z2
  rw [ey] at y1 y2
  have ed : N * d * (N * x) = N * N * (d * x) := by grind
  rw [ed] at hd
  generalize d * x = v at *
  have NN : 0 < N * N := Int.mul_pos hN hN
  have m1 : N * N * (2 * z) ≤ N * N * ((P * M * q) * u2) := mono2 z2 (by omega)
  have m2 : N * N * ((P * M * q) * (-u2)) ≤ N * N * (2 * z) := mono2 z1 (by omega)
  have m3 : N * N * (2 * y) ≤ N * N * ((Q * P) * M) := mono2 y2 (by omega)
  have m4 : N * N * ((Q * P) * (-M)) ≤ N * N * (2 * y) := mono2 y1 (by omega)
  clear ec hl ne lo hi hu n hb hM hk1 hk2 pw pQ NN hue hu2 u0
  generalize hK : P * M * q = K at *
  have i1 : N * N * (2 * z) = 2 * (N * N * z) := by grind
  have i2 : N * N * (2 * y) = 2 * (N * N * y) := by grind
  have i3 : N * N * (K * -u2) = -(N * N * (K * u2)) := by grind
  have i4 : N * N * (Q * P * M) = N * N * (K * k) := by rw [eQ]
  have i5 : N * N * (Q * P * -M) = -(N * N * (K * k)) := by rw [eQ]; grind
  have i6 : b * M * (e * (Q * P)) = b * e * (K * k) := by rw [eQ]; grind
  have i7 : K * (N * N * u2 + k * (N * N) + 2 * k * (b * e)) = N * N * (K * u2) + N * N * (K * k) + 2 * (b * e * (K * k)) := by grind
  have i8 : K * (2 * k * (e' * N)) = 2 * (N * e' * (K * k)) := by grind
  have i9 : e' * (Q * (P * M)) = e' * (K * k) := by rw [eQ]; grind
  rw [i9]
  rw [i1, i3] at m2
  rw [i1] at m1
  rw [i2, i4] at m3
  rw [i2, i5] at m4
  rw [i6] at hd
  rw [i7, i8] at f1
  have j1 : 2 * N * -(e' * (K * k)) = -(2 * (N * e' * (K * k))) := by grind
  have j2 : 2 * N * (e' * (K * k)) = 2 * (N * e' * (K * k)) := by grind
  have j3 : 2 * N * (N * (-z + y - v)) = -(2 * (N * N * z)) + 2 * (N * N * y) - 2 * (N * N * v) := by grind
  constructor
  · refine Int.le_of_mul_le_mul_left (a := 2 * N) ?_ (by omega)
    rw [j1, j3]; omega
  · refine Int.le_of_mul_le_mul_left (a := 2 * N) ?_ (by omega)
    rw [j2, j3]; omega
theorem unit_one (M : Int) : -0 ≤ 2 * (M - 1 * divN M 1) ∧ 2 * (M - 1 * divN M 1) ≤ 0 := by
  have n := divN_near (a := M) (b := 1) (by omega)
  omega
/-- the whole scheme: T - 1 .. 2, then 1 -/
theorem he_fold {M d N e b : Int} (hM : 0 < M) (hN : 0 < N) (hb : -(b * M) ≤ N * d ∧ N * d ≤ b * M) (he : N * N + b * e ≤ e * N) : ∀ (ks : List Int) (w : Int) (cs : List Int), (∀ k ∈ ks, 1 ≤ k ∧ k ≤ 25) → HE M d N e w cs → HE M d N e (ks.foldl (horn M d) w) (ks.foldl cstep cs)
  | [], w, cs, _, h => h
  | k :: r, w, cs, hk, h => by
    obtain ⟨k1, k2⟩ := hk k (.head _)
    refine he_fold hM hN hb he r _ _ (fun q hq => hk q (.tail _ hq)) (he_step (u2 := k) hM k1 k2 hN hb (divN_near (by omega)) (Int.le_refl _) (by omega) ?_ h)
    have : (2 * k) * (N * N + b * e) ≤ (2 * k) * (e * N) := mono2 he (by omega)
    grind
theorem downKs_snoc (T : Nat) : downKs ((T + 2 : Nat) - 1) (T + 1) = downKs ((T + 2 : Nat) - 1) T ++ [1] := by
  unfold downKs
  rw [List.range_succ, List.map_append]
  congr 1
  simp
  omega
/-- the written form of the scheme -/
def clT (T : Nat) : List Int := (downKs ((T : Int) - 1) (T - 1)).foldl cstep [Q25 / (T : Int)]
theorem he_all {M d N e e1 b : Int} {T : Nat} (hM : 0 < M) (hN : 0 < N) (hT : ilTT M = ((T + 2 : Nat) : Int)) (hT2 : T + 2 ≤ 25) (hb : -(b * M) ≤ N * d ∧ N * d ≤ b * M) (he0 : N ≤ 2 * e) (he : N * N + b * e ≤ e * N) (he1 : N * N + 2 * (b * e) ≤ 2 * (e1 * N)) : HE M d N e1 (ilogW M d) (clT (T + 2)) := by
  unfold ilogW clT
  rw [hT]
  have e2 : (((T + 2 : Nat) : Int) - 1 - 0).toNat = T + 1 := by omega
  have e3 : T + 2 - 1 = T + 1 := by omega
  rw [e2, e3, downKs_snoc, List.foldl_append, List.foldl_append]
  have hs := he_start (M := M) (d := d) (N := N) (e := e) (T := ((T + 2 : Nat) : Int)) hM (by omega) (by omega) (by omega) he0
  have hf := he_fold hM hN hb he (downKs ((T + 2 : Nat) - 1) T) _ _ (fun k hk => by have := mem_down hk; omega) hs
  have u := unit_one M
  refine he_step (u2 := 0) (k := 1) hM (by omega) (by omega) hN hb ⟨by omega, by omega⟩ (by omega) (by omega) (by grind) hf

end
section
/-! twice the sum of the odd powers -/
def zmk : Nat → Int → List Int
  | 0, _ => []
  | n + 1, k => 0 :: (2 * (Q25 / k)) :: zmk n (k + 2)
theorem zmk_len : ∀ (n : Nat) (k : Int), (zmk n k).length = 2 * n
  | 0, _ => rfl
  | n + 1, k => by show (zmk n (k + 2)).length + 1 + 1 = _; rw [zmk_len n]; omega
theorem hv_zmk (n : Nat) (k d s : Int) : hv (zmk (n + 1) k) d s = 2 * (Q25 / k) * d * s ^ (2 * n) + d * d * hv (zmk n (k + 2)) d s := by
  show 0 * s ^ _ + d * (2 * (Q25 / k) * s ^ (zmk n (k + 2)).length + d * hv (zmk n (k + 2)) d s) = _
  rw [zmk_len]
  grind
theorem hv_odd : ∀ (n : Nat) (k d s : Int), hv (zmk n k) (-d) s = -hv (zmk n k) d s
  | 0, _, _, _ => rfl
  | n + 1, k, d, s => by
    rw [hv_zmk, hv_zmk, hv_odd n]
    grind
def lts : Nat → Int → Int → Int → Int → Int
  | 0, _, _, _, _ => 0
  | n + 1, d2, s2, part, k => part.fdiv k + lts n d2 s2 ((part * d2).fdiv s2) (k + 2)
def lpn : Nat → Int → Int → Int → Int
  | 0, _, _, part => part
  | n + 1, d2, s2, part => lpn n d2 s2 ((part * d2).fdiv s2)
theorem zero_fdiv' (a : Int) : (0 : Int).fdiv a = 0 := by simp
theorem lts_zero : ∀ (n : Nat) (d2 s2 k : Int), lts n d2 s2 0 k = 0
  | 0, _, _, _ => rfl
  | n + 1, d2, s2, k => by
    show (0 : Int).fdiv k + lts n d2 s2 ((0 * d2).fdiv s2) (k + 2) = 0
    rw [Int.zero_mul, zero_fdiv', zero_fdiv', lts_zero n]; rfl
theorem fdiv_lo {a b : Int} (hb : 0 < b) (ha : 0 ≤ a) : 0 ≤ a.fdiv b := by
  rw [Int.fdiv_eq_ediv_of_nonneg _ (by omega)]; exact Int.ediv_nonneg ha (by omega)
theorem llog_lts {d2 s2 : Int} (hd : 0 ≤ d2) (hs : 0 < s2) : ∀ (n m : Nat) (part k tot : Int), 0 ≤ part → n ≤ m → lpn n d2 s2 part = 0 → llog m d2 s2 part k tot = tot + lts n d2 s2 part k
  | 0, m, part, k, tot, h0, hm, hz => by
    have hz : part = 0 := hz
    subst hz
    cases m with
    | zero => show tot = tot + 0; omega
    | succ m => show (if (0 : Int) < 0 then _ else tot) = tot + 0; rw [if_neg (by omega)]; omega
  | n + 1, 0, part, k, tot, h0, hm, hz => by omega
  | n + 1, m + 1, part, k, tot, h0, hm, hz => by
    show (if 0 < part then llog m d2 s2 ((part * d2).fdiv s2) (k + 2) (tot + part.fdiv k) else tot) = tot + (part.fdiv k + lts n d2 s2 ((part * d2).fdiv s2) (k + 2))
    by_cases c : 0 < part
    · rw [if_pos c, llog_lts hd hs n m _ _ _ (fdiv_lo hs (Int.mul_nonneg h0 hd)) (by omega) hz]; omega
    · have : part = 0 := by omega
      subst this
      rw [if_neg c, Int.zero_mul, zero_fdiv', zero_fdiv', lts_zero]; omega
/-- one part of the sum -/
theorem part_next {U d s part : Int} {k : Nat} (hd : 0 ≤ d) (hs : 0 < s) (hds : 2 * (d * d) ≤ s * s) (h0 : 0 ≤ part) (h1 : part * s ^ k ≤ 2 * U * d ^ k) (h2 : 2 * U * d ^ k < (part + 2) * s ^ k) :
    0 ≤ (part * (d * d)).fdiv (s * s) ∧ (part * (d * d)).fdiv (s * s) * s ^ (k + 2) ≤ 2 * U * d ^ (k + 2) ∧ 2 * U * d ^ (k + 2) < ((part * (d * d)).fdiv (s * s) + 2) * s ^ (k + 2) := by
  have ss : 0 < s * s := Int.mul_pos hs hs
  have dd : 0 ≤ d * d := Int.mul_nonneg hd hd
  have hq := Int.mul_fdiv_add_fmod (part * (d * d)) (s * s)
  have hq1 := fmod_lo (part * (d * d)) ss
  have hq2 := fmod_hi (part * (d * d)) ss
  have q0 := fdiv_lo ss (Int.mul_nonneg h0 dd)
  have pk : 0 < s ^ k := Int.pow_pos hs
  generalize (part * (d * d)).fdiv (s * s) = p' at *
  generalize (part * (d * d)).fmod (s * s) = r at *
  rw [Int.pow_succ, Int.pow_succ, Int.pow_succ, Int.pow_succ]
  generalize s ^ k = S at *
  generalize d ^ k = D at *
  refine ⟨q0, ?_, ?_⟩
  · have a1 : S * (s * s * p') ≤ S * (part * (d * d)) := mono2 (by omega) (by omega)
    have a2 : (d * d) * (part * S) ≤ (d * d) * (2 * U * D) := mono2 h1 dd
    have e1 : p' * (S * s * s) = S * (s * s * p') := by grind
    have e2 : 2 * U * (D * d * d) = (d * d) * (2 * U * D) := by grind
    have e3 : S * (part * (d * d)) = (d * d) * (part * S) := by grind
    omega
  · have a1 : S * (part * (d * d) + 1) ≤ S * (s * s * p' + s * s) := mono2 (by omega) (by omega)
    have a2 : (d * d) * (2 * U * D) ≤ (d * d) * ((part + 2) * S) := mono2 (by omega) dd
    have a3 : S * (2 * (d * d)) ≤ S * (s * s) := mono2 hds (by omega)
    have e1 : (p' + 2) * (S * s * s) = S * (s * s * p') + 2 * (S * (s * s)) := by grind
    have e2 : 2 * U * (D * d * d) = (d * d) * (2 * U * D) := by grind
    have e3 : S * (part * (d * d) + 1) = S * (part * (d * d)) + S := by grind
    have e4 : (d * d) * ((part + 2) * S) = S * (part * (d * d)) + S * (2 * (d * d)) := by grind
    have e5 : S * (s * s * p' + s * s) = S * (s * s * p') + S * (s * s) := by grind
    omega
/-- the sum's parts against the written form -/
theorem lts_near {U d s : Int} (hU : 0 ≤ U) (hd : 0 ≤ d) (hs : 0 < s) (hds : 2 * (d * d) ≤ s * s) : ∀ (n : Nat) (part : Int) (k : Nat), k + 1 + 2 * n ≤ 27 → 0 ≤ part → part * s ^ (k + 1) ≤ 2 * U * d ^ (k + 1) → 2 * U * d ^ (k + 1) < (part + 2) * s ^ (k + 1) →
    Q25 * s ^ (2 * n + k) * lts n (d * d) (s * s) part ((k + 1 : Nat) : Int) ≤ U * d ^ k * (s * hv (zmk n ((k + 1 : Nat) : Int)) d s) ∧ U * d ^ k * (s * hv (zmk n ((k + 1 : Nat) : Int)) d s) ≤ Q25 * s ^ (2 * n + k) * (lts n (d * d) (s * s) part ((k + 1 : Nat) : Int) + 3 * n) ∧
    0 ≤ lpn n (d * d) (s * s) part ∧ lpn n (d * d) (s * s) part * s ^ (2 * n + k + 1) ≤ 2 * U * d ^ (2 * n + k + 1)
  | 0, part, k, hk, h0, h1, h2 => by
    have e : 2 * 0 + k + 1 = k + 1 := by omega
    rw [e]
    show Q25 * s ^ (2 * 0 + k) * 0 ≤ U * d ^ k * (s * 0) ∧ U * d ^ k * (s * 0) ≤ Q25 * s ^ (2 * 0 + k) * (0 + 3 * (0 : Nat)) ∧ 0 ≤ part ∧ part * s ^ (k + 1) ≤ 2 * U * d ^ (k + 1)
    refine ⟨by simp, by simp, h0, h1⟩
  | n + 1, part, k, hk, h0, h1, h2 => by
    obtain ⟨n0, n1, n2⟩ := part_next hd hs hds h0 h1 h2
    obtain ⟨i1, i2, i3, i4⟩ := lts_near hU hd hs hds n ((part * (d * d)).fdiv (s * s)) (k + 2) (by omega) n0 n1 n2
    have e0 : 2 * (n + 1) + k + 1 = 2 * n + (k + 2) + 1 := by omega
    have ek : ((k + 1 : Nat) : Int) + 2 = ((k + 2 + 1 : Nat) : Int) := by omega
    rw [hv_zmk, ek, e0]
    refine ⟨?_, ?_, i3, i4⟩
    all_goals (
      show _ ≤ _
      obtain ⟨q1, q2⟩ := q25i (k := ((k + 1 : Nat) : Int)) (by omega) (by omega)
      have f := Int.mul_fdiv_add_fmod part ((k + 1 : Nat) : Int)
      have f1 := fmod_lo part (n := ((k + 1 : Nat) : Int)) (by omega)
      have f2 := fmod_hi part (n := ((k + 1 : Nat) : Int)) (by omega)
      have eT : lts (n + 1) (d * d) (s * s) part ((k + 1 : Nat) : Int) = part.fdiv ((k + 1 : Nat) : Int) + lts n (d * d) (s * s) ((part * (d * d)).fdiv (s * s)) ((k + 2 + 1 : Nat) : Int) := by rw [← ek]; rfl
      rw [eT]
      generalize lts n (d * d) (s * s) ((part * (d * d)).fdiv (s * s)) ((k + 2 + 1 : Nat) : Int) = L at *
      generalize part.fdiv ((k + 1 : Nat) : Int) = t at *
      generalize part.fmod ((k + 1 : Nat) : Int) = r at *
      generalize hv (zmk n ((k + 2 + 1 : Nat) : Int)) d s = H at *
      have ep : s ^ (2 * (n + 1) + k) = s ^ (2 * n) * (s ^ (k + 1) * s) := by rw [← Int.pow_succ, ← Int.pow_add]; congr 1; omega
      have ep2 : s ^ (2 * n + (k + 2)) = s ^ (2 * n) * (s ^ (k + 1) * s) := by rw [← Int.pow_succ, ← Int.pow_add]
      have ed : d ^ (k + 2) = d ^ k * (d * d) := by rw [Int.pow_succ, Int.pow_succ, Int.mul_assoc]
      have ed1 : d ^ (k + 1) = d ^ k * d := Int.pow_succ ..
      rw [ep2, ed] at i1 i2
      rw [ed1] at h1 h2
      rw [ep]
      have sn : 0 < s ^ (2 * n) := Int.pow_pos hs
      have sk : 0 < s ^ (k + 1) := Int.pow_pos hs
      generalize s ^ (k + 1) = S at *
      generalize s ^ (2 * n) = W at *
      generalize d ^ k = D at *
      generalize hkk : ((k + 1 : Nat) : Int) = kk at *
      have kk0 : 1 ≤ kk := by omega
      have pQ : 0 < Q25 := by decide
      generalize hqq : Q25 / kk = q at *
      generalize Q25 = Q at *
      have ws : 0 ≤ q * W * s := Int.mul_nonneg (Int.mul_nonneg q2 (by omega)) (by omega)
      -- Q W S s t  <=  q W s (part S)  <=  q W s (2 U D d)
      have b1 : (q * W * s) * (part * S) ≤ (q * W * s) * (2 * U * (D * d)) := mono2 h1 ws
      have b2 : (q * W * s) * (2 * U * (D * d)) ≤ (q * W * s) * ((part + 2) * S) := mono2 (by omega) ws
      have b3 : (q * W * s * S) * (kk * t) ≤ (q * W * s * S) * part := mono2 (by omega) (Int.mul_nonneg ws (by omega))
      have b4 : (q * W * s * S) * part ≤ (q * W * s * S) * (kk * t + kk) := mono2 (by omega) (Int.mul_nonneg ws (by omega))
      have b5 : (q * W * s * S) * 1 ≤ (q * W * s * S) * kk := mono2 kk0 (Int.mul_nonneg ws (by omega))
      have g1 : (q * W * s * S) * (kk * t) = Q * (W * (S * s)) * t := by rw [← q1]; grind
      have g2 : (q * W * s * S) * (kk * t + kk) = Q * (W * (S * s)) * t + Q * (W * (S * s)) := by rw [← q1]; grind
      have g3 : (q * W * s * S) * kk = Q * (W * (S * s)) := by rw [← q1]; grind
      have g4 : (q * W * s) * (part * S) = (q * W * s * S) * part := by grind
      have g5 : (q * W * s) * ((part + 2) * S) = (q * W * s * S) * part + 2 * (q * W * s * S) := by grind
      have g6 : U * D * (s * (2 * q * d * W + d * d * H)) = (q * W * s) * (2 * U * (D * d)) + U * (D * (d * d)) * (s * H) := by grind
      have g7 : Q * (W * (S * s)) * (t + L) = Q * (W * (S * s)) * t + Q * (W * (S * s)) * L := by grind
      have g8 : Q * (W * (S * s)) * (t + L + 3 * ((n + 1 : Nat) : Int)) = Q * (W * (S * s)) * t + Q * (W * (S * s)) * (L + 3 * (n : Int)) + 3 * (Q * (W * (S * s))) := by
        have : ((n + 1 : Nat) : Int) = n + 1 := by omega
        rw [this]; grind
      rw [g6]
      first | (rw [g7]; omega) | (rw [g8]; omega))

end
section
/-- Taylor's form against the odd powers' form: what is left begins with d ^ 26 -/
def gL : List Int := (List.zipWith (· - ·) (mulSn 25 (0 :: clT 25)) (exS (zmk 13 1) ++ List.replicate 25 0)).drop 26
theorem gL_eq : mulSn 25 (0 :: clT 25) = List.zipWith (· + ·) (List.replicate 26 0 ++ gL) (exS (zmk 13 1) ++ List.replicate 25 0) := by decide +kernel
theorem gL_len : gL.length = 25 := by decide +kernel
theorem gL_sum : 10 ^ 8 * (31 ^ 26 * (asum gL * (10 ^ 53 * 100 ^ 25))) ≤ (10000 ^ 26 : Int) * (Q25 * 199 ^ 25) := by decide +kernel
theorem taylor_odd (d M : Int) : (2 * M + d) ^ 25 * (d * hv (clT 25) d M) = d ^ 26 * hv gL d M + hv (zmk 13 1) d (2 * M + d) * M ^ 25 := by
  have h := congrArg (fun l => hv l d M) gL_eq
  rw [hv_mulSn, hv_add _ _ _ _ (by decide +kernel), hv_append, hv_append, hv_zeros, hv_zeros, hv_exS] at h
  have e : hv (0 :: clT 25) d M = d * hv (clT 25) d M := by
    show 0 * M ^ _ + d * hv (clT 25) d M = _
    rw [Int.zero_mul, Int.zero_add]
  rw [e] at h
  rw [h, List.length_replicate, List.length_replicate]
  grind
theorem abspow {a B : Int} (h : -B ≤ a ∧ a ≤ B) : ∀ (n : Nat), -(B ^ n) ≤ a ^ n ∧ a ^ n ≤ B ^ n
  | 0 => by simp
  | n + 1 => by
    rw [Int.pow_succ, Int.pow_succ]
    exact absmul (abspow h n) h
structure G10 (M : Int) (T : Nat) : Prop where
  M0 : 10000 ≤ M
  M1 : M ≤ 10 ^ 53
  hT : ilTT M = ((T + 2 : Nat) : Int)
  T2 : T + 2 ≤ 24
  sp : clT 25 = clT (T + 2) ++ (clT 25).drop (T + 2)
  ln : (clT (T + 2)).length = T + 2
  eps : 31 ^ (T + 3) * (asum ((clT 25).drop (T + 2)) * M) * 10000 ≤ 3 * (Q25 * 10000 ^ (T + 3))
def tT (k : Nat) : Nat := (10 * (k + 5) + 23) / 24 - 2
theorem g10_tab : ∀ k : Fin 50, ilTT (10 ^ (k.val + 4)) = ((tT k.val + 2 : Nat) : Int) ∧ tT k.val + 2 ≤ 24 ∧ clT 25 = clT (tT k.val + 2) ++ (clT 25).drop (tT k.val + 2) ∧ (clT (tT k.val + 2)).length = tT k.val + 2 ∧
   31 ^ (tT k.val + 3) * (asum ((clT 25).drop (tT k.val + 2)) * 10 ^ (k.val + 4)) * 10000 ≤ 3 * (Q25 * 10000 ^ (tT k.val + 3)) := by decide +kernel
theorem g10 {p : Int} (h0 : 2 ≤ p) (h1 : p ≤ 51) : ∃ T, G10 (10 ^ (p + 2).toNat) T := by
  obtain ⟨m, hm⟩ := Int.eq_ofNat_of_zero_le (by omega : 0 ≤ p - 2)
  have h := g10_tab ⟨m, by omega⟩
  have e2 : (p + 2).toNat = m + 4 := by omega
  rw [e2]
  obtain ⟨a1, a2, a3, a4, a5⟩ := h
  refine ⟨tT m, ?_, ten_le (by omega), a1, a2, a3, a4, a5⟩
  have := ten_le (a := 4) (b := m + 4) (by omega)
  exact this
/-- the Taylor form within half a unit and a little -/
theorem taylor_near {M d w D : Int} {T : Nat} (G : G10 M T) (hd : -(31 * M) ≤ 10000 * d ∧ 10000 * d ≤ 31 * M) (hw : w = ilogW M d) (hD : -M ≤ 2 * (w * d - M * D) ∧ 2 * (w * d - M * D) ≤ M) :
    -(100371984 * (Q25 * M ^ 24)) ≤ 200000000 * (D * (Q25 * M ^ 24) - d * hv (clT 25) d M) ∧ 200000000 * (D * (Q25 * M ^ 24) - d * hv (clT 25) d M) ≤ 100371984 * (Q25 * M ^ 24) := by
  obtain ⟨M0, M1, hT, T2, sp, ln, eps⟩ := G
  have hM : 0 < M := by omega
  have H := he_all (M := M) (d := d) (N := 10000) (e := 10032) (e1 := 5032) (b := 31) (T := T) hM (by decide) hT (by omega) hd (by decide) (by decide) (by decide)
  rw [← hw] at H
  obtain ⟨_, lo, hi⟩ := H
  rw [ln] at lo hi
  have e1 : T + 2 - 1 = T + 1 := by omega
  rw [e1] at lo hi
  have lr : ((clT 25).drop (T + 2)).length = 23 - T := by
    have : (clT 25).length = 25 := by decide +kernel
    rw [List.length_drop, this]; omega
  have hs : hv (clT 25) d M = hv (clT (T + 2)) d M * M ^ (23 - T) + d ^ (T + 2) * hv ((clT 25).drop (T + 2)) d M := by
    conv => lhs; rw [sp]
    rw [hv_append, ln, lr]
  have hb := hv_bound (d := d) (M := M) (by omega) ⟨by omega, by omega⟩ ((clT 25).drop (T + 2))
  rw [lr] at hb
  rw [hs]
  have pn := abspow (a := 10000 * d) (B := 31 * M) hd (T + 3)
  rw [Int.mul_pow, Int.mul_pow] at pn
  have pw : (M : Int) ^ 24 = M ^ (T + 1) * M ^ (23 - T) := by rw [← Int.pow_add]; congr 1; omega
  have pw2 : (M : Int) ^ (T + 3) * M ^ (23 - T) = M ^ 24 * (M * M) := by
    have : (M : Int) * M = M ^ 2 := by rw [Int.pow_succ, Int.pow_succ, Int.pow_zero, Int.one_mul]
    rw [this, ← Int.pow_add, ← Int.pow_add]; congr 1; omega
  have eps0 := asum_nonneg ((clT 25).drop (T + 2))
  -- the tail
  have tl := absmul pn hb
  have pN : (0 : Int) < 10000 ^ (T + 3) := Int.pow_pos (by decide)
  have ed : d * (d ^ (T + 2) * hv ((clT 25).drop (T + 2)) d M) = d ^ (T + 3) * hv ((clT 25).drop (T + 2)) d M := by
    have : d ^ (T + 3) = d ^ (T + 2) * d := Int.pow_succ ..
    rw [this]; grind
  have tail : -(3 * (Q25 * M ^ 24)) ≤ 10000 * (d ^ (T + 3) * hv ((clT 25).drop (T + 2)) d M) ∧ 10000 * (d ^ (T + 3) * hv ((clT 25).drop (T + 2)) d M) ≤ 3 * (Q25 * M ^ 24) := by
    have p24 : (0 : Int) < M ^ 24 := Int.pow_pos hM
    have k1 : (M * M ^ 24) * (31 ^ (T + 3) * (asum ((clT 25).drop (T + 2)) * M) * 10000) ≤ (M * M ^ 24) * (3 * (Q25 * 10000 ^ (T + 3))) := mono2 eps (Int.mul_nonneg (by omega) (by omega))
    have e2 : 31 ^ (T + 3) * M ^ (T + 3) * (asum ((clT 25).drop (T + 2)) * M ^ (23 - T)) * 10000 = (M * M ^ 24) * (31 ^ (T + 3) * (asum ((clT 25).drop (T + 2)) * M) * 10000) := by
      have : 31 ^ (T + 3) * M ^ (T + 3) * (asum ((clT 25).drop (T + 2)) * M ^ (23 - T)) = 31 ^ (T + 3) * asum ((clT 25).drop (T + 2)) * (M ^ (T + 3) * M ^ (23 - T)) := by grind
      rw [this, pw2]; grind
    generalize d ^ (T + 3) = dt at *
    generalize hv ((clT 25).drop (T + 2)) d M = v at *
    generalize (10000 : Int) ^ (T + 3) = N at *
    generalize 31 ^ (T + 3) * M ^ (T + 3) * (asum ((clT 25).drop (T + 2)) * M ^ (23 - T)) = z at *
    generalize (M : Int) ^ 24 = m at *
    generalize (M * m) * (31 ^ (T + 3) * (asum ((clT 25).drop (T + 2)) * M) * 10000) = y at *
    have e3 : N * dt * (M * v) * 10000 = (N * M) * (10000 * (dt * v)) := by grind
    have e4 : (M * m) * (3 * (Q25 * N)) = (N * M) * (3 * (Q25 * m)) := by grind
    have NM : 0 < N * M := Int.mul_pos pN hM
    constructor
    · refine Int.le_of_mul_le_mul_left (a := N * M) ?_ NM
      have e5 : (N * M) * -(3 * (Q25 * m)) = -((N * M) * (3 * (Q25 * m))) := by grind
      rw [← e3, e5, ← e4]; omega
    · refine Int.le_of_mul_le_mul_left (a := N * M) ?_ NM
      rw [← e3, ← e4]; omega
  have eT : d * (hv (clT (T + 2)) d M * M ^ (23 - T) + d ^ (T + 2) * hv ((clT 25).drop (T + 2)) d M) = (d * hv (clT (T + 2)) d M) * M ^ (23 - T) + d ^ (T + 3) * hv ((clT 25).drop (T + 2)) d M := by
    rw [← ed]; grind
  rw [eT]
  generalize d ^ (T + 3) * hv ((clT 25).drop (T + 2)) d M = t at *
  clear eT ed tl pn hb eps hs sp pw2 eps0 lr ln hT hw pN
  -- the head
  generalize hv (clT (T + 2)) d M = h at *
  rw [pw] at *
  have pp : (0 : Int) < M ^ (T + 1) := Int.pow_pos hM
  have pr : (0 : Int) < M ^ (23 - T) := Int.pow_pos hM
  generalize M ^ (T + 1) = P at *
  generalize M ^ (23 - T) = R at *
  have pQ : 0 < Q25 := by decide
  generalize Q25 = Q at *
  have dm := absmul hd ⟨lo, hi⟩
  have y1 : (Q * P) * (-M) ≤ (Q * P) * (2 * (w * d - M * D)) := mono2 hD.1 (Int.mul_nonneg (by omega) (by omega))
  have y2 : (Q * P) * (2 * (w * d - M * D)) ≤ (Q * P) * M := mono2 hD.2 (Int.mul_nonneg (by omega) (by omega))
  have X : M * (D * (Q * P) - d * h) = -((Q * P) * (w * d - M * D)) + d * (w * (Q * P) - M * h) := by grind
  have hY : -(100311984 * (Q * P)) ≤ 200000000 * (D * (Q * P) - d * h) ∧ 200000000 * (D * (Q * P) - d * h) ≤ 100311984 * (Q * P) := by
    generalize D * (Q * P) - d * h = Y at *
    have i1 : (Q * P) * (2 * (w * d - M * D)) = 2 * ((Q * P) * (w * d - M * D)) := by grind
    have i2 : 10000 * d * (10000 * (w * (Q * P) - M * h)) = 100000000 * (d * (w * (Q * P) - M * h)) := by grind
    have i3 : 31 * M * (5032 * (Q * P)) = 155992 * (M * (Q * P)) := by grind
    have i4 : (Q * P) * M = M * (Q * P) := Int.mul_comm _ _
    have i5 : (Q * P) * -M = -(M * (Q * P)) := by grind
    rw [i2, i3] at dm
    rw [i1] at y1 y2
    rw [i4] at y2
    rw [i5] at y1
    generalize d * (w * (Q * P) - M * h) = a at *
    generalize (Q * P) * (w * d - M * D) = b at *
    constructor
    · refine Int.le_of_mul_le_mul_left (a := M) ?_ hM
      have j1 : M * -(100311984 * (Q * P)) = -(100311984 * (M * (Q * P))) := by grind
      have j2 : M * (200000000 * Y) = 200000000 * (M * Y) := by grind
      rw [j1, j2]; omega
    · refine Int.le_of_mul_le_mul_left (a := M) ?_ hM
      have j1 : M * (100311984 * (Q * P)) = 100311984 * (M * (Q * P)) := by grind
      have j2 : M * (200000000 * Y) = 200000000 * (M * Y) := by grind
      rw [j1, j2]; omega
  have r1 : R * (-(100311984 * (Q * P))) ≤ R * (200000000 * (D * (Q * P) - d * h)) := mono2 hY.1 (by omega)
  have r2 : R * (200000000 * (D * (Q * P) - d * h)) ≤ R * (100311984 * (Q * P)) := mono2 hY.2 (by omega)
  have s1 : R * (-(100311984 * (Q * P))) = -(100311984 * (Q * (P * R))) := by grind
  have s2 : R * (100311984 * (Q * P)) = 100311984 * (Q * (P * R)) := by grind
  have s3 : R * (200000000 * (D * (Q * P) - d * h)) = 200000000 * (D * (Q * (P * R)) - d * h * R) := by grind
  rw [s1, s3] at r1
  rw [s2, s3] at r2
  constructor <;> omega

end
section
theorem rsh_zero (y : Int) : rshN y 0 = y := by
  rw [rshN_div]
  show divN y (2 ^ 0) = y
  rw [Int.pow_zero]
  exact divN_uniq (by omega) (by omega) (by omega) (by omega)
/-- so near to one no root is taken -/
theorem ilog_near {M x : Int} (hM : 10000 ≤ M) (hd : -(31 * M) ≤ 10000 * (x - M) ∧ 10000 * (x - M) ≤ 31 * M) : ilogN x M = divN (ilogW M (x - M) * (x - M)) M := by
  have e : ilLp 40 M (x - M) 0 = (x - M, 0) := by
    show (if ilT M (x - M) 0 = true then _ else _) = _
    have ht : ilT M (x - M) 0 = false := by
      unfold ilT
      rw [if_pos (by omega)]
      refine decide_eq_false ?_
      have e8 : (2 : Int) ^ (8 - 0 : Int).toNat = 256 := by decide
      rw [e8]
      omega
    rw [if_neg (by simp [ht])]
  unfold ilogN
  rw [e]
  show divN (ilogW M (rshN (x - M) 0) * (x - M)) M = _
  rw [rsh_zero]
/-- the law's logarithm against the odd powers' form; a - b = d, a + b = s -/
theorem lawLog_near {a b M : Int} (hM : 10000 ≤ M) (hM1 : M ≤ 10 ^ 53) (hb : 0 < b) (hab : b ≤ a) (hs : M ≤ a + b) (hd : 10000 * (a - b) ≤ 31 * M) :
    Q25 * (a + b) ^ 25 * lawLog a b (M * 10 ^ 8) ≤ M * 10 ^ 8 * hv (zmk 13 1) (a - b) (a + b) ∧ M * 10 ^ 8 * hv (zmk 13 1) (a - b) (a + b) ≤ Q25 * (a + b) ^ 25 * (lawLog a b (M * 10 ^ 8) + 39) := by
  have e1 : (a - b) ^ Int.toNat 2 = (a - b) * (a - b) := by show (a - b) ^ 2 = _; rw [Int.pow_succ, Int.pow_succ, Int.pow_zero, Int.one_mul]
  have e2 : (a + b) ^ Int.toNat 2 = (a + b) * (a + b) := by show (a + b) ^ 2 = _; rw [Int.pow_succ, Int.pow_succ, Int.pow_zero, Int.one_mul]
  unfold lawLog
  rw [e1, e2]
  have hU : 0 ≤ M * 10 ^ 8 := Int.mul_nonneg (by omega) (by decide)
  have hd0 : 0 ≤ a - b := by omega
  have hs0 : 0 < a + b := by omega
  have hds : 10000 * (a - b) ≤ 31 * (a + b) := by omega
  generalize a - b = d at *
  generalize a + b = s at *
  have sd : 2 * (d * d) ≤ s * s := by
    have := mul_lo (a := 2 * d) (b := 2 * d) (c := s) (d := s) (by omega) (by omega) (by omega) (by omega)
    have e : 2 * d * (2 * d) = 4 * (d * d) := by grind
    have : 0 ≤ d * d := Int.mul_nonneg hd0 hd0
    omega
  generalize hUU : M * 10 ^ 8 = U at *
  have n0 : 0 ≤ 2 * U * d := Int.mul_nonneg (by omega) hd0
  have hq := Int.mul_fdiv_add_fmod (2 * U * d) s
  have hq1 := fmod_lo (2 * U * d) hs0
  have hq2 := fmod_hi (2 * U * d) hs0
  have p0 := fdiv_lo hs0 n0
  generalize (2 * U * d).fdiv s = p at *
  generalize (2 * U * d).fmod s = r at *
  have c1 : p * s ^ (0 + 1) ≤ 2 * U * d ^ (0 + 1) := by
    simp only [Nat.zero_add, Int.pow_succ, Int.pow_zero, Int.one_mul]
    have : p * s = s * p := Int.mul_comm _ _
    omega
  have c2 : 2 * U * d ^ (0 + 1) < (p + 2) * s ^ (0 + 1) := by
    simp only [Nat.zero_add, Int.pow_succ, Int.pow_zero, Int.one_mul]
    have : (p + 2) * s = s * p + 2 * s := by grind
    omega
  obtain ⟨i1, i2, i3, i4⟩ := lts_near hU hd0 hs0 sd 13 p 0 (by omega) p0 c1 c2
  have k1 : (((0 + 1 : Nat)) : Int) = 1 := rfl
  rw [k1] at i1 i2
  have z : lpn 13 (d * d) (s * s) p = 0 := by
    refine Int.le_antisymm (Int.not_lt.mp fun hlt => ?_) i3
    have e27 : 2 * 13 + 0 + 1 = 27 := rfl
    rw [e27] at i4
    have ps : (0 : Int) < s ^ 27 := Int.pow_pos hs0
    have a1 : 1 * s ^ 27 ≤ lpn 13 (d * d) (s * s) p * s ^ 27 := Int.mul_le_mul_of_nonneg_right (by omega) (by omega)
    have pn := (abspow (a := 10000 * d) (B := 31 * s) ⟨by omega, by omega⟩ 27).2
    rw [Int.mul_pow, Int.mul_pow] at pn
    have a2 : (2 * U) * (10000 ^ 27 * d ^ 27) ≤ (2 * U) * (31 ^ 27 * s ^ 27) := mono2 pn (by omega)
    have a3 : (2 * 31 ^ 27) * U ≤ (2 * 31 ^ 27) * (10 ^ 53 * 10 ^ 8) := mono2 (by rw [← hUU]; exact Int.mul_le_mul_of_nonneg_right hM1 (by decide)) (by decide)
    have a4 : (2 * 31 ^ 27) * (10 ^ 53 * 10 ^ 8) < (10000 : Int) ^ 27 := by decide +kernel
    have a5 : s ^ 27 * ((2 * 31 ^ 27) * U) < s ^ 27 * (10000 : Int) ^ 27 := Int.mul_lt_mul_of_pos_left (by omega) ps
    have b1 : (10000 : Int) ^ 27 * (1 * s ^ 27) ≤ (10000 : Int) ^ 27 * (2 * U * d ^ 27) := mono2 (by omega) (by decide +kernel)
    have f1 : (10000 : Int) ^ 27 * (2 * U * d ^ 27) = (2 * U) * (10000 ^ 27 * d ^ 27) := by grind
    have f2 : (2 * U) * (31 ^ 27 * s ^ 27) = s ^ 27 * ((2 * 31 ^ 27) * U) := by grind
    have f3 : (10000 : Int) ^ 27 * (1 * s ^ 27) = s ^ 27 * (10000 : Int) ^ 27 := by grind
    omega
  have el : llog 250 (d * d) (s * s) p 1 0 = lts 13 (d * d) (s * s) p 1 := by
    rw [llog_lts (Int.mul_nonneg hd0 hd0) (Int.mul_pos hs0 hs0) 13 250 p 1 0 p0 (by omega) z]; omega
  rw [el]
  have e26 : 2 * 13 + 0 = 25 + 1 := rfl
  rw [e26, Int.pow_succ] at i1 i2
  generalize lts 13 (d * d) (s * s) p 1 = L at *
  generalize hv (zmk 13 1) d s = H at *
  generalize s ^ 25 = S at *
  have e0 : U * d ^ 0 * (s * H) = s * (U * H) := by rw [Int.pow_zero]; grind
  rw [e0] at i1 i2
  constructor
  · refine Int.le_of_mul_le_mul_left (a := s) ?_ hs0
    have : s * (Q25 * S * L) = Q25 * (S * s) * L := by grind
    omega
  · refine Int.le_of_mul_le_mul_left (a := s) ?_ hs0
    have : s * (Q25 * S * (L + 39)) = Q25 * (S * s) * (L + 3 * ((13 : Nat) : Int)) := by
      have : 3 * ((13 : Nat) : Int) = 39 := rfl
      rw [this]; grind
    omega
/-- the sum of the errors; goal: the law's, signed -/
theorem sum10 {M d D goal : Int} {T : Nat} (G : G10 M T) (hd : -(31 * M) ≤ 10000 * d ∧ 10000 * d ≤ 31 * M) (hD : -M ≤ 2 * (ilogW M d * d - M * D) ∧ 2 * (ilogW M d * d - M * D) ≤ M)
    (hg : -(39 * (Q25 * (2 * M + d) ^ 25)) ≤ M * 10 ^ 8 * hv (zmk 13 1) d (2 * M + d) - Q25 * (2 * M + d) ^ 25 * goal ∧ M * 10 ^ 8 * hv (zmk 13 1) d (2 * M + d) - Q25 * (2 * M + d) ^ 25 * goal ≤ 39 * (Q25 * (2 * M + d) ^ 25)) :
    -50190000 ≤ 10 ^ 8 * D - goal ∧ 10 ^ 8 * D - goal ≤ 50190000 := by
  have tn := taylor_near G hd rfl hD
  have to := taylor_odd d M
  have M0 := G.M0
  have M1 := G.M1
  have hM : 0 < M := by omega
  have hs : 0 < 2 * M + d := by omega
  have hs2 : 199 * M ≤ 100 * (2 * M + d) := by omega
  have gb := hv_bound (d := d) (M := M) (by omega) ⟨by omega, by omega⟩ gL
  rw [gL_len] at gb
  have pn := abspow (a := 10000 * d) (B := 31 * M) hd 26
  rw [Int.mul_pow, Int.mul_pow] at pn
  have gt := absmul pn gb
  have ps := (abspow (a := 199 * M) (B := 100 * (2 * M + d)) ⟨by omega, by omega⟩ 25).2
  rw [Int.mul_pow, Int.mul_pow] at ps
  have gs := gL_sum
  have as := asum_nonneg gL
  generalize hS : (2 * M + d) ^ 25 = S at *
  have pS : 0 < S := by rw [← hS]; exact Int.pow_pos hs
  have pm : (0 : Int) < M ^ 24 := Int.pow_pos hM
  have e25 : M ^ 25 = M ^ 24 * M := Int.pow_succ ..
  have e26 : M ^ 26 = M ^ 25 * M := Int.pow_succ ..
  -- the left over part: 10^8 M |d^26 g| <= Q S M^25
  have lf : -(Q25 * S * M ^ 25) ≤ 10 ^ 8 * M * (d ^ 26 * hv gL d M) ∧ 10 ^ 8 * M * (d ^ 26 * hv gL d M) ≤ Q25 * S * M ^ 25 := by
    generalize hv gL d M = g at *
    generalize asum gL = A at *
    generalize d ^ 26 = dt at *
    clear tn to hD hg hS
    have p25 : (0 : Int) < M ^ 25 := Int.pow_pos hM
    -- N^26 100^25 * (10^8 M |dt g|) M... 
    have k0 : (10 : Int) ^ 8 * (31 ^ 26 * (A * (M * 100 ^ 25))) ≤ 10 ^ 8 * (31 ^ 26 * (A * (10 ^ 53 * 100 ^ 25))) := by
      refine mono2 (mono2 (mono2 (Int.mul_le_mul_of_nonneg_right M1 (by decide +kernel)) as) (by decide +kernel)) (by decide +kernel)
    have k1 : (M ^ 25 * M ^ 25) * (10 ^ 8 * (31 ^ 26 * (A * (M * 100 ^ 25)))) ≤ (M ^ 25 * M ^ 25) * ((10000 ^ 26 : Int) * (Q25 * 199 ^ 25)) := mono2 (Int.le_trans k0 gs) (Int.mul_nonneg (by omega) (by omega))
    have k2 : (M ^ 25 * (10000 ^ 26 * Q25)) * (199 ^ 25 * M ^ 25) ≤ (M ^ 25 * (10000 ^ 26 * Q25)) * (100 ^ 25 * S) := mono2 ps (Int.mul_nonneg (by omega) (by decide +kernel))
    rw [e26] at gt
    have h8 : 0 ≤ (10 : Int) ^ 8 * 100 ^ 25 := by decide +kernel
    generalize (31 : Int) ^ 26 = c31 at *
    generalize (10 : Int) ^ 8 = c8 at *
    have hN : (0 : Int) < 10000 ^ 26 := by decide +kernel
    have hC : (0 : Int) < 100 ^ 25 := by decide +kernel
    generalize (10000 : Int) ^ 26 = N at *
    generalize (100 : Int) ^ 25 = C at *
    generalize (199 : Int) ^ 25 = c199 at *
    generalize M ^ 25 = m at *
    have pos : 0 < N * C := Int.mul_pos hN hC
    -- times N C
    have t1 : (c8 * C) * (N * dt * (M * g)) ≤ (c8 * C) * (c31 * (m * M) * (A * m)) := mono2 gt.2 h8
    have t2 : (c8 * C) * (-(c31 * (m * M) * (A * m))) ≤ (c8 * C) * (N * dt * (M * g)) := mono2 gt.1 h8
    have f1 : (c8 * C) * (c31 * (m * M) * (A * m)) = (m * m) * (c8 * (c31 * (A * (M * C)))) := by grind
    have f2 : (c8 * C) * (N * dt * (M * g)) = (N * C) * (c8 * M * (dt * g)) := by grind
    have f3 : (m * m) * (N * (Q25 * c199)) = (m * (N * Q25)) * (c199 * m) := by grind
    have f4 : (m * (N * Q25)) * (C * S) = (N * C) * (Q25 * S * m) := by grind
    have f5 : (c8 * C) * (-(c31 * (m * M) * (A * m))) = -((m * m) * (c8 * (c31 * (A * (M * C))))) := by grind
    constructor
    · refine Int.le_of_mul_le_mul_left (a := N * C) ?_ pos
      have f6 : (N * C) * -(Q25 * S * m) = -((N * C) * (Q25 * S * m)) := by grind
      rw [f6]; omega
    · refine Int.le_of_mul_le_mul_left (a := N * C) ?_ pos
      omega
  clear gs gt gb pn ps as
  generalize d ^ 26 * hv gL d M = g at *
  generalize hv (zmk 13 1) d (2 * M + d) = Z at *
  generalize d * hv (clT 25) d M = A at *
  have pQ : 0 < Q25 := by decide
  generalize Q25 = Q at *
  have K0 : 0 ≤ 10 ^ 8 * M * S := Int.mul_nonneg (by omega) (by omega)
  have t1 : (10 ^ 8 * M * S) * (200000000 * (D * (Q * M ^ 24) - A)) ≤ (10 ^ 8 * M * S) * (100371984 * (Q * M ^ 24)) := mono2 tn.2 K0
  have t2 : (10 ^ 8 * M * S) * (-(100371984 * (Q * M ^ 24))) ≤ (10 ^ 8 * M * S) * (200000000 * (D * (Q * M ^ 24) - A)) := mono2 tn.1 K0
  rw [e25] at *
  generalize M ^ 24 = m at *
  have mM : 0 ≤ m * M := Int.mul_nonneg (by omega) (by omega)
  have g1 : (m * M) * (M * 10 ^ 8 * Z - Q * S * goal) ≤ (m * M) * (39 * (Q * S)) := mono2 hg.2 mM
  have g2 : (m * M) * (-(39 * (Q * S))) ≤ (m * M) * (M * 10 ^ 8 * Z - Q * S * goal) := mono2 hg.1 mM
  have e8 : (10 : Int) ^ 8 = 100000000 := by decide
  rw [e8] at t1 t2 g1 g2 lf ⊢
  -- all in units of Q S m M
  have u1 : (100000000 * M * S) * (100371984 * (Q * m)) = 10037198400000000 * (Q * S * (m * M)) := by grind
  have u2 : (100000000 * M * S) * (-(100371984 * (Q * m))) = -(10037198400000000 * (Q * S * (m * M))) := by grind
  have u3 : (100000000 * M * S) * (200000000 * (D * (Q * m) - A)) = 200000000 * (100000000 * D * (Q * S * (m * M))) - 200000000 * (100000000 * M * (S * A)) := by grind
  have u4 : 100000000 * M * (S * A) = 100000000 * M * g + (m * M) * (M * 100000000 * Z) := by rw [to]; grind
  have u5 : (m * M) * (M * 100000000 * Z - Q * S * goal) = (m * M) * (M * 100000000 * Z) - goal * (Q * S * (m * M)) := by grind
  have u6 : (m * M) * (39 * (Q * S)) = 39 * (Q * S * (m * M)) := by grind
  have u7 : (m * M) * (-(39 * (Q * S))) = -(39 * (Q * S * (m * M))) := by grind
  have pos : 0 < Q * S * (m * M) := Int.mul_pos (Int.mul_pos pQ pS) (Int.mul_pos pm hM)
  rw [u1, u3, u4] at t1
  rw [u2, u3, u4] at t2
  rw [u5, u6] at g1
  rw [u5, u7] at g2
  generalize (m * M) * (M * 100000000 * Z) = z at *
  generalize 100000000 * M * g = y at *
  generalize hW : Q * S * (m * M) = W at *
  have v : (100000000 * D - goal) * W = 100000000 * D * W - goal * W := by grind
  constructor
  · refine Int.le_of_mul_le_mul_right (a := W) ?_ pos
    rw [v]; omega
  · refine Int.le_of_mul_le_mul_right (a := W) ?_ pos
    rw [v]; omega

end
section
/-- a drawn number: c = plain * 10 ** more + tail, plain within 3 thousandths of M -/
structure L10 (p more plain tail : Int) : Prop where
  p0 : 2 ≤ p
  p1 : p ≤ 51
  m0 : 0 ≤ more
  m1 : more ≤ 40
  lo : -(3 * 10 ^ (p + 2).toNat) ≤ 1000 * (plain - 10 ^ (p + 2).toNat)
  hi : 1000 * (plain - 10 ^ (p + 2).toNat) ≤ 3 * 10 ^ (p + 2).toNat
  t0 : 0 ≤ tail
  t1 : tail < 10 ^ more.toNat
theorem L10.M {p more plain tail : Int} (h : L10 p more plain tail) : (10000 : Int) ≤ 10 ^ (p + 2).toNat ∧ (10 : Int) ^ (p + 2).toNat ≤ 10 ^ 53 := by
  have h0 := h.p0; have h1 := h.p1
  exact ⟨ten_le (a := 4) (by omega), ten_le (by omega)⟩
theorem L10.c0 {p more plain tail : Int} (h : L10 p more plain tail) : 0 < plain ∧ 0 < plain * 10 ^ more.toNat + tail ∧ plain * 10 ^ more.toNat + tail ≤ 10 ^ 200 := by
  obtain ⟨hM0, hM1⟩ := h.M
  have lo := h.lo; have hi := h.hi; have t0 := h.t0; have t1 := h.t1; have m1 := h.m1
  have pj := ten_pos more.toNat
  have p0 : 0 < plain := by omega
  have k1 := Int.mul_pos p0 pj
  have k2 : (plain + 1) * 10 ^ more.toNat ≤ 10 ^ 54 * 10 ^ more.toNat := by
    refine Int.mul_le_mul_of_nonneg_right ?_ (by omega)
    have : (10 : Int) ^ 54 = 10 * 10 ^ 53 := by decide +kernel
    generalize (10 : Int) ^ 53 = z at *
    generalize (10 : Int) ^ 54 = z1 at *
    omega
  rw [← Int.pow_add] at k2
  have k3 : (10 : Int) ^ (54 + more.toNat) ≤ 10 ^ 200 := ten_le (by omega)
  have e : (plain + 1) * 10 ^ more.toNat = plain * 10 ^ more.toNat + 10 ^ more.toNat := by grind
  refine ⟨p0, by omega, ?_⟩
  generalize (10 : Int) ^ 200 = z at *
  omega
theorem L10.ndig {p more plain tail : Int} (h : L10 p more plain tail) : ndig (plain * 10 ^ more.toNat + tail) = (if 10 ^ (p + 2).toNat ≤ plain then p + 3 else p + 2) + more := by
  obtain ⟨hM0, hM1⟩ := h.M
  have lo := h.lo; have hi := h.hi; have t0 := h.t0; have t1 := h.t1; have m0 := h.m0; have p0 := h.p0
  have pj := ten_pos more.toNat
  have e : (plain + 1) * 10 ^ more.toNat = plain * 10 ^ more.toNat + 10 ^ more.toNat := by grind
  have e3 : (10 : Int) ^ (p + 3).toNat = 10 ^ (p + 2).toNat * 10 := by
    have : (p + 3).toNat = (p + 2).toNat + 1 := by omega
    rw [this, Int.pow_succ]
  have e1 : (10 : Int) ^ (p + 2).toNat = 10 ^ (p + 1).toNat * 10 := by
    have : (p + 2).toNat = (p + 1).toNat + 1 := by omega
    rw [this, Int.pow_succ]
  split
  · next c =>
    refine ndig_of (by omega) ?_ ?_
    · have : (p + 3 + more - 1).toNat = (p + 2).toNat + more.toNat := by omega
      rw [this, Int.pow_add]
      have : 10 ^ (p + 2).toNat * 10 ^ more.toNat ≤ plain * 10 ^ more.toNat := Int.mul_le_mul_of_nonneg_right c (by omega)
      omega
    · have : (p + 3 + more).toNat = (p + 3).toNat + more.toNat := by omega
      rw [this, Int.pow_add]
      have : (plain + 1) * 10 ^ more.toNat ≤ 10 ^ (p + 3).toNat * 10 ^ more.toNat := Int.mul_le_mul_of_nonneg_right (by omega) (by omega)
      omega
  · next c =>
    refine ndig_of (by omega) ?_ ?_
    · have : (p + 2 + more - 1).toNat = (p + 1).toNat + more.toNat := by omega
      rw [this, Int.pow_add]
      have : 10 ^ (p + 1).toNat * 10 ^ more.toNat ≤ plain * 10 ^ more.toNat := Int.mul_le_mul_of_nonneg_right (by omega) (by omega)
      omega
    · have : (p + 2 + more).toNat = (p + 2).toNat + more.toNat := by omega
      rw [this, Int.pow_add]
      have : (plain + 1) * 10 ^ more.toNat ≤ 10 ^ (p + 2).toNat * 10 ^ more.toNat := Int.mul_le_mul_of_nonneg_right (by omega) (by omega)
      omega
theorem L10.f {p more plain tail : Int} (h : L10 p more plain tail) : dl_f (plain * 10 ^ more.toNat + tail) (-p - 2 - more) = 0 := by
  have e := h.ndig
  unfold dl_f
  rw [e]
  split
  · have : -p - 2 - more + (p + 3 + more) = 1 := by omega
    rw [this]; rfl
  · have : -p - 2 - more + (p + 2 + more) = 0 := by omega
    rw [this]; rfl
theorem L10.x {p more plain tail : Int} (h : L10 p more plain tail) : plain ≤ divN (plain * 10 ^ more.toNat + tail) (10 ^ more.toNat) ∧ divN (plain * 10 ^ more.toNat + tail) (10 ^ more.toNat) ≤ plain + 1 := by
  have t0 := h.t0; have t1 := h.t1
  have pj := ten_pos more.toNat
  refine ⟨divN_ge pj ?_, divN_le pj ?_⟩
  · have : 10 ^ more.toNat * plain = plain * 10 ^ more.toNat := Int.mul_comm _ _
    omega
  · have : 10 ^ more.toNat * (plain + 1) = plain * 10 ^ more.toNat + 10 ^ more.toNat := by grind
    omega
theorem L10.near {p more plain tail : Int} (h : L10 p more plain tail) : -(31 * 10 ^ (p + 2).toNat) ≤ 10000 * (divN (plain * 10 ^ more.toNat + tail) (10 ^ more.toNat) - 10 ^ (p + 2).toNat) ∧ 10000 * (divN (plain * 10 ^ more.toNat + tail) (10 ^ more.toNat) - 10 ^ (p + 2).toNat) ≤ 31 * 10 ^ (p + 2).toNat := by
  obtain ⟨hM0, hM1⟩ := h.M
  have lo := h.lo; have hi := h.hi
  have hx := h.x
  generalize divN (plain * 10 ^ more.toNat + tail) (10 ^ more.toNat) = x at *
  omega
theorem L10.cx {p more plain tail : Int} (h : L10 p more plain tail) : dl_c (plain * 10 ^ more.toNat + tail) (-p - 2 - more) (p + 2) = divN (plain * 10 ^ more.toNat + tail) (10 ^ more.toNat) := by
  have m0 := h.m0
  have hk : dl_k (plain * 10 ^ more.toNat + tail) (-p - 2 - more) (p + 2) = -more := by
    unfold dl_k; rw [h.f]; omega
  unfold dl_c
  rw [hk]
  by_cases c : more = 0
  · subst c
    rw [if_pos (by omega)]
    show _ * 10 ^ 0 = divN _ (10 ^ 0)
    rw [Int.pow_zero, Int.mul_one]
    exact (divN_uniq (by omega) (by omega) (by omega) (by omega)).symm
  · rw [if_neg (by omega)]
    have : - -more = more := by omega
    rw [this]
theorem L10.told {p more plain tail : Int} (h : L10 p more plain tail) : dlogN (plain * 10 ^ more.toNat + tail) (-p - 2 - more) p = divN (ilogN (divN (plain * 10 ^ more.toNat + tail) (10 ^ more.toNat)) (10 ^ (p + 2).toNat)) 100 := by
  unfold dlogN dlF
  rw [h.f, h.cx, if_pos rfl, Int.zero_add]
theorem L10.pre {p more plain tail : Int} (h : L10 p more plain tail) : ilPre (divN (plain * 10 ^ more.toNat + tail) (10 ^ more.toNat)) (10 ^ (p + 2).toNat) := by
  obtain ⟨hM0, hM1⟩ := h.M
  obtain ⟨n1, n2⟩ := h.near
  refine ⟨by omega, Int.le_trans hM1 (by decide +kernel), ?_, ?_⟩ <;> (generalize divN (plain * 10 ^ more.toNat + tail) (10 ^ more.toNat) = x at *; omega)
/-- D near the law's logarithm -/
theorem L10.core {p more plain tail x M : Int} (h : L10 p more plain tail) (hx : divN (plain * 10 ^ more.toNat + tail) (10 ^ more.toNat) = x) (hM : (10 : Int) ^ (p + 2).toNat = M) :
    (M ≤ x → -50190000 ≤ 10 ^ 8 * ilogN x M - lawLog x M (M * 10 ^ 8) ∧ 10 ^ 8 * ilogN x M - lawLog x M (M * 10 ^ 8) ≤ 50190000) ∧
    (x < M → -50190000 ≤ 10 ^ 8 * ilogN x M - -lawLog M x (M * 10 ^ 8) ∧ 10 ^ 8 * ilogN x M - -lawLog M x (M * 10 ^ 8) ≤ 50190000) := by
  obtain ⟨T, G⟩ := g10 h.p0 h.p1
  obtain ⟨hM0, hM1⟩ := h.M
  have hn := h.near
  rw [hx, hM] at hn
  rw [hM] at G hM0 hM1
  have hD := divN_near (a := ilogW M (x - M) * (x - M)) (b := M) (by omega)
  rw [← ilog_near hM0 hn] at hD
  have es : 2 * M + (x - M) = x + M := by omega
  refine ⟨fun c => ?_, fun c => ?_⟩
  · have hl := lawLog_near (a := x) (b := M) hM0 hM1 (by omega) c (by omega) (by omega)
    refine sum10 G hn hD ?_
    rw [es]
    generalize lawLog x M (M * 10 ^ 8) = l at *
    generalize M * 10 ^ 8 * hv (zmk 13 1) (x - M) (x + M) = z at *
    generalize (x + M) ^ 25 = s at *
    have e1 : Q25 * s * (l + 39) = Q25 * s * l + 39 * (Q25 * s) := by grind
    rw [e1] at hl
    generalize Q25 * s * l = y at *
    omega
  · have hl := lawLog_near (a := M) (b := x) hM0 hM1 (by omega) (by omega) (by omega) (by omega)
    refine sum10 G hn hD ?_
    rw [es]
    have e0 : M + x = x + M := Int.add_comm _ _
    have e2 : M - x = -(x - M) := by omega
    rw [e0, e2, hv_odd] at hl
    generalize lawLog M x (M * 10 ^ 8) = l at *
    have e3 : M * 10 ^ 8 * -hv (zmk 13 1) (x - M) (x + M) = -(M * 10 ^ 8 * hv (zmk 13 1) (x - M) (x + M)) := by grind
    rw [e3] at hl
    generalize M * 10 ^ 8 * hv (zmk 13 1) (x - M) (x + M) = z at *
    generalize (x + M) ^ 25 = s at *
    have e1 : Q25 * s * (l + 39) = Q25 * s * l + 39 * (Q25 * s) := by grind
    have e4 : Q25 * s * -l = -(Q25 * s * l) := by grind
    rw [e1] at hl
    rw [e4]
    generalize Q25 * s * l = y at *
    omega
/-- the two tests -/
theorem tests {D t goal : Int} (ht : divN D 100 = t) (h : -50190000 ≤ 10 ^ 8 * D - goal ∧ 10 ^ 8 * D - goal ≤ 50190000) :
    ¬ goal ≤ (100 * t - 50 + t.fmod 2) * 10 ^ Int.toNat 8 - 50200000 ∧ ¬ (100 * t + 50 - t.fmod 2) * 10 ^ Int.toNat 8 + 50200000 ≤ goal := by
  have n := divN_near (a := D) (b := 100) (by omega)
  have e := divN_even (a := D) (b := 100) (by omega)
  rw [ht] at n e
  have e8 : (10 : Int) ^ Int.toNat 8 = 100000000 := by decide
  have e9 : (10 : Int) ^ 8 = 100000000 := by decide
  rw [e8]
  rw [e9] at h
  rw [Int.fmod_eq_emod_of_nonneg _ (by omega)]
  omega
theorem L10.up {p more plain tail x M t : Int} (h : L10 p more plain tail) (hx : divN (plain * 10 ^ more.toNat + tail) (10 ^ more.toNat) = x) (hM : (10 : Int) ^ (p + 2).toNat = M) (ht : dlogN (plain * 10 ^ more.toNat + tail) (-p - 2 - more) p = t) (c : ¬ x < M) :
    ¬ lawLog x M (M * 10 ^ Int.toNat 8) ≤ (100 * t - 50 + t.fmod 2) * 10 ^ Int.toNat 8 - 50200000 ∧ ¬ (100 * t + 50 - t.fmod 2) * 10 ^ Int.toNat 8 + 50200000 ≤ lawLog x M (M * 10 ^ Int.toNat 8) := by
  refine tests ?_ ((h.core hx hM).1 (by omega))
  rw [← ht, h.told, hx, hM]
theorem L10.dn {p more plain tail x M t : Int} (h : L10 p more plain tail) (hx : divN (plain * 10 ^ more.toNat + tail) (10 ^ more.toNat) = x) (hM : (10 : Int) ^ (p + 2).toNat = M) (ht : dlogN (plain * 10 ^ more.toNat + tail) (-p - 2 - more) p = t) (c : x < M) :
    ¬ -lawLog M x (M * 10 ^ Int.toNat 8) ≤ (100 * t - 50 + t.fmod 2) * 10 ^ Int.toNat 8 - 50200000 ∧ ¬ (100 * t + 50 - t.fmod 2) * 10 ^ Int.toNat 8 + 50200000 ≤ -lawLog M x (M * 10 ^ Int.toNat 8) := by
  refine tests ?_ ((h.core hx hM).2 c)
  rw [← ht, h.told, hx, hM]

end
section
abbrev tup3 (x : Int) (a : Tok) (y : Int) (b : Tok) (z : Int) (c : Tok) (k : Nat) : Obj := { cls := .type "tuple", data := .seq #[.int x a, .int y b, .int z c] k }
/-- the first is the lesser, item by item -/
def lex3 (x1 x2 x3 y1 y2 y3 : Int) : Bool := if x1 = y1 then (if x2 = y2 then (if x3 = y3 then false else decide (x3 < y3)) else decide (x2 < y2)) else decide (x1 < y1)
section
variable {prog : Program} {w : World} {A : Around} {E : Value → Shared → Prop} {s : Shared}
theorem rc_lt {x y : Int} {t u : Tok} {Q : Value → Shared → Prop} (h : Q (.bool (decide (x < y))) s) : wpAny (model prog w) A (richCompare .Lt (.int x t) (.int y u)) Q E s :=
  show wpAny (model prog w) A (compareOp .Lt (.int x t) (.int y u)) Q E s from lt_int h
theorem tup3_tree {a b : Addr} {x1 x2 x3 y1 y2 y3 : Int} {t1 t2 t3 u1 u2 u3 : Tok} {na nb : Nat} {P : PySem.Fin → Shared → Prop} (hoa : s.heap.get? a = some (tup3 x1 t1 x2 t2 x3 t3 na)) (hob : s.heap.get? b = some (tup3 y1 u1 y2 u2 y3 u3 nb))
    (h : P (.done (.ret (.bool (lex3 x1 x2 x3 y1 y2 y3)))) s) : wpAny (model prog w) A (Builtin.«tuple.__lt__» ⟨[.ref a, .ref b], []⟩) P E s := by
  have hTb : s.TypeIs (.ref b) "tuple" := ⟨_, hob, rfl⟩
  show wpAny _ _ (isInstance (.ref b) (.type "tuple") >>= _) _ _ s
  refine wpAny_bind (wpAny_isInstance hTb isSubtype_tuple_tuple ?_)
  simp only [Bool.not_true, Bool.false_eq_true, if_false]
  refine wpAny_bind (wpAny_tupleItemsOf hoa rfl ?_)
  refine wpAny_bind (wpAny_tupleItemsOf hob rfl ?_)
  refine wpAny_bind ?_
  simp only [List.zip_cons_cons, List.zip_nil_right, List.forIn_cons, List.forIn_nil]
  unfold lex3 at h
  refine wpAny_bind (wpAny_bind (wpAny_eqBool_int ?_))
  by_cases e1 : x1 = y1
  · rw [if_pos e1] at h
    have b1 : (x1 == y1) = true := by simp [e1]
    simp only [b1, e1, decide_true, beq_self_eq_true, Bool.not_true, Bool.false_eq_true, if_false]
    refine wpAny_pure ?_
    dsimp only
    refine wpAny_bind (wpAny_bind (wpAny_eqBool_int ?_))
    by_cases e2 : x2 = y2
    · rw [if_pos e2] at h
      simp only [e2, decide_true, beq_self_eq_true, Bool.not_true, Bool.false_eq_true, if_false]
      refine wpAny_pure ?_
      dsimp only
      refine wpAny_bind (wpAny_bind (wpAny_eqBool_int ?_))
      by_cases e3 : x3 = y3
      · rw [if_pos e3] at h
        simp only [e3, decide_true, beq_self_eq_true, Bool.not_true, Bool.false_eq_true, if_false]
        refine wpAny_pure ?_
        dsimp only
        refine wpAny_pure ?_
        exact wpAny_pure h
      · rw [if_neg e3] at h
        have b3 : (x3 == y3) = false := by simp [e3]
        simp only [b3, e3, decide_false, Bool.not_false, if_true]
        refine wpAny_bind (wpAny_rule (wpAny_bind (rc_lt (wpAny_bind (wpAny_pure (wpAny_pure ?_))))))
        dsimp only
        exact wpAny_pure (wpAny_pure h)
    · rw [if_neg e2] at h
      have b2 : (x2 == y2) = false := by simp [e2]
      simp only [b2, e2, decide_false, Bool.not_false, if_true]
      refine wpAny_bind (wpAny_rule (wpAny_bind (rc_lt (wpAny_bind (wpAny_pure (wpAny_pure ?_))))))
      dsimp only
      exact wpAny_pure (wpAny_pure h)
  · rw [if_neg e1] at h
    have b1 : (x1 == y1) = false := by simp [e1]
    simp only [b1, e1, decide_false, Bool.not_false, if_true]
    refine wpAny_bind (wpAny_rule (wpAny_bind (rc_lt (wpAny_bind (wpAny_pure (wpAny_pure ?_))))))
    dsimp only
    exact wpAny_pure (wpAny_pure h)
theorem tup3_lt {a b : Addr} {x1 x2 x3 y1 y2 y3 : Int} {t1 t2 t3 u1 u2 u3 : Tok} {na nb : Nat} {Q : Value → Shared → Prop} (hu : A.units < cLine) (hoa : s.heap.get? a = some (tup3 x1 t1 x2 t2 x3 t3 na)) (hob : s.heap.get? b = some (tup3 y1 u1 y2 u2 y3 u3 nb))
    (h : Q (.bool (lex3 x1 x2 x3 y1 y2 y3)) s) : wpAny (model prog w) A (richCompare .Lt (.ref a) (.ref b)) Q E s := by
  have hTa : s.TypeIs (.ref a) "tuple" := ⟨_, hoa, rfl⟩
  have hTb : s.TypeIs (.ref b) "tuple" := ⟨_, hob, rfl⟩
  exact wpAny_richCompare_same_room (op := .Lt) hTa hTb F.slot_tuple_lt
      (wpAny_call_entry F.slot_tuple_lt hTa F.entry_tuple_lt (tup3_tree hoa hob ⟨_, rfl, (fun e => nomatch e), h⟩) (F.args_tuple_lt_2 _ _)) hu
end

end
section
set_option maxRecDepth 100000
set_option maxHeartbeats 4000000
section
variable {prog : Program} {w : World} {A : Around} {E : Value → Shared → Prop} {s : Shared} {h₀ : Heap} {L l : Addr} {m : Str → Option Value} {news : List (Addr × Obj)} {Q : Value → Shared → Prop}
theorem min_pair {a b : Addr} {x1 x2 x3 y1 y2 y3 : Int} {t1 t2 t3 u1 u2 u3 : Tok} {na nb : Nat} (hh : A.handled = none) (hu : A.in1.units < cLine) (F : Fr h₀ L s.heap m) (N : News h₀ L s.heap news) (hl : ∀ h, Fr h₀ L h m → News h₀ L h news → h.IsList l (List.toArray [.ref a, .ref b]))
    (ma : (a, tup3 x1 t1 x2 t2 x3 t3 na) ∈ news) (mb : (b, tup3 y1 u1 y2 u2 y3 u3 nb) ∈ news)
    (hQ : ∀ h' tk', Fr h₀ L h' m → News h₀ L h' news → Q (.ref (if lex3 y1 y2 y3 x1 x2 x3 = true then b else a)) { s with heap := h', toks := tk' }) :
    wpAny (model prog w) A (call (.builtin "min") [.ref l]) Q E s := by
  have hname : (toString "min" ++ toString ".loop" : String) = "min.loop" := by decide
  have hls := hl _ F N
  obtain ⟨ol, hol, _⟩ := id hls
  have hll : l < s.heap.objs.size := Heap.lt_size hol
  have hL : L < s.heap.objs.size := F.ns.lt
  refine call_function_tree PySem.F.kind_min PySem.F.plain_min PySem.F.entry_min (PySem.F.args_min1 _) ?_
  show wpAny _ A.in1 (Builtin.Builtins.bindParams "min" ["key", "default"] 0 ⟨[], []⟩ >>= _) _ _ s
  refine wpAny_bind (wpAny_of_eq (show Builtin.Builtins.bindParams "min" ["key", "default"] 0 ⟨[], []⟩ = pure [none, none] from rfl) ?_)
  refine wpAny_bind (wpAny_pure ?_)
  refine wpAny_bind (wpAny_pyIter_list hls ?_)
  refine wpAny_bind (wpAny_newList ?_ (Nat.zero_le _))
  rw [hname]
  have hS : (s.heap.push { cls := .type "list_iterator", data := .fields #[.ref l, .int 0 0] }).objs.size = s.heap.objs.size + 1 := size_push' ..
  have hlI : l ≠ s.heap.objs.size := Nat.ne_of_lt hll
  have hSI : (s.heap.push { cls := .type "list_iterator", data := .fields #[.ref l, .int 0 0] }).objs.size ≠ s.heap.objs.size := by rw [hS]; exact Nat.ne_of_gt (Nat.lt_succ_self _)
  have hnI : ∀ p ∈ news, p.1 ≠ s.heap.objs.size := fun p hp => Nat.ne_of_lt (Heap.lt_size (N p hp).1)
  have hnS : ∀ p ∈ news, p.1 ≠ (s.heap.push { cls := .type "list_iterator", data := .fields #[.ref l, .int 0 0] }).objs.size := fun p hp => by rw [hS]; exact Nat.ne_of_lt (Nat.lt_succ_of_lt (Heap.lt_size (N p hp).1))
  refine wpAny_pure ⟨plainId_quiet PySem.F.plain_min_loop _, ?_⟩
  have fresh : ∀ b, L < b → h₀.get? b = none := fun b hb => Heap.get?_none_of_le (Nat.le_trans F.above (Nat.le_of_lt hb))
  have FH : Fr h₀ L ((s.heap.push { cls := .type "list_iterator", data := .fields #[.ref l, .int 0 0] }).push (seqObj "list" #[] 0)) m := (F.push _).push _
  have NH : News h₀ L ((s.heap.push { cls := .type "list_iterator", data := .fields #[.ref l, .int 0 0] }).push (seqObj "list" #[] 0)) news := N.grown fun b x e => Heap.get?_push_of_some _ (Heap.get?_push_of_some _ e)
  have gI : ((s.heap.push { cls := .type "list_iterator", data := .fields #[.ref l, .int 0 0] }).push (seqObj "list" #[] 0)).get? s.heap.objs.size = some { cls := .type "list_iterator", data := .fields #[.ref l, .int 0 0] } :=
    Heap.get?_push_of_some _ (Heap.get?_push_size _ rfl)
  have gS : ((s.heap.push { cls := .type "list_iterator", data := .fields #[.ref l, .int 0 0] }).push (seqObj "list" #[] 0)).get? (s.heap.push { cls := .type "list_iterator", data := .fields #[.ref l, .int 0 0] }).objs.size = some (seqObj "list" #[] 0) := Heap.get?_push_size _ rfl
  have aI : s.heap.objs.size ≠ L := Nat.ne_of_gt hL
  have aS : (s.heap.push { cls := .type "list_iterator", data := .fields #[.ref l, .int 0 0] }).objs.size ≠ L := by rw [hS]; exact Nat.ne_of_gt (Nat.lt_succ_of_lt hL)
  have zS : h₀.get? (s.heap.push { cls := .type "list_iterator", data := .fields #[.ref l, .int 0 0] }).objs.size = none := fresh _ (by rw [hS]; exact Nat.lt_succ_of_lt hL)
  have zI : h₀.get? s.heap.objs.size = none := fresh _ hL
  have W := Walks.list (prog := prog) (w := w) (A := A.in1) hh s.heap.objs.size l hlI (List.toArray [.ref a, .ref b])
  have hsz : (List.toArray [Value.ref a, Value.ref b]).size = 2 := rfl
  generalize (s.heap.push { cls := .type "list_iterator", data := .fields #[.ref l, .int 0 0] }).push (seqObj "list" #[] 0) = H at *
  generalize (s.heap.push { cls := .type "list_iterator", data := .fields #[.ref l, .int 0 0] }).objs.size = S at *
  generalize s.heap.objs.size = I at *
  -- the first turn
  refine codeAny_builtin PySem.F.entry_min_loop ?_
  rw [Around.under_plainId PySem.F.plain_min_loop _]
  show wpAny _ A.in1 (seqItems? (.ref _) >>= _) _ _ _
  refine wpAny_bind (wpAny_seqItems gS rfl ?_)
  show wpAny _ A.in1 (tryCatch (pyNext (.ref I)) _ >>= _) _ _ _
  refine wpAny_bind (wpAny_tryCatch (W.item 0 _ _ _ (by rw [hsz]; decide) ⟨⟨_, gI, rfl, rfl⟩, hl _ FH NH⟩ fun v h' tk' hP hst' hk' => ?_))
  have hv : Value.ref a = v := by simpa using hP
  subst hv
  obtain ⟨oI', hoI', hoc, hod⟩ := id hst'.1
  have F1 := kmb_fr FH hk' aI zI
  have N1 := kmb_news NH hk' hnI
  have gS1 := hk' S _ (by simpa using hSI) gS
  have s1 := Heap.SameBut.update h' S (Obj.mapSeq fun _ => #[.ref a, .ref a])
  obtain ⟨c2, hc2⟩ : ∃ c2, (h'.update S (Obj.mapSeq fun _ => #[.ref a, .ref a])).get? S = some (seqObj "list" #[.ref a, .ref a] c2) := ⟨_, get?_update_seq gS1 fun _ => #[.ref a, .ref a]⟩
  dsimp only
  refine wpAny_bind (wpAny_pure ?_)
  show wpAny _ A.in1 (updateSeq S (fun _ => #[.ref a, .ref a]) >>= _) _ _ _
  refine wpAny_bind ?_
  refine wpAny_updateSeq gS1 rfl ?_
  rw [hname]
  refine wpAny_pure ⟨plainId_quiet PySem.F.plain_min_loop _, ?_⟩
  have F2 := ksk_fr F1 s1 aS zS
  have N2 := ksk_news N1 s1 hnS
  have gI2 : (h'.update S (Obj.mapSeq fun _ => #[.ref a, .ref a])).get? I = some oI' := (s1.2 I hSI.symm).trans hoI'
  generalize h'.update S (Obj.mapSeq fun _ => #[.ref a, .ref a]) = H2 at *
  -- the second turn
  refine codeAny_builtin PySem.F.entry_min_loop ?_
  rw [Around.under_plainId PySem.F.plain_min_loop _]
  show wpAny _ A.in1 (seqItems? (.ref S) >>= _) _ _ _
  refine wpAny_bind (wpAny_seqItems hc2 rfl ?_)
  show wpAny _ A.in1 (tryCatch (pyNext (.ref I)) _ >>= _) _ _ _
  refine wpAny_bind (wpAny_tryCatch (W.item 1 _ _ _ (by rw [hsz]; decide) ⟨⟨oI', gI2, hoc, hod⟩, hl _ F2 N2⟩ fun v h3 tk3 hP3 hst3 hk3 => ?_))
  have hv : Value.ref b = v := by simpa using hP3
  subst hv
  obtain ⟨oI3, hoI3, hoc3, hod3⟩ := id hst3.1
  have F3 := kmb_fr F2 hk3 aI zI
  have N3 := kmb_news N2 hk3 hnI
  have gS3 := hk3 S _ (by simpa using hSI) hc2
  dsimp only
  refine wpAny_bind (wpAny_pure ?_)
  show wpAny _ A.in1 (tryCatch (holding [.ref b, .ref b] (richCompare .Lt (.ref b) (.ref a) >>= _)) _ >>= _) _ _ _
  refine wpAny_bind (wpAny_tryCatch (wpAny_holding (wpAny_bind (tup3_lt hu (N3 _ mb).1 (N3 _ ma).1 ?_))))
  refine wpAny_bind (wpAny_holding (wpAny_truthy_bool ?_))
  refine wpAny_bind (wpAny_letGo (wpAny_pure ?_))
  -- the third turn
  have last : ∀ (h : Heap) (tk : Nat) (v : Addr) (c : Nat), Fr h₀ L h m → News h₀ L h news → h.get? S = some (seqObj "list" #[.ref v, .ref v] c) → h.get? I = some oI3 → v = (if lex3 y1 y2 y3 x1 x2 x3 = true then b else a) →
      codeAny (model prog w) A (.builtin "min.loop" ⟨[.ref I, .none, .ref S], []⟩) (fun r s' => match r with | .ok (.ret v) => Q v s' | .ok _ => False | .error e => E e s') { s with heap := h, toks := tk } := by
    intro h tk v c F4 N4 gS4 gI4 ev
    refine codeAny_builtin PySem.F.entry_min_loop ?_
    rw [Around.under_plainId PySem.F.plain_min_loop _]
    show wpAny _ A.in1 (seqItems? (.ref S) >>= _) _ _ _
    refine wpAny_bind (wpAny_seqItems gS4 rfl ?_)
    show wpAny _ A.in1 (tryCatch (pyNext (.ref I)) _ >>= _) _ _ _
    refine wpAny_bind (wpAny_tryCatch (W.done _ _ _ ⟨⟨oI3, gI4, hoc3, hod3⟩, hl h F4 N4⟩ fun h5 tk5 hk5 => ?_))
    have F5 := kmb_fr F4 hk5 aI zI
    have N5 := kmb_news N4 hk5 hnI
    have gS5 := hk5 S _ (by simpa using hSI) gS4
    have s5 := Heap.SameBut.update h5 S (Obj.mapSeq fun _ => (#[] : Array Value))
    show wpAny _ A.in1 (updateSeq S (fun _ => #[]) >>= _) _ _ _
    refine wpAny_bind ?_
    refine wpAny_updateSeq gS5 rfl (wpAny_bind (wpAny_letGo (wpAny_pure ?_)))
    rw [ev]
    exact hQ _ _ (ksk_fr F5 s5 aS zS) (ksk_news N5 s5 hnS)
  by_cases hb : lex3 y1 y2 y3 x1 x2 x3 = true
  · have s4 := Heap.SameBut.update h3 S (Obj.mapSeq fun _ => #[.ref b, .ref b])
    obtain ⟨c4, hc4⟩ : ∃ c4, (h3.update S (Obj.mapSeq fun _ => #[.ref b, .ref b])).get? S = some (seqObj "list" #[.ref b, .ref b] c4) := ⟨_, get?_update_seq gS3 fun _ => #[.ref b, .ref b]⟩
    simp only [hb, if_true]
    refine wpAny_bind ?_
    refine wpAny_updateSeq gS3 rfl (wpAny_bind (wpAny_letGo ?_))
    rw [hname]
    refine wpAny_pure ⟨plainId_quiet PySem.F.plain_min_loop _, last _ _ b c4 (ksk_fr F3 s4 aS zS) (ksk_news N3 s4 hnS) hc4 ((s4.2 I hSI.symm).trans hoI3) (by rw [if_pos hb])⟩
  · simp only [hb, Bool.false_eq_true, if_false]
    refine wpAny_bind (wpAny_letGo ?_)
    rw [hname]
    refine wpAny_pure ⟨plainId_quiet PySem.F.plain_min_loop _, last _ _ a c2 F3 N3 gS3 hoI3 (by rw [if_neg hb])⟩
end
section
variable {prog : Program} {w : World} {A : Around} {E : Value → Shared → Prop} {s : Shared} {h₀ : Heap} {L l : Addr} {m : Str → Option Value} {news : List (Addr × Obj)} {Q : Value → Shared → Prop}
theorem min_pair2 {a b : Addr} {x1 x2 x3 y1 y2 y3 : Int} {t1 t2 t3 u1 u2 u3 : Tok} {na nb c : Nat} {its : Array Value} (hh : A.handled = none) (hu : A.in1.units < cLine) (F : Fr h₀ L s.heap m) (N : News h₀ L s.heap news) (ml : (l, PySem.W.listOf its c) ∈ news) (hi : its.toList = [.ref a, .ref b])
    (ma : (a, tup3 x1 t1 x2 t2 x3 t3 na) ∈ news) (mb : (b, tup3 y1 u1 y2 u2 y3 u3 nb) ∈ news)
    (hQ1 : lex3 y1 y2 y3 x1 x2 x3 = true → ∀ h' tk', Fr h₀ L h' m → News h₀ L h' news → Q (.ref b) { s with heap := h', toks := tk' })
    (hQ2 : lex3 y1 y2 y3 x1 x2 x3 = false → ∀ h' tk', Fr h₀ L h' m → News h₀ L h' news → Q (.ref a) { s with heap := h', toks := tk' }) :
    wpAny (model prog w) A (call (.builtin "min") [.ref l]) Q E s := by
  refine min_pair hh hu F N (fun h F' N' => kso_isList (s := { s with heap := h }) N' ml hi) ma mb fun h' tk' F' N' => ?_
  cases hb : lex3 y1 y2 y3 x1 x2 x3 with
  | true => rw [if_pos rfl]; exact hQ1 hb h' tk' F' N'
  | false => rw [if_neg (by simp)]; exact hQ2 hb h' tk' F' N'
end
/-- the lesser of the two triples of low and low + 1 is the nearest's -/
theorem lex_near {r b q : Int} (h0 : 0 ≤ r) (h1 : r < b) : lex3 (if r - b < 0 then -(r - b) else r - b) ((q + 1) % 2) (q + 1) (if r < 0 then -r else r) (q % 2) q = decide (b < 2 * r + q % 2) := by
  unfold lex3
  rw [if_pos (by omega : r - b < 0), if_neg (by omega : ¬ r < 0)]
  by_cases e1 : -(r - b) = r
  · rw [if_pos e1, if_neg (by omega)]
    exact decide_eq_decide.mpr (by omega)
  · rw [if_neg e1]
    exact decide_eq_decide.mpr (by omega)

end
section
abbrev Tell (n : Nat) (w : World) (mean : ExcName → Option Value) (mg mb : Str → Option Value) (f : Addr) (pre : Prop) (vs : List Value) (R : Tok → Value) : Prop :=
  ∀ (news : List (Addr × Obj)) (dp un : Nat) (gd : Option (List Code)) (cn : Str) (cs : Scope) (a : Addr) (ccd : Value) (cl : List (Str × Addr)) (outer : List Env) (A₀ : Around) (base h₀ : Heap) (L : Addr) (m : Str → Option Value) (s : Shared) (Q E : Value → Shared → Prop),
    Below A₀ base outer h₀ → Fr h₀ L s.heap m → (hd.heap_39 w.params).In h₀ → News h₀ L s.heap news → Top hd.view_39 (looseW hd.view_39 [Str.ofString "_ilog", Str.ofString "_log10_digits"]) mean mg mb h₀ → cs.kind = .function →
    pre → dp + n < recursionLimit → un + 8 * n < cLine →
    (∀ (t : Tok) (h' : Heap) (tk' : Nat), Fr h₀ L h' m → News h₀ L h' news → Q (R t) { s with heap := h', toks := tk' }) →
    wpAny (model Challenge.rw_dm0270_10.row.prog w) (ktrTop dp un gd cn cs L a ccd cl outer) (call (.ref f) vs) Q E s

local macro_rules | `(tactic| walk_at "call builtin:divmod") => `(tactic| (k_here; (with_reducible show wpAny _ _ (call (Value.builtin _) [Value.int _ _, Value.int _ _]) _ _ _); k_dflt (refine' divmod_N ?k1 ?k2 ?k3 ?_ ?k5; (case k1 => k_asm); (case k2 => k_asm); (case k3 => omega); (case k5 => exact Or.inl (PyProof.noPylong_of_log2 (by assumption))); k_whole); intro h' F' N'))

set_option maxRecDepth 100000 in
set_option maxHeartbeats 8000000 in
theorem t_div (w : World) (mean) (mg mb) (a b : Int) (ta tb : Tok) : Tell 1 w mean mg mb 35 (0 < b ∧ b ≤ Big) [.int a ta, .int b tb] (fun t => .int (divN a b) t) := by
  unfold Tell; k_fill
  intro news dp un gd cn cs aa ccd cl outer A₀ base h₀ L m s Q E B F X N T hk hpre hd hu hret
  obtain ⟨hb0, hb1⟩ := hpre
  have hb2 := log2_big (Int.le_of_lt hb0) hb1
  refine wpAny_call ?_
  k_dflt cell_enter
  k_steps
  all_goals cb_end hret
set_option maxRecDepth 100000 in
set_option maxHeartbeats 8000000 in
theorem t_rsh (w : World) (mean) (mg mb) (x sh : Int) (ta tb : Tok) : Tell 1 w mean mg mb 28 (0 ≤ sh ∧ sh ≤ 100) [.int x ta, .int sh tb] (fun t => .int (rshN x sh) t) := by
  unfold Tell; k_fill
  intro news dp un gd cn cs aa ccd cl outer A₀ base h₀ L m s Q E B F X N T hk hpre hd hu hret
  obtain ⟨hb0, hb1⟩ := hpre
  refine wpAny_call ?_
  k_dflt cell_enter
  k_steps
  all_goals cb_end hret
local macro_rules | `(tactic| walk_at "binaryOp FloorDiv int int") => `(tactic| (k_here; (with_reducible refine floordiv_int ?kbe ?_ (Or.inl (PyProof.noPylong_of_log2 (log2_big ?kb1 ?kb2)))); (case kbe => omega); (case kb1 => omega); (case kb2 => omega)))
set_option maxRecDepth 100000 in
set_option maxHeartbeats 8000000 in
theorem t_sqrt (w : World) (mean) (mg mb) (n a : Int) (ta tb : Tok) : Tell 1 w mean mg mb 21 (0 < n ∧ n ≤ Big ∧ 0 < a ∧ a ≤ Big) [.int n ta, .int a tb] (fun t => .int (sqrtN n) t) := by
  unfold Tell; k_fill
  intro news dp un gd cn cs aa ccd cl outer A₀ base h₀ L m s Q E B F X N T hk hpre hd hu hret
  obtain ⟨hn0, hn1, ha0, ha1⟩ := hpre
  refine wpAny_call ?_
  k_dflt cell_enter
  k_with_none
  k_with "exec While Compare cons nil" => k_while (fun _ a b => (0 < a ∧ a ≤ Big) ∧ sqP n a b) (fun _ a b => sqM n a b) "a" "b"
  k_with "state" => (first | exact ⟨⟨by assumption, by assumption⟩, by assumption, by assumption, Or.inl rfl⟩ | (rename (sqP _ _ _) => hI; have h9 := sqP_next hn0 hn1 hI; exact ⟨⟨h9.1, h9.2.1⟩, h9⟩))
  k_with "measure" => (rename (sqP _ _ _) => hI; have h9 := sqM_next hn0 hn1 hI (by assumption); exact h9)
  k_with "tree" => (rename (sqP _ _ _) => hI; exact sq_end hn0 hn1 hI (by first | assumption | omega))
  k_steps
  all_goals cb_end hret

end
section
local macro_rules | `(tactic| walk_at "call ref") => `(tactic| (k_here; (with_reducible show wpAny _ _ (call (Value.ref 35) [Value.int _ _, Value.int _ _]) _ _ _); k_dflt (refine' t_div _ _ _ _ _ _ _ _ _ _ _ _ _ _ _ _ _ _ _ _ _ _ _ _ _ _ ?k1 ?k2 ?k3 ?k4 ?k5 ?kK ?kp ?kd ?ku ?_; (case k1 => k_asm); (case k2 => k_asm); (case k3 => k_asm); (case k4 => k_asm); (case k5 => k_asm); (case kK => first | exact rfl | assumption); (case kp => first | exact ⟨by assumption, by assumption⟩ | exact ⟨by omega, by omega⟩ | k_extra "pre"); (case kd => ktr_room); (case ku => ktr_units)); intro t9 h9 tk9 F9 N9; (try dsimp only); (try k_fold)))
local macro_rules | `(tactic| walk_at "call ref") => `(tactic| (k_here; (with_reducible show wpAny _ _ (call (Value.ref 28) [Value.int _ _, Value.int _ _]) _ _ _); k_dflt (refine' t_rsh _ _ _ _ _ _ _ _ _ _ _ _ _ _ _ _ _ _ _ _ _ _ _ _ _ _ ?k1 ?k2 ?k3 ?k4 ?k5 ?kK ?kp ?kd ?ku ?_; (case k1 => k_asm); (case k2 => k_asm); (case k3 => k_asm); (case k4 => k_asm); (case k5 => k_asm); (case kK => first | exact rfl | assumption); (case kp => exact ⟨by omega, by omega⟩); (case kd => ktr_room); (case ku => ktr_units)); intro t9 h9 tk9 F9 N9; (try dsimp only); (try k_fold)))
local macro_rules | `(tactic| walk_at "call ref") => `(tactic| (k_here; (with_reducible show wpAny _ _ (call (Value.ref 21) [Value.int _ _, Value.int _ _]) _ _ _); k_dflt (refine' t_sqrt _ _ _ _ _ _ _ _ _ _ _ _ _ _ _ _ _ _ _ _ _ _ _ _ _ _ ?k1 ?k2 ?k3 ?k4 ?k5 ?kK ?kp ?kd ?ku ?_; (case k1 => k_asm); (case k2 => k_asm); (case k3 => k_asm); (case k4 => k_asm); (case k5 => k_asm); (case kK => first | exact rfl | assumption); (case kp => first | exact ⟨by assumption, by assumption, by omega, by assumption⟩ | k_extra "pre"); (case kd => ktr_room); (case ku => ktr_units)); intro t9 h9 tk9 F9 N9; (try dsimp only); (try k_fold)))
local macro_rules | `(tactic| mul_fits) => `(tactic| exact mul_300 (by assumption) (by assumption))
local macro_rules | `(tactic| walk_at "binaryOp LShift int int") => `(tactic| (k_here; (with_reducible refine lshift_int ?kb1 ?kb2 ?_); (case kb1 => omega); (case kb2 => first | exact shl_abs (by assumption) (by omega) | exact shl_300 (by assumption) (by omega) | exact shl_600 (by assumption) (by assumption) (by omega) | exact shl_300 (intBits_natAbs_le (by assumption)) (by omega))))
local macro_rules | `(tactic| walk_at "binaryOp RShift int int") => `(tactic| (k_here; (with_reducible refine rshift_int ?kb1 ?_); (case kb1 => omega)))
local macro_rules | `(tactic| walk_at "call type:str") => `(tactic| (k_here; (with_reducible show wpAny _ _ (call (Value.type "str") [Value.int _ _]) _ _ _); (refine P.str_of_int ?ks1 ?_); (case ks1 => assumption)))
local macro_rules | `(tactic| walk_at "call builtin:len") => `(tactic| (k_here; (with_reducible show wpAny _ _ (call (Value.builtin "len") [Value.str _ _]) _ _ _); (refine SBL.len ?ks1 ?_); (case ks1 => (have h9 := int_text_len_1921 (by assumption); omega))))
set_option maxRecDepth 100000 in
set_option maxHeartbeats 8000000 in
theorem t_ilog (w : World) (mean) (mg mb) (x M : Int) (ta tb : Tok) : Tell 2 w mean mg mb 43 (ilPre x M) [.int x ta, .int M tb] (fun t => .int (ilogN x M) t) := by
  unfold Tell; k_fill
  intro news dp un gd cn cs aa ccd cl outer A₀ base h₀ L m s Q E B F X N T hk hpre hd hu hret
  have hM0 := hpre.M0
  have hMB := hpre.MBig
  have hMb := hpre.Mbits
  have hMl := log2_M hpre
  have hT1 : 0 < -(-10 * ((Str.ofString (toString M)).length : Int)).fdiv (3 * 8) := (ilTT_pos hpre).1
  have hT2 : -(-10 * ((Str.ofString (toString M)).length : Int)).fdiv (3 * 8) ≤ 1000 := (ilTT_pos hpre).2
  have hBig := big_ge
  refine wpAny_call ?_
  k_dflt (refine' code_def ?k1 ?k2 ?k3 ?k4 ?k5 ?kA ?kF ?kK ?k6 ?k7 ?k8 ?k9 ?kB ?_ ?c2 ?c3 ?c4 ?c5; (case kA => exact rfl); (case kF => exact rfl); (case kK => assumption); (case k1 => k_asm); (case k2 => k_asm); (case k3 => k_asm); (case k4 => k_asm); (case k5 => k_asm); (case k6 => k_is); (case k7 => k_is); (case k8 => ktr_room); (case k9 => (refine' kp_binds ?kx ?ke; (case kx => k_in); (case ke => exact fun _ => rfl))); (case c5 => decide); (case kB => exact locs rfl); (case c2 => exact rfl); (case c3 => exact rfl); (case c4 => exact rfl); k_whole; intro g' L' h' FG' F' N' B' X' T'; (try dsimp only); (try k_lift B'); (try k_fold))
  k_with_none
  k_with "exec While BoolOp cons nil" => k_while (fun _ y R => ilF x M y R ∧ (0 ≤ R ∧ R ≤ 25) ∧ intBits y ≤ 300 ∧ (0 < M * (M + rshN y R) ∧ M * (M + rshN y R) ≤ Big) ∧ (0 < M + sqrtN (M * (M + rshN y R)) ∧ M + sqrtN (M * (M + rshN y R)) ≤ Big) ∧ intBits (M + rshN y R) ≤ 300 ∧ intBits (rshN y R) ≤ 300) (fun _ y R => (30 - R).toNat) "y" "R"
  k_with "pyIter ref" => k_state_given ["yshift", "T"] (fun ys T pre w => w = pre.foldl (horn M ys) (divN M T) ∧ (-(2 * M) ≤ w ∧ w ≤ 2 * M) ∧ intBits w ≤ 300) "w"
  k_with "state" => (first | exact ((ilJL.start hpre).full hpre).conj | (rename (ilF _ _ _ _) => hI; first | (have t9 := ilT_t1 hI (by omega) (by assumption); exact ((hI.jl.next hpre t9).full hpre).conj) | (have t9 := ilT_t2 hI (by omega) (by assumption); exact ((hI.jl.next hpre t9).full hpre).conj) | exact horn_start hpre hT1 _ | (have t9 := ilT_f1 hI (by omega) (by assumption); exact horn_state hpre rfl hI t9 (by omega) ⟨by assumption, ⟨by assumption, by assumption⟩, by assumption⟩) | (have t9 := ilT_f2 hI (by omega) (by assumption); exact horn_state hpre rfl hI t9 (by omega) ⟨by assumption, ⟨by assumption, by assumption⟩, by assumption⟩)))
  k_with "tree" => (rename (ilF _ _ _ _) => hI; first | (have t9 := ilT_f1 hI (by omega) (by assumption); exact ilog_end hI t9 (by assumption)) | (have t9 := ilT_f2 hI (by omega) (by assumption); exact ilog_end hI t9 (by assumption)))
  k_steps
  all_goals cb_end hret

end
section
local macro_rules | `(tactic| walk_at "call ref") => `(tactic| (k_here; (with_reducible show wpAny _ _ (call (Value.ref 35) [Value.int _ _, Value.int _ _]) _ _ _); k_dflt (refine' t_div _ _ _ _ _ _ _ _ _ _ _ _ _ _ _ _ _ _ _ _ _ _ _ _ _ _ ?k1 ?k2 ?k3 ?k4 ?k5 ?kK ?kp ?kd ?ku ?_; (case k1 => k_asm); (case k2 => k_asm); (case k3 => k_asm); (case k4 => k_asm); (case k5 => k_asm); (case kK => first | exact rfl | assumption); (case kp => first | exact ⟨by assumption, by assumption⟩ | exact ⟨by omega, by omega⟩ | k_extra "pre"); (case kd => ktr_room); (case ku => ktr_units)); intro t9 h9 tk9 F9 N9; (try dsimp only); (try k_fold)))
local macro_rules | `(tactic| walk_at "call ref") => `(tactic| (k_here; (with_reducible show wpAny _ _ (call (Value.ref 43) [Value.int _ _, Value.int _ _]) _ _ _); k_dflt (refine' t_ilog _ _ _ _ _ _ _ _ _ _ _ _ _ _ _ _ _ _ _ _ _ _ _ _ _ _ ?k1 ?k2 ?k3 ?k4 ?k5 ?kK ?kp ?kd ?ku ?_; (case k1 => k_asm); (case k2 => k_asm); (case k3 => k_asm); (case k4 => k_asm); (case k5 => k_asm); (case kK => first | exact rfl | assumption); (case kp => first | assumption | k_extra "pre"); (case kd => ktr_room); (case ku => ktr_units)); intro t9 h9 tk9 F9 N9; (try dsimp only); (try k_fold)))
local macro_rules | `(tactic| mul_fits) => `(tactic| k_extra "mul")
local macro_rules | `(tactic| walk_at "binaryOp Pow int int") => `(tactic| (k_here; (with_reducible refine pow_int_small ?kb1 ?kb2 ?kb3 ?_); (case kb1 => k_extra "pow0"); (case kb2 => k_extra "pow1"); (case kb3 => decide)))
local macro_rules | `(tactic| walk_at "call type:str") => `(tactic| (k_here; (with_reducible show wpAny _ _ (call (Value.type "str") [Value.int _ _]) _ _ _); (refine P.str_of_int ?ks1 ?_); (case ks1 => first | assumption | k_extra "str")))
local macro_rules | `(tactic| walk_at "call builtin:len") => `(tactic| (k_here; (with_reducible show wpAny _ _ (call (Value.builtin "len") [Value.str _ _]) _ _ _); (refine SBL.len ?ks1 ?_); (case ks1 => first | (have h9 := int_text_len_1921 (by assumption); omega) | k_extra "len")))
theorem truthy_zero {prog : Program} {w : World} {A : Around} {E : Value → Shared → Prop} {s : Shared} {a : Int} {t : Tok} {Q : Bool → Shared → Prop} (h : a = 0) (hq : Q false s) : wpAny (model prog w) A (truthy (.int a t)) Q E s :=
  PyProof.Rows.truthy_int (by subst h; exact hq)
local macro_rules | `(tactic| walk_at "truthy int") => `(tactic| (k_here; k_dflt (refine truthy_zero ?kz ?_; (case kz => assumption))))
abbrev absI (f : Int) : Int := if f < 0 then -f else f
structure DlPre (c e p : Int) : Prop where
  c0 : 0 < c
  cl : c.natAbs.log2 < 1920
  eb : intBits e ≤ 4000000
  p0 : 0 ≤ p
  p1 : p ≤ 60
  fz : dl_f c e = 0
theorem dlog_v1 {c e p : Int} (hk : 0 ≤ dl_k c e (p + 2)) (hf : ¬ dl_f c e = 0) : divN (divN (dl_f c e * log10D (p + 2 + (ndig (absI (dl_f c e)) - 1))) (10 ^ (ndig (absI (dl_f c e)) - 1).toNat) + ilogN (c * 10 ^ (dl_k c e (p + 2)).toNat) (10 ^ (p + 2).toNat)) 100 = dlogN c e p := by
  unfold dlogN dlF dl_c
  rw [if_neg hf, if_pos hk]
theorem dlog_v2 {c e p : Int} (hk : ¬ 0 ≤ dl_k c e (p + 2)) (hf : ¬ dl_f c e = 0) : divN (divN (dl_f c e * log10D (p + 2 + (ndig (absI (dl_f c e)) - 1))) (10 ^ (ndig (absI (dl_f c e)) - 1).toNat) + ilogN (divN c (10 ^ (-(dl_k c e (p + 2))).toNat)) (10 ^ (p + 2).toNat)) 100 = dlogN c e p := by
  unfold dlogN dlF dl_c
  rw [if_neg hf, if_neg hk]
theorem dlog_v3 {c e p : Int} (hk : 0 ≤ dl_k c e (p + 2)) (hf : dl_f c e = 0) : divN (0 + ilogN (c * 10 ^ (dl_k c e (p + 2)).toNat) (10 ^ (p + 2).toNat)) 100 = dlogN c e p := by
  unfold dlogN dlF dl_c
  rw [if_pos hf, if_pos hk]
theorem dlog_v4 {c e p : Int} (hk : ¬ 0 ≤ dl_k c e (p + 2)) (hf : dl_f c e = 0) : divN (0 + ilogN (divN c (10 ^ (-(dl_k c e (p + 2))).toNat)) (10 ^ (p + 2).toNat)) 100 = dlogN c e p := by
  unfold dlogN dlF dl_c
  rw [if_pos hf, if_neg hk]
set_option maxRecDepth 100000 in
set_option maxHeartbeats 8000000 in
theorem t_dlog (w : World) (mean) (mg mb) (c e p : Int) (tc te tp : Tok) : Tell 3 w mean mg mb 50 (DlPre c e p) [.int c tc, .int e te, .int p tp] (fun t => .int (dlogN c e p) t) := by
  unfold Tell; k_fill
  intro news dp un gd cn cs aa ccd cl outer A₀ base h₀ L m s Q E B F X N T hk hpre hd hu hret
  obtain ⟨hc0, hcl, heb, hp0, hp1, hfz⟩ := hpre
  have hl1 : ndig c ≤ 1921 := by
    have := int_text_len_1921 hcl
    unfold ndig; omega
  have hkb := dl_kbound (e := e) (q := p + 2) hc0 hl1 (by omega) (by omega)
  have hBig := big_ge
  have hcb : intBits c ≤ 5000000 := bits_log2 hcl
  have hkk : (e + (p + 2) - (e + ((Str.ofString (toString c)).length : Int) - if decide (1 ≤ e + ((Str.ofString (toString c)).length : Int)) = true then 1 else 0)) = dl_k c e (p + 2) := rfl
  have hff : (e + ((Str.ofString (toString c)).length : Int) - if decide (1 ≤ e + ((Str.ofString (toString c)).length : Int)) = true then 1 else 0) = dl_f c e := rfl
  have hf0 : (e + ((Str.ofString (toString c)).length : Int) - if decide (1 ≤ e + ((Str.ofString (toString c)).length : Int)) = true then 1 else 0) = 0 := hfz
  refine wpAny_call ?_
  k_dflt cell_enter
  k_with_none
  k_with "pow0" => (first | omega | assumption | exact neg_nonneg_of (by assumption))
  k_with "pow1" => (first | omega | (rw [hkk]; exact Int.le_trans hkb.1 (by decide)) | (rw [hkk]; exact neg_le_of hkb.2))
  k_with "mul" => (first | (rw [hkk]; exact mul_ten hcb (toNat_le_of hkb.1)))
  k_with "pre" => (first | (rw [hkk]; exact ⟨ten_pos _, ten_big (toNat_neg_of hkb.2)⟩) | (rw [hkk]; exact dl_pre1 hc0 (by omega) (by omega) (by rw [← hkk]; assumption)) | (rw [hkk]; exact dl_pre2 hc0 (by omega) (by omega) (by rw [← hkk]; assumption)) | exact ⟨ten_pos _, ten_big (by omega)⟩)
  k_with "tree" => (rw [hkk]; (try rw [hff]); first | exact dlog_v1 (by rw [← hkk]; assumption) (by first | assumption | (rw [← hff]; assumption)) | exact dlog_v2 (by rw [← hkk]; assumption) (by first | assumption | (rw [← hff]; assumption)) | exact dlog_v3 (by rw [← hkk]; assumption) (by first | assumption | (rw [← hff]; assumption)) | exact dlog_v4 (by rw [← hkk]; assumption) (by first | assumption | (rw [← hff]; assumption)))
  k_steps
  all_goals cb_end hret

end
section
local macro_rules | `(tactic| walk_at "binaryOp FloorDiv int int") => `(tactic| (k_here; (with_reducible refine floordiv_int ?kbe ?_ (Or.inl (PyProof.noPylong_of_log2 (log2_big ?kb1 ?kb2)))); (case kbe => omega); (case kb1 => omega); (case kb2 => omega)))
theorem near_facts {a b : Int} (hb : 0 < b) : a - a.fdiv b * b = a.fmod b ∧ a - (a.fdiv b + 1) * b = a.fmod b - b ∧ 0 ≤ a.fmod b ∧ a.fmod b < b ∧ (a.fdiv b).fmod 2 = a.fdiv b % 2 ∧ (a.fdiv b + 1).fmod 2 = (a.fdiv b + 1) % 2 ∧ (divN a b = if b < 2 * a.fmod b + a.fdiv b % 2 then a.fdiv b + 1 else a.fdiv b) := by
  have h := Int.mul_fdiv_add_fmod a b
  have h1 := fmod_lo a hb
  have h2 := fmod_hi a hb
  refine ⟨?_, ?_, h1, h2, Int.fmod_eq_emod_of_nonneg _ (by omega), Int.fmod_eq_emod_of_nonneg _ (by omega), ?_⟩
  · have e : a.fdiv b * b = b * a.fdiv b := Int.mul_comm _ _
    omega
  · have e : (a.fdiv b + 1) * b = b * a.fdiv b + b := by grind
    omega
  · unfold divN
    rw [bitAnd_m1]
    split <;> rename_i hc <;> simp only [decide_eq_true_eq] at hc
    · rw [if_pos hc]
    · rw [if_neg hc]; omega
local macro_rules | `(tactic| walk_at "eval ListComp") => `(tactic| (k_here; k_dflt (refine ListComp_V (F₀ := by k_asm) (by with_unfolding_all rfl) (by decide) (by rfl) (by decide) (by rfl) ?_)))
local macro_rules | `(tactic| walk_at "CompSrcV") => `(tactic| (k_here; k_dflt (refine CompSrcV.intro (by rfl) (by k_asm) (by k_asm) (by k_mem) (by first | size_fits | exact Nat.le_of_ble_eq_true rfl) ?_; intro g'; lcg_lit)))
local macro_rules | `(tactic| walk_at "CompRest") => `(tactic| (with_unfolding_all first | (refine LCg.CompRest.succ ?_; intro v' I' oI' C' oC' D' m' h' tk' E' hv' hC' hx' F' N' off' ne'; (first | lcg_open hv' | (obtain ⟨t9', hv9'⟩ := hv'; subst hv9'))) | refine LCg.CompRest.zero ?_))
local macro_rules | `(tactic| walk_at "CompEnd") => `(tactic| (k_dflt (refine' CompEnd_one ?F ?N ?h1 ?h2 ?h3 ?off ?S ?_; (case F => k_asm); (case N => k_asm); (case h1 => k_ne); (case h2 => k_ne); (case h3 => k_ne); (case off => k_asm); (case S => lcg_src))))
local macro_rules | `(tactic| walk_at "FinE") => `(tactic| ((unfold LCg.FinE); intro D' h' tk' F' N' o1'; (clear o1'); (try simp only [List.nil_append, List.cons_append] at N'); (try dsimp only)))
local macro_rules | `(tactic| walk_at "call builtin:min") => `(tactic| (k_here; (with_reducible show wpAny _ _ (call (Value.builtin _) [Value.ref _]) _ _ _); k_dflt (refine' min_pair2 ?k1 ?k2 ?k3 ?k4 ?k5 ?k6 ?k7 ?k8 ?_ ?_; (case k1 => with_unfolding_all rfl); (case k2 => ktr_units); (case k3 => k_asm); (case k4 => k_asm); (case k5 => k_mem); (case k6 => kso_lit); (case k7 => k_mem); (case k8 => k_mem)); (all_goals (intro e9 h9 tk9 F9 N9; (try dsimp only); (try k_fold)))))
local macro_rules | `(tactic| mul_fits) => `(tactic| k_extra "mul")
theorem fdiv_small {a b : Int} (ha : 0 ≤ a) (hb : 0 < b) : 0 ≤ a.fdiv b ∧ a.fdiv b ≤ a := by
  rw [Int.fdiv_eq_ediv_of_nonneg _ (by omega)]
  exact ⟨Int.ediv_nonneg ha (by omega), Int.ediv_le_self b ha⟩
theorem bits_40 {b : Int} (h0 : 0 < b) (h1 : b ≤ 10 ^ 40) : intBits b ≤ 1000 := by
  refine Nat.le_trans (intBits_le_of_natAbs (y := 10 ^ 40) (by generalize (10 : Int) ^ 40 = k at *; omega) (bits10 40)) (by decide)
theorem near_mul {a b : Int} (h0 : 0 < b) (h1 : b ≤ 10 ^ 40) (ha0 : 0 ≤ a) (ha : intBits a ≤ 1000) : IntMulOk (a.fdiv b) b := by
  obtain ⟨q0, q1⟩ := fdiv_small ha0 h0
  exact IntMulOk.of_le (m := 1000) (n := 1000) (intBits_le_of_natAbs (by omega) ha) (bits_40 h0 h1) (by decide)
theorem near_mul1 {a b : Int} (h0 : 0 < b) (h1 : b ≤ 10 ^ 40) (ha0 : 0 ≤ a) (ha : intBits a ≤ 1000) : IntMulOk (a.fdiv b + 1) b := by
  obtain ⟨q0, q1⟩ := fdiv_small ha0 h0
  have h2 := intBits_add_le (x := a.fdiv b) (y := 1) (intBits_le_of_natAbs (by omega) ha) (n := 1) (by decide)
  exact IntMulOk.of_le (m := 1001) (n := 1000) (by omega) (bits_40 h0 h1) (by decide)
set_option maxRecDepth 100000 in
set_option maxHeartbeats 8000000 in
theorem t_near (w : World) (mean) (mg mb) (a b : Int) (ta tb : Tok) : Tell 2 w mean mg mb 87 (0 < b ∧ b ≤ 10 ^ 40 ∧ 0 ≤ a ∧ intBits a ≤ 1000) [.int a ta, .int b tb] (fun t => .int (divN a b) t) := by
  unfold Tell; k_fill
  intro news dp un gd cn cs aa ccd cl outer A₀ base h₀ L m s Q E B F X N T hk hpre hd hu hret
  obtain ⟨hc0, hcl, ha0, hab⟩ := hpre
  have hbB : b ≤ Big := Int.le_trans hcl (ten_big (by decide))
  have hBig := big_ge1
  refine wpAny_call ?_
  k_dflt (refine' code_defC ?k1 ?k2 ?k3 ?k4 ?k5 ?kA ?kF ?kK ?k6 ?k7 ?k8 ?k9 ?kB ?kD ?_ ?c2 ?c3 ?c4; (case kA => exact rfl); (case kF => exact rfl); (case kK => assumption); (case k1 => k_asm); (case k2 => k_asm); (case k3 => k_asm); (case k4 => k_asm); (case k5 => k_asm); (case k6 => k_is); (case k7 => k_is); (case k8 => ktr_room); (case k9 => exact BindsTo.of_eq rfl); (case kB => exact rfl); (case kD => decide +kernel); (case c2 => exact rfl); (case c3 => exact rfl); (case c4 => exact rfl); k_whole; intro g' L' h' tk' cells' FG' F' N' Y' B' X' T' l1; (try k_lt l1); k_cells Y'; (try simp only [List.cons_append, List.nil_append] at N'); (try dsimp only); (try k_lift B'); (try k_fold))
  k_with_none
  k_with "mul" => first | exact near_mul hc0 hcl ha0 hab | exact near_mul1 hc0 hcl ha0 hab
  k_with "tree" => ((obtain ⟨e1, e2, e3, e4, e5, e6, e7⟩ := near_facts (a := a) hc0); rw [e7]; (rename (lex3 _ _ _ _ _ _ = _) => hx9); (simp only [e1, e2, e5, e6] at hx9); rw [lex_near e3 e4] at hx9; (simp only [decide_eq_true_eq, decide_eq_false_iff_not] at hx9); (generalize a.fdiv b = q at *); (generalize a.fmod b = r at *); clear e1 e2 e5 e6 e7; first | rw [if_pos hx9] | rw [if_neg hx9])
  k_steps
  all_goals cb_end hret

end
section
theorem pow_two {a : Int} (h : intBits a ≤ 1000) : (intBits a : Int) * 2 ≤ 2 ^ 27 := by
  have e : (2 : Int) ^ 27 = 134217728 := by decide
  rw [e]; omega
local macro_rules | `(tactic| mul_fits) => `(tactic| k_extra "mul")
local macro_rules | `(tactic| walk_at "binaryOp Pow int int") => `(tactic| (k_here; (with_reducible refine pow_int ?kb1 ?kb2 ?_); (case kb1 => decide); (case kb2 => exact pow_two (by assumption))))
local macro_rules | `(tactic| walk_at "binaryOp FloorDiv int int") => `(tactic| (k_here; (with_reducible refine floordiv_int ?kbe ?_ (Or.inl (PyProof.noPylong_of_log2 (log2_big ?kb1 ?kb2)))); (case kbe => k_extra "fd0"); (case kb1 => k_extra "fd1"); (case kb2 => k_extra "fd2")))
set_option maxRecDepth 100000 in
set_option maxHeartbeats 8000000 in
theorem t_log (w : World) (mean) (mg mb) (a b unit : Int) (ta tb tu : Tok) : Tell 1 w mean mg mb 94 (LgPre a b unit) [.int a ta, .int b tb, .int unit tu] (fun t => .int (lawLog a b unit) t) := by
  unfold Tell; k_fill
  intro news dp un gd cn cs aa ccd cl outer A₀ base h₀ L m s Q E B F X N T hk hpre hd hu hret
  have hBig := big_ge1
  obtain ⟨g1, g2, g3, g4, g5, g6⟩ := hpre.bits
  have hf := hpre.f
  obtain ⟨f1, f2, f3, f4, f5⟩ := id hf
  obtain ⟨q1, q2⟩ := hpre.p0
  refine wpAny_call ?_
  k_dflt cell_enter
  k_with_none
  k_with "exec While Compare cons nil" => k_while (fun _ power k total => (0 ≤ power ∧ (1 ≤ k ∧ k ≤ 1000)) ∧ intBits power ≤ 1000 ∧ GJ ((a - b) ^ Int.toNat 2) ((a + b) ^ Int.toNat 2) ((2 * unit * (a - b)).fdiv (a + b)) total power k) (fun _ power k total => power.toNat) "power" "k" "total"
  k_with "state" => (first | exact GJ.start q1 q2 | exact GJ.next hf (by assumption) (by assumption))
  k_with "measure" => exact GJ.meas hf (by assumption)
  k_with "mul" => (first | exact mul_1000 (by assumption) (by assumption) | exact mul_1000 (by decide) (by assumption))
  k_with "fd0" => (first | decide | omega)
  k_with "fd1" => (first | decide | omega)
  k_with "fd2" => (first | assumption | omega)
  k_with "tree" => exact GJ.done (by assumption) (by assumption)
  k_steps
  all_goals cb_end hret

end
section
local macro_rules | `(tactic| walk_at "call ref") => `(tactic| (k_here; (with_reducible show wpAny _ _ (call (Value.ref 50) [Value.int _ _, Value.int _ _, Value.int _ _]) _ _ _); k_dflt (refine' t_dlog _ _ _ _ _ _ _ _ _ _ _ _ _ _ _ _ _ _ _ _ _ _ _ _ _ _ _ _ ?k1 ?k2 ?k3 ?k4 ?k5 ?kK ?kp ?kd ?ku ?_; (case k1 => k_asm); (case k2 => k_asm); (case k3 => k_asm); (case k4 => k_asm); (case k5 => k_asm); (case kK => first | exact rfl | assumption); (case kp => k_extra "pre1"); (case kd => ktr_room); (case ku => ktr_units)); intro t9 h9 tk9 F9 N9; (try dsimp only); (try k_fold)))
local macro_rules | `(tactic| walk_at "call ref") => `(tactic| (k_here; (with_reducible show wpAny _ _ (call (Value.ref 87) [Value.int _ _, Value.int _ _]) _ _ _); k_dflt (refine' t_near _ _ _ _ _ _ _ _ _ _ _ _ _ _ _ _ _ _ _ _ _ _ _ _ _ _ ?k1 ?k2 ?k3 ?k4 ?k5 ?kK ?kp ?kd ?ku ?_; (case k1 => k_asm); (case k2 => k_asm); (case k3 => k_asm); (case k4 => k_asm); (case k5 => k_asm); (case kK => first | exact rfl | assumption); (case kp => k_extra "pre2"); (case kd => ktr_room); (case ku => ktr_units)); intro t9 h9 tk9 F9 N9; (try dsimp only); (try k_fold)))
local macro_rules | `(tactic| walk_at "call ref") => `(tactic| (k_here; (with_reducible show wpAny _ _ (call (Value.ref 94) [Value.int _ _, Value.int _ _, Value.int _ _]) _ _ _); k_dflt (refine' t_log _ _ _ _ _ _ _ _ _ _ _ _ _ _ _ _ _ _ _ _ _ _ _ _ _ _ _ _ ?k1 ?k2 ?k3 ?k4 ?k5 ?kK ?kp ?kd ?ku ?_; (case k1 => k_asm); (case k2 => k_asm); (case k3 => k_asm); (case k4 => k_asm); (case k5 => k_asm); (case kK => first | exact rfl | assumption); (case kp => k_extra "pre3"); (case kd => ktr_room); (case ku => ktr_units)); intro t9 h9 tk9 F9 N9; (try dsimp only); (try k_fold)))
local macro_rules | `(tactic| walk_at "binaryOp Pow int int") => `(tactic| (k_here; (with_reducible refine pow_int_small ?kb1 ?kb2 ?kb3 ?_); (case kb1 => omega); (case kb2 => omega); (case kb3 => decide)))
local macro_rules | `(tactic| mul_fits) => `(tactic| k_extra "mul")
local macro_rules | `(tactic| walk_at "execs cons") => `(tactic| (k_here; dsimp only))
local macro_rules | `(tactic| walk_at "execs nil") => `(tactic| (k_here; dsimp only))
local macro_rules | `(tactic| walk_at "UnrEndW") => `(tactic| (k_here; (fail_if_success plain_pass); k_dflt (walk_at "UnrEndW")))
local macro_rules | `(tactic| walk_at "eval Slice") => `(tactic| (k_here; dsimp only))
local macro_rules | `(tactic| walk_at "binaryOp Add ref ref") => `(tactic| (k_here; dsimp only))
local macro_rules | `(tactic| walk_at "exec Assign") => `(tactic| (k_here; dsimp only))
local macro_rules | `(tactic| walk_at "storeName") => `(tactic| (k_here; dsimp only))
theorem z_len {vs : List Value} {ns : List Int} (hi : IntsAre vs ns) (hn : ¬ (63 : Int) < ns.length) : vs.toArray.size ≤ sizeLine := kmk_sz hi (by rw [sizeLine_eq]; omega)
theorem z_len3 {vs : List Value} {ns : List Int} {k : Nat} {ds : List Int} (hi : IntsAre vs (ns ++ ds.drop k)) (hn : ¬ (63 : Int) < ns.length) (hd : ds.length ≤ 100) : vs.toArray.size ≤ sizeLine := kmk_sz hi (by
  rw [sizeLine_eq, List.length_append, List.length_drop]; omega)
local macro_rules | `(tactic| walk_at "subscriptTail Name Slice ref ref") => `(tactic| (k_here; (with_reducible show wpAny _ _ (subscriptTail _ (PySem.Expr.Slice _ _ none _) (Value.ref _) (Value.ref _)) _ _ _); k_dflt (refine' kmk_slice_ints ?F ?N ?l ?p ?q ?i ?m ?c ?_ ?s ?t ?z; (case F => k_asm); (case N => k_asm); (case l => kmk_list); (case p => kmk_part); (case q => kmk_part); (case i => l_ints); (case m => first | exact kmk_from (by l_ints) (Int.natCast_nonneg _) | exact kmk_upto (by l_ints) (by decide)); (case c => exact rfl); (case s => with_unfolding_all rfl); (case t => kmk_pure); (case z => first | exact Nat.le_of_ble_eq_true rfl | exact z_len3 (by assumption) (by assumption) (by decide) | exact z_len (by assumption) (by assumption))); intro D' ws' h' F' N' l1 hI' hC' hL'; (clear hC' hL'); (try simp only [Int.reduceToNat] at hI'); (try k_lt l1); (try k_sweep)))
theorem span_ok {p : Int} (hp : 2 ≤ p) : 0 < (3 * 10 ^ (p + 2).toNat : Int).fdiv 1000 := by
  have h : (10 : Int) ^ 4 ≤ 10 ^ (p + 2).toNat := ten_le (by omega)
  have h2 := Int.mul_fdiv_add_fmod (3 * 10 ^ (p + 2).toNat) 1000
  have h3 := fmod_hi (3 * 10 ^ (p + 2).toNat) (n := 1000) (by decide)
  have e : (10 : Int) ^ 4 = 10000 := by decide
  omega
/-- what holds of y -/
def Y10 (p y : Int) : Prop := 0 < y ∧ 1000 * y ≤ 3 * 10 ^ (p + 2).toNat
theorem y10 {p x : Int} (hp : 2 ≤ p) : Y10 p (1 + x.fmod ((3 * 10 ^ (p + 2).toNat : Int).fdiv 1000)) ∧ Y10 p ((3 * 10 ^ (p + 2).toNat : Int).fdiv 1000 - x.fmod ((3 * 10 ^ (p + 2).toNat : Int).fdiv 1000)) := by
  have h0 := span_ok hp
  have h2 := Int.mul_fdiv_add_fmod (3 * 10 ^ (p + 2).toNat) 1000
  have h3 := fmod_lo (3 * 10 ^ (p + 2).toNat) (n := 1000) (by decide)
  have h4 := fmod_lo x h0
  have h5 := fmod_hi x h0
  unfold Y10
  generalize (3 * (10 : Int) ^ (p + 2).toNat).fdiv 1000 = s at *
  omega
theorem two_casesP {a1 a2 : Int} {t1 t2 : Tok} {i : Nat} {v : Value} {P : Int → Prop} (h : [Value.int a1 t1, .int a2 t2][i]? = some v) (p1 : P a1) (p2 : P a2) : ∃ y t, v = .int y t ∧ P y := by
  match i, h with
  | 0, h => simp at h; exact ⟨_, _, h.symm, p1⟩
  | 1, h => simp at h; exact ⟨_, _, h.symm, p2⟩
  | k + 2, h => simp at h
/-- what holds of plain -/
def N10 (p plain : Int) : Prop := -(3 * 10 ^ (p + 2).toNat) ≤ 1000 * (plain - 10 ^ (p + 2).toNat) ∧ 1000 * (plain - 10 ^ (p + 2).toNat) ≤ 3 * 10 ^ (p + 2).toNat
theorem n10 {p y : Int} (h : Y10 p y) : N10 p (10 ^ (p + 2).toNat + y) ∧ N10 p (10 ^ (p + 2).toNat - y) := by
  unfold Y10 at h
  unfold N10
  omega
/-- what holds of c and more -/
def C10 (p plain c more : Int) : Prop := ∃ tail, c = plain * 10 ^ more.toNat + tail ∧ L10 p more plain tail
theorem c10a {p plain : Int} (h : N10 p plain) (h0 : 2 ≤ p) (h1 : p ≤ 51) : C10 p plain plain 0 := ⟨0, by show plain = plain * 10 ^ 0 + 0; rw [Int.pow_zero]; omega, ⟨h0, h1, by omega, by omega, h.1, h.2, by omega, by show (0 : Int) < 10 ^ 0; rw [Int.pow_zero]; omega⟩⟩
theorem c10b {p plain more tail : Int} (h : N10 p plain) (h0 : 2 ≤ p) (h1 : p ≤ 51) (m0 : 0 ≤ more) (m1 : more ≤ 40) (t0 : 0 ≤ tail) (t1 : tail < 10 ^ more.toNat) : C10 p plain (plain * 10 ^ more.toNat + tail) more := ⟨tail, rfl, ⟨h0, h1, m0, m1, h.1, h.2, t0, t1⟩⟩
theorem pair_cases2 {I : Addr} {oI : Obj} {D1 D2 : Addr} {f1 f2 t1 t2 : Int} {a1 a2 b1 b2 : Tok} {k1 k2 : Nat} {i : Nat} {v : Value} {P : Int → Int → Prop} {led : List (Addr × Obj)} {h₀ hh : Heap} {L : Addr} (N : News h₀ L hh ((I, oI) :: led)) (h : ([.ref D1, .ref D2] : List Value)[i]? = some v)
    (m1 : (D1, tup2 f1 a1 t1 b1 k1) ∈ led) (m2 : (D2, tup2 f2 a2 t2 b2 k2) ∈ led) (p1 : P f1 t1) (p2 : P f2 t2) : ∃ T f a t b k, v = .ref T ∧ News h₀ L hh ((T, tup2 f a t b k) :: (I, oI) :: led) ∧ P f t := by
  have cm : ∀ {p : Addr × Obj}, p ∈ led → News h₀ L hh (p :: (I, oI) :: led) := fun {p} hp q hq => by
    rcases List.mem_cons.mp hq with e | hq
    · subst e; exact N _ (List.mem_cons_of_mem _ hp)
    · exact N _ hq
  match i, h with
  | 0, h => simp at h; exact ⟨_, _, _, _, _, _, h.symm, cm m1, p1⟩
  | 1, h => simp at h; exact ⟨_, _, _, _, _, _, h.symm, cm m2, p2⟩
  | k + 2, h => simp at h
local macro_rules | `(tactic| walk_at "subscriptTail") => `(tactic| (k_here; (fail_if_success (with_reducible show wpAny _ _ (subscriptTail (PySem.Expr.Name _ _) _ _ _) _ _ _)); (with_reducible show wpAny _ _ (subscriptTail _ (PySem.Expr.Slice _ _ none _) (Value.ref _) (Value.ref _)) _ _ _); k_dflt (refine kba_turn (value' := PySem.Expr.Name (PySem.Str.ofString "_") ⟨0, 0, 0, 0⟩) (fun _ => rfl) ?_)))
local macro_rules | `(tactic| walk_at "subscriptTail Name Constant ref int") => `(tactic| (k_here; k_dflt (refine' PyProof.Rows.item_list (x := Value.int _ _) ?hl ?h0 ?hf ?hx ?_; (case hl => kso_list); (case h0 => decide); (case hf => decide); (case hx => exact rfl); k_whole)))
theorem take_fit {ns : List Int} : (List.take 4 ns).length < 2 ^ 62 := by
  rw [List.length_take]; omega
local macro_rules | `(tactic| walk_at "call builtin:len") => `(tactic| (k_here; (with_reducible show wpAny _ _ (call (Value.builtin _) [Value.ref _]) _ _ _); k_dflt (refine' len_ints_fit ?k1 ?k2 ?k3 ?_; (case k1 => is_list); (case k2 => assumption); (case k3 => exact take_fit); k_whole)))
theorem ints4 {vs : List Value} {a b c d : Int} (h : IntsAre vs [a, b, c, d]) : ∃ ta tb tc td, vs = [.int a ta, .int b tb, .int c tc, .int d td] := by
  cases h with
  | cons _ ta h => cases h with
    | cons _ tb h => cases h with
      | cons _ tc h => cases h with
        | cons _ td h => cases h; exact ⟨ta, tb, tc, td, rfl⟩
theorem take4 {ns : List Int} {vs : List Value} {d1 d2 d3 d4 : Int} (h : IntsAre vs (List.take 4 ns ++ List.drop (((List.take 4 ns).length : Nat) : Int).toNat [d1, d2, d3, d4])) : ∃ a b c d ta tb tc td, vs = [.int a ta, .int b tb, .int c tc, .int d td] := by
  have e : (((List.take 4 ns).length : Nat) : Int).toNat = (List.take 4 ns).length := by omega
  rw [e] at h
  match ns, h with
  | [], h => obtain ⟨ta, tb, tc, td, e⟩ := ints4 h; exact ⟨_, _, _, _, ta, tb, tc, td, e⟩
  | [a], h => obtain ⟨ta, tb, tc, td, e⟩ := ints4 h; exact ⟨_, _, _, _, ta, tb, tc, td, e⟩
  | [a, b], h => obtain ⟨ta, tb, tc, td, e⟩ := ints4 h; exact ⟨_, _, _, _, ta, tb, tc, td, e⟩
  | [a, b, c], h => obtain ⟨ta, tb, tc, td, e⟩ := ints4 h; exact ⟨_, _, _, _, ta, tb, tc, td, e⟩
  | a :: b :: c :: d :: r, h => obtain ⟨ta, tb, tc, td, e⟩ := ints4 (a := a) (b := b) (c := c) (d := d) (by simpa using h); exact ⟨_, _, _, _, ta, tb, tc, td, e⟩
local macro_rules | `(tactic| walk_at "storeName") => `(tactic| ((with_reducible rename IntsAre _ (List.take _ _ ++ List.drop _ _) => hI9); k_dflt (obtain ⟨x1, x2, x3, x4, u1, u2, u3, u4, e9⟩ := take4 hI9); (subst e9); (clear hI9); (have hp0 := fmod_lo x1 (n := 50) (by decide)); (have hp1 := fmod_hi x1 (n := 50) (by decide)); (have hq0 := fmod_lo x3 (n := 40) (by decide)); (have hq1 := fmod_hi x3 (n := 40) (by decide)); (have hs0 := span_ok (p := 2 + x1.fmod 50) (by omega)); (have ht0 := fmod_lo x4 (n := 10 ^ (1 + x3.fmod 40).toNat) (ten_pos _)); (have ht1 := fmod_hi x4 (n := 10 ^ (1 + x3.fmod 40).toNat) (ten_pos _)); walk_at "storeName"))
local macro_rules | `(tactic| walk_at "exec For Name Tuple cons nil") => `(tactic| (k_here; (rename Fr _ _ _ _ => lF'); (with_unfolding_all refine' For_turns lF' ?_; k_whole)))
local macro_rules | `(tactic| walk_at "exec For Tuple Tuple cons nil") => `(tactic| (k_here; (rename Fr _ _ _ _ => lF'); (with_unfolding_all refine' For_turns lF' ?_; k_whole)))
local macro_rules | `(tactic| walk_at "pyIter ref") => `(tactic| (k_here; (with_reducible show wpAny _ _ (pyIter (Value.ref _)) (fun it s₂ => TurnsAt _ _ _ _ _ (PySem.Expr.Name (PySem.Str.ofString "y") _) _ _ _ it s₂) _ _); k_dflt (refine' tup_zero (vs := [_, _]) [PySem.Str.ofString "y", PySem.Str.ofString "plain", PySem.Str.ofString "c", PySem.Str.ofString "more", PySem.Str.ofString "told", PySem.Str.ofString "x", PySem.Str.ofString "goal"] ?hh ?F ?N ?hm ?hc ?hd ?_ ?_; (case hh => exact rfl); (case F => k_asm); (case N => k_asm); (case hm => k_mem); (case hc => exact rfl); (case hd => exact rfl)); (all_goals (first | (intro I9 l9 i9 v9 u9 h9 tk9 o9 c9 hv9 F9 N9; k_dflt (have q9 := two_casesP hv9 (y10 (by omega)).1 (y10 (by omega)).2); (obtain ⟨y9, t9, e9, hY9⟩ := q9); subst e9; clear hv9; (try k_lt l9); (try k_fold)) | ((intro u9 h9 tk9 F9 N9); (fail_if_success (with_reducible intro q9)))))))
local macro_rules | `(tactic| walk_at "pyIter ref") => `(tactic| (k_here; (with_reducible show wpAny _ _ (pyIter (Value.ref _)) (fun it s₂ => TurnsAt _ _ _ _ _ (PySem.Expr.Name (PySem.Str.ofString "plain") _) _ _ _ it s₂) _ _); k_dflt (refine' tup_zero (vs := [_, _]) [PySem.Str.ofString "plain", PySem.Str.ofString "c", PySem.Str.ofString "more", PySem.Str.ofString "told", PySem.Str.ofString "x", PySem.Str.ofString "goal"] ?hh ?F ?N ?hm ?hc ?hd ?_ ?_; (case hh => exact rfl); (case F => k_asm); (case N => k_asm); (case hm => k_mem); (case hc => exact rfl); (case hd => exact rfl)); (all_goals (first | (intro I9 l9 i9 v9 u9 h9 tk9 o9 c9 hv9 F9 N9; k_dflt (have q9 := two_casesP hv9 (n10 (by assumption)).1 (n10 (by assumption)).2); (obtain ⟨y9, t9, e9, hN9⟩ := q9); subst e9; clear hv9; (try k_lt l9); (try k_fold)) | ((intro u9 h9 tk9 F9 N9); (fail_if_success (with_reducible intro q9)))))))
local macro_rules | `(tactic| walk_at "pyIter ref") => `(tactic| (k_here; (with_reducible show wpAny _ _ (pyIter (Value.ref _)) (fun it s₂ => TurnsAt _ _ _ _ _ (PySem.Expr.Tuple _ _ _) _ _ _ it s₂) _ _); k_dflt (refine' tup_zero (vs := [_, _]) [PySem.Str.ofString "c", PySem.Str.ofString "more", PySem.Str.ofString "told", PySem.Str.ofString "x", PySem.Str.ofString "goal"] ?hh ?F ?N ?hm ?hc ?hd ?_ ?_; (case hh => exact rfl); (case F => k_asm); (case N => k_asm); (case hm => k_mem); (case hc => exact rfl); (case hd => exact rfl)); (all_goals (first | (intro I9 l9 i9 v9 u9 h9 tk9 o9 c9 hv9 F9 N9; k_dflt (have q9 := pair_cases2 (P := C10 _ _) N9 hv9 (by k_mem) (by k_mem) (c10a (by assumption) (by omega) (by omega)) (c10b (by assumption) (by omega) (by omega) (by omega) (by omega) (by assumption) (by assumption))); (obtain ⟨T9, s9, sa9, f9, fb9, k9, e9, N9', hP9⟩ := q9); subst e9; clear hv9; (clear N9); k_dflt (obtain ⟨tl9, ec9, hL9⟩ := hP9); subst ec9; (have hm0 := L10.m0 hL9); (have hm1 := L10.m1 hL9); (try k_lt l9); (try k_fold)) | ((intro u9 h9 tk9 F9 N9); (fail_if_success (with_reducible intro q9)))))))
local macro_rules | `(tactic| walk_at "TurnEnd0") => `(tactic| ((dsimp only [TurnEnd0]); exact ⟨_, _, _, rfl, by k_asm, cb_drop (by k_asm) (by first | exact fun p hp => hp | exact fun p hp => List.mem_cons_of_mem _ hp | kcj_all), by (intro y h2; (simp only [List.contains_cons, List.contains_nil, Bool.or_false, Bool.or_eq_false_iff, beq_eq_false_iff_ne, ne_eq] at h2); (simp [h2]))⟩))
theorem L10.dpre {p more plain tail : Int} (h : L10 p more plain tail) : DlPre (plain * 10 ^ more.toNat + tail) (-p - 2 - more) p := by
  obtain ⟨c0, c1, c2⟩ := h.c0
  have h0 := h.p0; have h1 := h.p1; have m0 := h.m0; have m1 := h.m1
  exact ⟨c1, log2_200 c1 c2, Nat.le_trans (bits_sm (by omega) (by omega)) (by decide), by omega, by omega, h.f⟩
theorem bits_200 {c : Int} (h0 : 0 < c) (h : c ≤ 10 ^ 200) : intBits c ≤ 1000 := by
  refine Nat.le_trans (intBits_le_of_natAbs (y := 10 ^ 200) ?_ (bits10 200)) (by decide)
  generalize (10 : Int) ^ 200 = z at *
  omega
theorem L10.npre {p more plain tail : Int} (h : L10 p more plain tail) : 0 < (10 : Int) ^ more.toNat ∧ (10 : Int) ^ more.toNat ≤ 10 ^ 40 ∧ 0 ≤ plain * 10 ^ more.toNat + tail ∧ intBits (plain * 10 ^ more.toNat + tail) ≤ 1000 := by
  obtain ⟨c0, c1, c2⟩ := h.c0
  have m0 := h.m0; have m1 := h.m1
  exact ⟨ten_pos _, ten_le (by omega), by omega, bits_200 c1 c2⟩
theorem one_70 {M : Int} (h0 : 10000 ≤ M) (h1 : M ≤ 10 ^ 53) : 0 ≤ M * 10 ^ Int.toNat 8 ∧ M * 10 ^ Int.toNat 8 ≤ 10 ^ 70 ∧ 10 * M ≤ 10 ^ 60 := by
  have e8 : (10 : Int) ^ Int.toNat 8 = 100000000 := by decide
  have e1 : (10 : Int) ^ 70 = 100000000000000000 * 10 ^ 53 := by decide +kernel
  have e2 : (10 : Int) ^ 60 = 10000000 * 10 ^ 53 := by decide +kernel
  rw [e8, e1, e2]
  generalize (10 : Int) ^ 53 = z at *
  omega
theorem L10.up_pre {p more plain tail x M : Int} (h : L10 p more plain tail) (hx : divN (plain * 10 ^ more.toNat + tail) (10 ^ more.toNat) = x) (hM : (10 : Int) ^ (p + 2).toNat = M) (c : ¬ x < M) : LgPre x M (M * 10 ^ Int.toNat 8) := by
  have hn := h.near
  obtain ⟨hM0, hM1⟩ := h.M
  rw [hx, hM] at hn
  rw [hM] at hM0 hM1
  obtain ⟨o1, o2, o3⟩ := one_70 hM0 hM1
  refine ⟨by omega, by omega, by omega, Int.le_trans ?_ o3, o1, o2⟩
  omega
theorem L10.dn_pre {p more plain tail x M : Int} (h : L10 p more plain tail) (hx : divN (plain * 10 ^ more.toNat + tail) (10 ^ more.toNat) = x) (hM : (10 : Int) ^ (p + 2).toNat = M) (c : x < M) : LgPre M x (M * 10 ^ Int.toNat 8) := by
  have hn := h.near
  obtain ⟨hM0, hM1⟩ := h.M
  rw [hx, hM] at hn
  rw [hM] at hM0 hM1
  obtain ⟨o1, o2, o3⟩ := one_70 hM0 hM1
  refine ⟨by omega, by omega, by omega, Int.le_trans ?_ o3, o1, o2⟩
  omega
theorem L10.tbits {p more plain tail : Int} (h : L10 p more plain tail) : intBits (dlogN (plain * 10 ^ more.toNat + tail) (-p - 2 - more) p) ≤ 600 := by
  rw [h.told]
  exact intBits_divN_le (by omega) (ilog_bits h.pre)
theorem t2_bits (t : Int) : intBits (t.fmod 2) ≤ 64 := by
  have h1 := fmod_lo t (n := 2) (by decide)
  have h2 := fmod_hi t (n := 2) (by decide)
  exact bits_sm (by omega) (by omega)
theorem L10.mul1 {p more plain tail : Int} (h : L10 p more plain tail) : IntMulOk 100 (dlogN (plain * 10 ^ more.toNat + tail) (-p - 2 - more) p) := IntMulOk.of_le (m := 64) (n := 600) (bits_sm (by decide) (by decide)) h.tbits (by decide)
theorem L10.mul2 {p more plain tail : Int} (h : L10 p more plain tail) : IntMulOk (100 * dlogN (plain * 10 ^ more.toNat + tail) (-p - 2 - more) p - 50 + (dlogN (plain * 10 ^ more.toNat + tail) (-p - 2 - more) p).fmod 2) (10 ^ Int.toNat 8) := by
  have a1 := intBits_mul_le (bits_sm (a := 100) (by decide) (by decide)) h.tbits
  have a2 := intBits_sub_le a1 (bits_sm (a := 50) (by decide) (by decide))
  have a3 := intBits_add_le a2 (t2_bits (dlogN (plain * 10 ^ more.toNat + tail) (-p - 2 - more) p))
  exact mul_ten (Nat.le_trans a3 (by decide)) (by decide)
theorem L10.mul3 {p more plain tail : Int} (h : L10 p more plain tail) : IntMulOk (100 * dlogN (plain * 10 ^ more.toNat + tail) (-p - 2 - more) p + 50 - (dlogN (plain * 10 ^ more.toNat + tail) (-p - 2 - more) p).fmod 2) (10 ^ Int.toNat 8) := by
  have a1 := intBits_mul_le (bits_sm (a := 100) (by decide) (by decide)) h.tbits
  have a2 := intBits_add_le a1 (bits_sm (a := 50) (by decide) (by decide))
  have a3 := intBits_sub_le a2 (t2_bits (dlogN (plain * 10 ^ more.toNat + tail) (-p - 2 - more) p))
  exact mul_ten (Nat.le_trans a3 (by decide)) (by decide)
theorem N10.mul {p plain : Int} {n : Nat} (h : N10 p plain) (h0 : 2 ≤ p) (h1 : p ≤ 51) (hn : n ≤ 1000) : IntMulOk plain (10 ^ n) := by
  refine mul_ten (Nat.le_trans (bits_200 (c := plain) ?_ ?_) (by decide)) (by omega)
  · have : (10 : Int) ^ 4 ≤ 10 ^ (p + 2).toNat := ten_le (by omega)
    have e : (10 : Int) ^ 4 = 10000 := by decide
    unfold N10 at h
    omega
  · have k1 : (10 : Int) ^ (p + 2).toNat ≤ 10 ^ 53 := ten_le (by omega)
    have k2 : (10 : Int) ^ 4 ≤ 10 ^ (p + 2).toNat := ten_le (by omega)
    have k3 : (10 : Int) ^ 54 ≤ 10 ^ 200 := ten_le (by omega)
    have e : (10 : Int) ^ 54 = 10 * 10 ^ 53 := by decide +kernel
    unfold N10 at h
    rw [e] at k3
    generalize (10 : Int) ^ 200 = z at *
    generalize (10 : Int) ^ 53 = z2 at *
    omega
theorem le_no {prog : Program} {w : World} {A : Around} {E : Value → Shared → Prop} {s : Shared} {a b : Int} {t u : Tok} {Q : Value → Shared → Prop} (h : ¬ a ≤ b) (hq : Q (.bool false) s) : wpAny (model prog w) A (compareOp .LtE (.int a t) (.int b u)) Q E s :=
  le_int (by rw [decide_eq_false h]; exact hq)
theorem ge_no {prog : Program} {w : World} {A : Around} {E : Value → Shared → Prop} {s : Shared} {a b : Int} {t u : Tok} {Q : Value → Shared → Prop} (h : ¬ b ≤ a) (hq : Q (.bool false) s) : wpAny (model prog w) A (compareOp .GtE (.int a t) (.int b u)) Q E s :=
  ge_int (by have e : decide (a ≥ b) = false := decide_eq_false h
             first | (rw [e]; exact hq) | (simp only [e]; exact hq) | simpa [e] using hq)
local macro_rules | `(tactic| walk_at "compareOp LtE int int") => `(tactic| (k_here; k_dflt (refine le_no ?kne ?_; (case kne => k_extra "le"))))
local macro_rules | `(tactic| walk_at "compareOp GtE int int") => `(tactic| (k_here; k_dflt (refine ge_no ?kne ?_; (case kne => k_extra "ge"))))
set_option maxRecDepth 100000 in
set_option maxHeartbeats 8000000 in
theorem foo : PySem.Challenge.rw_dm0270_10.Holds := hd (by
  k_go0
  (rename Heap.CodeRec _ _ _ => hX9; clear hX9)
  (rename (Dflts ..) => hX9; clear hX9)
  dsimp only
  (with_reducible change wpAny _ _ _ _ _ _)
  k_fold
  k_with_none
  k_with "mul" => (first | exact mul_ten (Nat.le_trans (bits10 _) (by omega)) (by decide) | exact mul_ten (Nat.le_trans (bits_sm (by decide) (by decide)) (by decide)) (by omega) | exact N10.mul (by assumption) (by omega) (by omega) (by omega) | exact L10.mul1 (by assumption) | exact L10.mul2 (by assumption) | exact L10.mul3 (by assumption) | exact IntMulOk.of_le (m := 64) (n := 300) (bits_sm (by decide) (by decide)) (Nat.le_trans (bits10 _) (by omega)) (by decide))
  k_with "pre1" => exact L10.dpre (by assumption)
  k_with "pre2" => exact L10.npre (by assumption)
  k_with "pre3" => (first | exact L10.up_pre (by assumption) rfl rfl (by assumption) | exact L10.dn_pre (by assumption) rfl rfl (by assumption))
  k_with "le" => (first | exact (L10.up (by assumption) rfl rfl rfl (by assumption)).1 | exact (L10.dn (by assumption) rfl rfl rfl (by assumption)).1)
  k_with "ge" => (first | exact (L10.up (by assumption) rfl rfl rfl (by assumption)).2 | exact (L10.dn (by assumption) rfl rfl rfl (by assumption)).2)
  k_steps)

end
end Mine
theorem PySem.Challenge.cw_dm0270_10_holds : PySem.Challenge.rw_dm0270_10.Holds := by
  exact Mine.foo
