import PyProof.Rows.All
import Wide.All
import OpenK.AllK
import Wide.FinOn
import PySem.Challenge.RW_dm0270_03
open PySem PySem.W PyProof.Rows PySem.Calls
open PySem.Builtin.Int (intBits)
set_option Elab.async false
set_option linter.unusedVariables false
set_option rowWalk.seconds 0
namespace Mine
set_option maxRecDepth 100000 in
set_option maxHeartbeats 8000000 in
open_top hd for PySem.Challenge.rw_dm0270_03
local macro_rules | `(tactic| walk_at $s:str) => do let t := Lean.Syntax.mkStrLit ("! " ++ s.getString); `(tactic| k_extra $t)
local macro_rules | `(tactic| mul_fits) => `(tactic| k_extra "mul")
section
def divN (a b : Int) : Int := a.fdiv b + (if decide (b < 2 * a.fmod b + Builtin.bitAnd (a.fdiv b) 1) = true then 1 else 0)
def rshN (x sh : Int) : Int := x.fdiv (2 ^ sh.toNat) + (if decide (1 * 2 ^ sh.toNat < 2 * Builtin.bitAnd x (1 * 2 ^ sh.toNat - 1) + Builtin.bitAnd (x.fdiv (2 ^ sh.toNat)) 1) = true then 1 else 0)
def isq : Nat → Nat → Nat
  | 0, _ => 0
  | k + 1, n => if n = 0 then 0 else
      let r := 2 * isq k (n / 4)
      if (r + 1) * (r + 1) ≤ n then r + 1 else r
@[irreducible] def sqrtN (n : Int) : Int :=
  let r : Int := isq 10000 n.toNat
  if r * r + r < n then r + 1 else r
def nxt (n a : Int) : Int := (a - (-n).fdiv a).fdiv 2
def IsSq (n s : Int) : Prop := 0 < s ∧ s * s - s < n ∧ n ≤ s * s + s

theorem isq_spec : ∀ (k n : Nat), n < 4 ^ k → isq k n * isq k n ≤ n ∧ n < (isq k n + 1) * (isq k n + 1)
  | 0, n, h => by simp at h; subst h; simp [isq]
  | k + 1, n, h => by
    unfold isq
    split
    · next h0 => subst h0; simp
    · have ih := isq_spec k (n / 4) (by rw [Nat.pow_succ] at h; omega)
      generalize isq k (n / 4) = r at ih
      obtain ⟨h1, h2⟩ := ih
      dsimp only
      have e1 : (2 * r) * (2 * r) = 4 * (r * r) := by grind
      have e2 : (2 * r + 1) * (2 * r + 1) = 4 * (r * r) + 4 * r + 1 := by grind
      have e3 : (2 * r + 1 + 1) * (2 * r + 1 + 1) = 4 * ((r + 1) * (r + 1)) := by grind
      split
      · next h3 => exact ⟨h3, by rw [e3]; omega⟩
      · next h3 => exact ⟨by rw [e1]; omega, by omega⟩

@[irreducible] def Big : Int := 2 ^ 8000
theorem big_toNat {n : Int} (h : n ≤ Big) : n.toNat < 4 ^ 10000 := by
  have h1 : (2 ^ 8000 : Nat) < 4 ^ 10000 := by decide +kernel
  have h2 : n.toNat ≤ 2 ^ 8000 := by
    unfold Big at h
    refine Int.toNat_le.mpr ?_
    have e : ((2 ^ 8000 : Nat) : Int) = (2 : Int) ^ 8000 := Int.natCast_pow 2 8000
    rw [e]; exact h
  exact Nat.lt_of_le_of_lt h2 h1
theorem log2_big {n : Int} (h0 : 0 ≤ n) (h : n ≤ Big) : n.natAbs.log2 < 9000 := by
  by_cases hz : n.natAbs = 0
  · rw [hz]; decide +kernel
  · refine (Nat.log2_lt hz).mpr ?_
    have h1 : (2 ^ 8000 : Nat) < 2 ^ 9000 := by decide +kernel
    refine Nat.lt_of_le_of_lt ?_ h1
    unfold Big at h
    have e : ((2 ^ 8000 : Nat) : Int) = (2 : Int) ^ 8000 := Int.natCast_pow 2 8000
    rw [← e] at h
    generalize (2 ^ 8000 : Nat) = k at h ⊢
    omega
theorem sqrtN_spec {n : Int} (h0 : 0 < n) (h1 : n ≤ Big) : IsSq n (sqrtN n) := by
  have hk := isq_spec 10000 n.toNat (big_toNat h1)
  unfold sqrtN IsSq
  clear h1
  generalize isq 10000 n.toNat = r at hk
  obtain ⟨h2, h3⟩ := hk
  have en : (n.toNat : Int) = n := by omega
  have h2' : (r : Int) * r ≤ n := by rw [← en]; exact_mod_cast h2
  have h3' : n < ((r : Int) + 1) * (r + 1) := by rw [← en]; exact_mod_cast h3
  dsimp only
  have e : ((r : Int) + 1) * (r + 1) = r * r + 2 * r + 1 := by grind
  rw [e] at h3'
  clear h2 h3
  split
  · next h4 =>
    clear en h2' 
    generalize (r : Int) = q at *
    generalize n.toNat = zz at *
    exact ⟨by omega, by grind, by grind⟩
  · next h4 =>
    have hr0 : 0 ≤ (r : Int) := by omega
    generalize (r : Int) = q at *
    have hq : 0 < q := by
      refine Int.not_le.mp fun h => ?_
      have hq : q = 0 := by omega
      subst hq
      omega
    exact ⟨hq, by grind, by grind⟩

theorem ceil_spec {n a : Int} (ha : 0 < a) : n ≤ (-(-n).fdiv a) * a ∧ (-(-n).fdiv a) * a < n + a := by
  have h := Int.mul_fdiv_add_fmod (-n) a
  have h1 := fmod_lo (-n) ha
  have h2 := fmod_hi (-n) ha
  have e : (-(-n).fdiv a) * a = - (a * (-n).fdiv a) := by grind
  rw [e]; omega
theorem fdiv2 (x : Int) : 2 * x.fdiv 2 ≤ x ∧ x < 2 * x.fdiv 2 + 2 := by
  have h := Int.mul_fdiv_add_fmod x 2
  have h1 := fmod_lo x (n := 2) (by omega)
  have h2 := fmod_hi x (n := 2) (by omega)
  omega
theorem nxt_ge {n a s : Int} (ha : 0 < a) (hn : 0 < n) (hs : IsSq n s) : s ≤ nxt n a := by
  obtain ⟨s0, s1, s2⟩ := hs
  unfold nxt
  have hc := ceil_spec (n := n) ha
  have h2 := fdiv2 (a - (-n).fdiv a)
  generalize (-n).fdiv a = d at *
  suffices h : 2 * s ≤ a - d by omega
  refine Int.not_lt.mp fun hlt => ?_
  have hd : 0 < -d := by
    refine Int.not_le.mp fun h => ?_
    have : -d * a ≤ 0 := Int.mul_nonpos_of_nonpos_of_nonneg h (by omega)
    omega
  have h4 : (a - d) * (a - d) ≤ (2 * s - 1) * (2 * s - 1) := Int.mul_le_mul (by omega) (by omega) (by omega) (by omega)
  have h5 : 0 ≤ (a + d) * (a + d) := by
    rcases Int.le_total 0 (a + d) with h | h
    · exact Int.mul_nonneg h h
    · exact Int.mul_nonneg_of_nonpos_of_nonpos h h
  grind
theorem nxt_lt {n a s : Int} (hs : IsSq n s) (h : s < a) : nxt n a < a := by
  obtain ⟨s0, s1, s2⟩ := hs
  unfold nxt
  have ha : 0 < a := by omega
  have hc := ceil_spec (n := n) ha
  have h2 := fdiv2 (a - (-n).fdiv a)
  generalize (-n).fdiv a = d at *
  suffices h : -d < a by omega
  refine Int.not_le.mp fun hle => ?_
  have h3 : a * a ≤ -d * a := Int.mul_le_mul_of_nonneg_right hle (by omega)
  have h4 : (s + 1) * (s + 1) ≤ a * a := Int.mul_le_mul (by omega) (by omega) (by omega) (by omega)
  have h5 : s * s + s ≤ a * a - a := by
    have : (s + 1) * s ≤ a * (a - 1) := Int.mul_le_mul (by omega) (by omega) (by omega) (by omega)
    grind
  omega
theorem nxt_eq {n s : Int} (hs : IsSq n s) : nxt n s = s := by
  obtain ⟨s0, s1, s2⟩ := hs
  unfold nxt
  have hc := ceil_spec (n := n) s0
  have h2 := fdiv2 (s - (-n).fdiv s)
  generalize (-n).fdiv s = d at *
  have h3 : s ≤ -d := by
    refine Int.not_lt.mp fun h => ?_
    have : -d * s ≤ (s - 1) * s := Int.mul_le_mul_of_nonneg_right (by omega) (by omega)
    grind
  have h4 : -d ≤ s + 1 := by
    refine Int.not_lt.mp fun h => ?_
    have : (s + 2) * s ≤ -d * s := Int.mul_le_mul_of_nonneg_right (by omega) (by omega)
    grind
  omega
theorem nxt_le {n a : Int} (ha : 0 < a) (hn : 0 < n) : nxt n a ≤ n ∨ nxt n a ≤ a := by
  unfold nxt
  have hc := ceil_spec (n := n) ha
  have h2 := fdiv2 (a - (-n).fdiv a)
  generalize (-n).fdiv a = d at *
  have hd : -d ≤ n := by
    refine Int.not_lt.mp fun h => ?_
    have h3 : (n + 1) * a ≤ -d * a := Int.mul_le_mul_of_nonneg_right (by omega) (by omega)
    have h4 : n * 1 ≤ n * a := Int.mul_le_mul_of_nonneg_left (by omega) (by omega)
    have h5 : n * 1 * 1 ≤ n * a := by omega
    grind
  omega

end
section
def sqP (n a b : Int) : Prop := 0 < a ∧ a ≤ Big ∧ (b = 0 ∨ (0 < b ∧ a = nxt n b))
def sqM (n a b : Int) : Nat := if a < sqrtN n then (n + 2).toNat else if a = sqrtN n ∧ b = sqrtN n then 0 else (a - sqrtN n + 1).toNat
theorem sqP_next {n a b : Int} (h0 : 0 < n) (h1 : n ≤ Big) (h : sqP n a b) : sqP n (nxt n a) a := by
  obtain ⟨ha, hb, _⟩ := h
  have hs := sqrtN_spec h0 h1
  have hg := nxt_ge ha h0 hs
  have hl := nxt_le ha h0
  have := hs.1
  exact ⟨by omega, by omega, Or.inr ⟨ha, rfl⟩⟩
theorem isSq_le {n s : Int} (h : IsSq n s) : s ≤ n := by
  obtain ⟨h1, h2, h3⟩ := h
  refine Int.not_lt.mp fun h => ?_
  have : (s - 1) * 1 ≤ (s - 1) * s := Int.mul_le_mul_of_nonneg_left (by omega) (by omega)
  grind
theorem sqM_next {n a b : Int} (h0 : 0 < n) (h1 : n ≤ Big) (h : sqP n a b) (hne : ¬ a = b) : sqM n (nxt n a) a < sqM n a b := by
  obtain ⟨ha, hb, _⟩ := h
  have hs := sqrtN_spec h0 h1
  have hsn := isSq_le hs
  have hg := nxt_ge ha h0 hs
  have hl := nxt_le ha h0
  have hs0 := hs.1
  unfold sqM
  by_cases c1 : a < sqrtN n
  · rw [if_pos c1, if_neg (by omega)]
    split
    · omega
    · omega
  · rw [if_neg c1, if_neg (by omega)]
    by_cases c2 : a = sqrtN n
    · have e : nxt n a = sqrtN n := by rw [c2]; exact nxt_eq hs
      rw [if_pos ⟨e, c2⟩, if_neg (by omega)]
      omega
    · have hlt := nxt_lt hs (a := a) (by omega)
      rw [if_neg (by omega), if_neg (by omega)]
      omega
theorem sq_end {n a b : Int} (h0 : 0 < n) (h1 : n ≤ Big) (h : sqP n a b) (he : a = b) : a = sqrtN n := by
  obtain ⟨ha, hb, hc⟩ := h
  have hs := sqrtN_spec h0 h1
  subst he
  rcases hc with hc | ⟨_, hc⟩
  · omega
  · have hg := nxt_ge ha h0 hs
    rcases Int.lt_trichotomy a (sqrtN n) with c | c | c
    · omega
    · exact c
    · have := nxt_lt hs c; omega

end
section
theorem divN_near {a b : Int} (hb : 0 < b) : -b ≤ 2 * (a - b * divN a b) ∧ 2 * (a - b * divN a b) ≤ b := by
  unfold divN
  have h := Int.mul_fdiv_add_fmod a b
  have h1 := fmod_lo a hb
  have h2 := fmod_hi a hb
  rw [bitAnd_m1]
  have h3 : 0 ≤ a.fdiv b % 2 ∧ a.fdiv b % 2 < 2 := by omega
  generalize a.fdiv b % 2 = e at *
  generalize a.fdiv b = q at *
  generalize a.fmod b = r at *
  have e1 : b * (q + 1) = b * q + b := by grind
  have e2 : b * (q + 0) = b * q := by grind
  split <;> rename_i hc <;> simp only [decide_eq_true_eq] at hc
  · rw [e1]; omega
  · rw [e2]; omega
/-- at a tie the quotient is even -/
theorem divN_even {a b : Int} (hb : 0 < b) (ht : 2 * (a - b * divN a b) = b ∨ 2 * (a - b * divN a b) = -b) : divN a b % 2 = 0 := by
  unfold divN at *
  have h := Int.mul_fdiv_add_fmod a b
  have h1 := fmod_lo a hb
  have h2 := fmod_hi a hb
  rw [bitAnd_m1] at *
  generalize a.fdiv b = q at *
  generalize a.fmod b = r at *
  have e1 : b * (q + 1) = b * q + b := by grind
  have e2 : b * (q + 0) = b * q := by grind
  split at ht <;> rename_i hc
  · rw [if_pos hc]
    simp only [decide_eq_true_eq] at hc
    rw [e1] at ht; omega
  · rw [if_neg hc]
    simp only [decide_eq_true_eq] at hc
    rw [e2] at ht; omega
theorem divN_le {a b c : Int} (hb : 0 < b) (h : a ≤ b * c) : divN a b ≤ c := by
  have hn := divN_near (a := a) hb
  generalize divN a b = q at *
  refine Int.not_lt.mp fun hlt => ?_
  have : b * (c + 1) ≤ b * q := Int.mul_le_mul_of_nonneg_left (by omega) (by omega)
  have e : b * (c + 1) = b * c + b := by grind
  omega
theorem divN_ge {a b c : Int} (hb : 0 < b) (h : b * c ≤ a) : c ≤ divN a b := by
  have hn := divN_near (a := a) hb
  generalize divN a b = q at *
  refine Int.not_lt.mp fun hlt => ?_
  have : b * q ≤ b * (c - 1) := Int.mul_le_mul_of_nonneg_left (by omega) (by omega)
  have e : b * (c - 1) = b * c - b := by grind
  omega
theorem pow2_pos (k : Nat) : (0 : Int) < 2 ^ k := kbt_pos k
theorem rshN_div (x sh : Int) : rshN x sh = divN x (2 ^ sh.toNat) := by
  unfold rshN divN
  rw [Int.one_mul, kbt_maskF]
/-- the while's test -/
def ilT (M y R : Int) : Bool := if R ≤ 8 then decide (M ≤ (y.natAbs : Int) * 2 ^ (8 - R).toNat) else decide (M ≤ (y.natAbs : Int).fdiv (2 ^ (R - 8).toNat))
def ilS (M y R : Int) : Int := divN (M * y * 2) (M + sqrtN (M * (M + rshN y R)))
def ilLp : Nat → Int → Int → Int → Int × Int
  | 0, _, y, R => (y, R)
  | k + 1, M, y, R => if ilT M y R = true then ilLp k M (ilS M y R) (R + 1) else (y, R)
/-- what holds between the turns -/
structure ilJ (x M y R : Int) : Prop where
  R0 : 0 ≤ R
  R1 : R ≤ 25
  up : M ≤ x → 0 ≤ y ∧ y ≤ x - M
  dn : x < M → y ≤ 0 ∧ -y ≤ 2 ^ R.toNat * (M - x) ∧ 5 ^ R.toNat * (1 - y) ≤ 8 ^ R.toNat * (M - x + 1)
structure ilPre (x M : Int) : Prop where
  M0 : 100 ≤ M
  M1 : M ≤ 2 ^ 250
  lo : M ≤ 10 * x
  hi : x ≤ 10 * M
theorem ilJ.start {x M : Int} (_h : ilPre x M) : ilJ x M (x - M) 0 := by
  refine ⟨by omega, by omega, fun h => by omega, fun h => ⟨by omega, ?_, ?_⟩⟩
  · show -(x - M) ≤ 2 ^ 0 * (M - x); omega
  · show 5 ^ 0 * (1 - (x - M)) ≤ 8 ^ 0 * (M - x + 1); omega
theorem rsh_ge {y R c : Int} (h : 2 ^ R.toNat * c ≤ y) : c ≤ rshN y R := by
  rw [rshN_div]; exact divN_ge (pow2_pos _) h
theorem rsh_le {y R c : Int} (h : y ≤ 2 ^ R.toNat * c) : rshN y R ≤ c := by
  rw [rshN_div]; exact divN_le (pow2_pos _) h
theorem ilJ.rsh {x M y R : Int} (P : ilPre x M) (h : ilJ x M y R) : M ≤ 10 * (M + rshN y R) ∧ M + rshN y R ≤ 10 * M ∧ (M ≤ x → 0 ≤ rshN y R) ∧ (x < M → rshN y R ≤ 0) := by
  have h1 := P.lo; have h2 := P.hi; have h0 := P.M0
  have hp := pow2_pos R.toNat
  by_cases c : M ≤ x
  · obtain ⟨u1, u2⟩ := h.up c
    have g1 : (0 : Int) ≤ rshN y R := rsh_ge (by rw [Int.mul_zero]; exact u1)
    have g2 : rshN y R ≤ x - M := rsh_le (by
      have : 1 * (x - M) ≤ 2 ^ R.toNat * (x - M) := Int.mul_le_mul_of_nonneg_right (by omega) (by omega)
      omega)
    exact ⟨by omega, by omega, fun _ => g1, fun _ => by omega⟩
  · obtain ⟨d1, d2, d3⟩ := h.dn (by omega)
    have g1 : -(M - x) ≤ rshN y R := rsh_ge (by
      have : (2 : Int) ^ R.toNat * -(M - x) = -(2 ^ R.toNat * (M - x)) := by grind
      omega)
    have g2 : rshN y R ≤ 0 := rsh_le (by rw [Int.mul_zero]; exact d1)
    exact ⟨by omega, by omega, fun _ => by omega, fun _ => g2⟩
theorem mul_lo {a b c d : Int} (ha : 0 ≤ a) (hb : 0 ≤ b) (h1 : a ≤ c) (h2 : b ≤ d) : a * b ≤ c * d := Int.mul_le_mul h1 h2 hb (Int.le_trans ha h1)
theorem big_250 {n : Int} (h : n ≤ 2 ^ 1000) : n ≤ Big := by
  refine Int.le_trans h ?_
  unfold Big
  have e1 : ((2 ^ 1000 : Nat) : Int) = (2 : Int) ^ 1000 := Int.natCast_pow 2 1000
  have e2 : ((2 ^ 8000 : Nat) : Int) = (2 : Int) ^ 8000 := Int.natCast_pow 2 8000
  rw [← e1, ← e2]
  have : (2 ^ 1000 : Nat) ≤ 2 ^ 8000 := by decide +kernel
  exact Int.ofNat_le.mpr this
theorem mulpow {a b : Int} {m n : Nat} (ha : 0 ≤ a) (hb : 0 ≤ b) (h1 : a ≤ 2 ^ m) (h2 : b ≤ 2 ^ n) : a * b ≤ 2 ^ (m + n) := by
  rw [Int.pow_add]; exact mul_lo ha hb h1 h2
/-- the square root's argument -/
theorem ilJ.arg {x M y R : Int} (P : ilPre x M) (h : ilJ x M y R) : 0 < M * (M + rshN y R) ∧ M * (M + rshN y R) ≤ Big ∧ IsSq (M * (M + rshN y R)) (sqrtN (M * (M + rshN y R))) := by
  obtain ⟨r1, r2, _, _⟩ := h.rsh P
  have h0 := P.M0
  have p1 : 0 < M * (M + rshN y R) := Int.mul_pos (by omega) (by omega)
  have p2 : M * (M + rshN y R) ≤ Big := by
    refine big_250 (Int.le_trans (mulpow (m := 250) (n := 254) (by omega) (by omega) P.M1 ?_) ?_)
    · have := P.M1
      have e : (2 : Int) ^ 254 = 2 ^ 250 * 16 := by decide +kernel
      rw [e]; omega
    · decide +kernel
  exact ⟨p1, p2, sqrtN_spec p1 p2⟩
theorem ilJ.root {x M y R : Int} (P : ilPre x M) (h : ilJ x M y R) : (M ≤ x → M ≤ sqrtN (M * (M + rshN y R))) ∧ M ≤ 4 * sqrtN (M * (M + rshN y R)) ∧ sqrtN (M * (M + rshN y R)) ≤ 4 * M := by
  obtain ⟨r1, r2, r3, r4⟩ := h.rsh P
  obtain ⟨a1, a2, s0, s1, s2⟩ := h.arg P
  have h0 := P.M0
  generalize rshN y R = r at *
  generalize sqrtN (M * (M + r)) = s at *
  refine ⟨fun c => ?_, ?_, ?_⟩
  · refine Int.not_lt.mp fun hlt => ?_
    have k1 : s * s ≤ (M - 1) * (M - 1) := mul_lo (by omega) (by omega) (by omega) (by omega)
    have k2 : M * M ≤ M * (M + r) := Int.mul_le_mul_of_nonneg_left (by have := r3 c; omega) (by omega)
    grind
  · refine Int.not_lt.mp fun hlt => ?_
    have k1 : (4 * s) * (4 * s) ≤ (M - 1) * (M - 1) := mul_lo (by omega) (by omega) (by omega) (by omega)
    have k2 : M * M ≤ M * (10 * (M + r)) := Int.mul_le_mul_of_nonneg_left (by omega) (by omega)
    have k3 : 100 * M ≤ M * M := Int.mul_le_mul_of_nonneg_right (by omega) (by omega)
    grind
  · refine Int.not_lt.mp fun hlt => ?_
    have k1 : (4 * M + 1) * (4 * M) ≤ s * (s - 1) := mul_lo (by omega) (by omega) (by omega) (by omega)
    have k2 : M * (M + r) ≤ M * (10 * M) := Int.mul_le_mul_of_nonneg_left (by omega) (by omega)
    have k3 : 0 ≤ M * M := Int.mul_nonneg (by omega) (by omega)
    grind

end
section
theorem fdiv_ge {a b c : Int} (hb : 0 < b) (h : c ≤ a.fdiv b) : b * c ≤ a := by
  have h1 := Int.mul_fdiv_add_fmod a b
  have h2 := fmod_lo a hb
  have : b * c ≤ b * a.fdiv b := Int.mul_le_mul_of_nonneg_left h (by omega)
  omega
theorem fdiv_lt {a b c : Int} (hb : 0 < b) (h : a.fdiv b < c) : a < b * c := by
  have h1 := Int.mul_fdiv_add_fmod a b
  have h2 := fmod_hi a hb
  have : b * (a.fdiv b + 1) ≤ b * c := Int.mul_le_mul_of_nonneg_left (by omega) (by omega)
  have e : b * (a.fdiv b + 1) = b * a.fdiv b + b := by grind
  omega
theorem ilT_lt {x M y R : Int} (P : ilPre x M) (h : ilJ x M y R) (t : ilT M y R = true) : R ≤ 24 := by
  refine Int.not_lt.mp fun hlt => ?_
  have hR : R = 25 := by have := h.R1; omega
  subst hR
  have h0 := P.M0; have h1 := P.lo; have h2 := P.hi
  unfold ilT at t
  rw [if_neg (by omega)] at t
  have t1 := fdiv_ge (b := 2 ^ (25 - 8 : Int).toNat) (pow2_pos _) (of_decide_eq_true t)
  have e1 : (2 : Int) ^ (25 - 8 : Int).toNat = 131072 := by decide +kernel
  rw [e1] at t1
  have e5 : (5 : Int) ^ (25 : Int).toNat = 298023223876953125 := by decide +kernel
  have e8 : (8 : Int) ^ (25 : Int).toNat = 37778931862957161709568 := by decide +kernel
  by_cases c : M ≤ x
  · obtain ⟨u1, u2⟩ := h.up c; omega
  · obtain ⟨d1, d2, d3⟩ := h.dn (by omega)
    rw [e5, e8] at d3
    omega
theorem ilJ.next {x M y R : Int} (P : ilPre x M) (h : ilJ x M y R) (t : ilT M y R = true) : ilJ x M (ilS M y R) (R + 1) := by
  have hR := ilT_lt P h t
  have h0 := P.M0; have hR0 := h.R0
  obtain ⟨s1, s2, s3⟩ := h.root P
  unfold ilS
  generalize sqrtN (M * (M + rshN y R)) = s at *
  have hD : 0 < M + s := by omega
  have hn := divN_near (a := M * y * 2) hD
  have eT : (R + 1).toNat = R.toNat + 1 := by omega
  refine ⟨by omega, by omega, fun c => ?_, fun c => ?_⟩
  · obtain ⟨u1, u2⟩ := h.up c
    have k1 : 0 ≤ M * y := Int.mul_nonneg (by omega) u1
    have k2 : 0 ≤ (s - M) * y := Int.mul_nonneg (by have := s1 c; omega) u1
    have g1 : 0 ≤ divN (M * y * 2) (M + s) := divN_ge hD (by omega)
    have g2 : divN (M * y * 2) (M + s) ≤ y := divN_le hD (by grind)
    exact ⟨g1, by omega⟩
  · obtain ⟨d1, d2, d3⟩ := h.dn c
    have k0 : 0 ≤ M * (-y) := Int.mul_nonneg (by omega) (by omega)
    have k1 : 0 ≤ s * (-y) := Int.mul_nonneg (by omega) (by omega)
    have g1 : divN (M * y * 2) (M + s) ≤ 0 := divN_le hD (by grind)
    have g2 : 2 * y ≤ divN (M * y * 2) (M + s) := divN_ge hD (by grind)
    have k2 : 0 ≤ (4 * (M + s) - 5 * M) * (-y) := Int.mul_nonneg (by omega) (by omega)
    generalize hv : divN (M * y * 2) (M + s) = v at *
    have g3 : 5 * (1 - v) ≤ 8 * (1 - y) := by
      refine Int.not_lt.mp fun hlt => ?_
      have k3 : (M + s) * (10 * v) ≤ (M + s) * (16 * y - 7) := Int.mul_le_mul_of_nonneg_left (by omega) (by omega)
      grind
    rw [eT]
    refine ⟨g1, ?_, ?_⟩
    · rw [Int.pow_succ]
      have : (2 : Int) ^ R.toNat * 2 * (M - x) = 2 * (2 ^ R.toNat * (M - x)) := by grind
      omega
    · have p5 : (0 : Int) < 5 ^ R.toNat := Int.pow_pos (by omega)
      have k4 : 5 ^ R.toNat * (5 * (1 - v)) ≤ 5 ^ R.toNat * (8 * (1 - y)) := Int.mul_le_mul_of_nonneg_left g3 (by omega)
      rw [Int.pow_succ, Int.pow_succ]
      have e1 : (5 : Int) ^ R.toNat * 5 * (1 - v) = 5 ^ R.toNat * (5 * (1 - v)) := by grind
      have e2 : (5 : Int) ^ R.toNat * (8 * (1 - y)) = 8 * (5 ^ R.toNat * (1 - y)) := by grind
      have e3 : (8 : Int) ^ R.toNat * 8 * (M - x + 1) = 8 * (8 ^ R.toNat * (M - x + 1)) := by grind
      omega
/-- the sizes -/
theorem bits_of_le {x : Int} {m : Nat} (h1 : -(2 ^ m : Int) < x) (h2 : x < 2 ^ m) : intBits x ≤ m := by
  rw [intBits_le_iff]
  have e : ((2 ^ m : Nat) : Int) = (2 : Int) ^ m := Int.natCast_pow 2 m
  rw [← e] at h1 h2
  generalize (2 ^ m : Nat) = k at *
  omega
theorem pow_le_25 {R : Int} (h1 : R ≤ 25) : (2 : Int) ^ R.toNat ≤ 2 ^ 25 := by
  have h : R.toNat ≤ 25 := by omega
  have e1 : ((2 ^ R.toNat : Nat) : Int) = (2 : Int) ^ R.toNat := Int.natCast_pow 2 _
  have e2 : ((2 ^ 25 : Nat) : Int) = (2 : Int) ^ 25 := Int.natCast_pow 2 _
  rw [← e1, ← e2]
  exact Int.ofNat_le.mpr (Nat.pow_le_pow_right (by omega) h)
theorem ilJ.abs {x M y R : Int} (P : ilPre x M) (h : ilJ x M y R) : -(33554432 * (9 * M)) ≤ y ∧ y ≤ 33554432 * (9 * M) := by
  have h0 := P.M0; have h1 := P.lo; have h2 := P.hi
  by_cases c : M ≤ x
  · obtain ⟨u1, u2⟩ := h.up c; omega
  · obtain ⟨d1, d2, d3⟩ := h.dn (by omega)
    have k := pow_le_25 h.R1
    have e : (2 : Int) ^ 25 = 33554432 := by decide +kernel
    rw [e] at k
    have k2 : 2 ^ R.toNat * (M - x) ≤ 33554432 * (M - x) := Int.mul_le_mul_of_nonneg_right k (by omega)
    omega
theorem ilPre.Mbits {x M : Int} (P : ilPre x M) : intBits M ≤ 300 := by
  have h0 := P.M0; have h1 := P.M1
  have e : (2 : Int) ^ 300 = 2 ^ 250 * 1125899906842624 := by decide +kernel
  generalize (2 : Int) ^ 250 = k at *
  refine bits_of_le ?_ ?_ <;> rw [e] <;> omega
theorem ilJ.ybits {x M y R : Int} (P : ilPre x M) (h : ilJ x M y R) : intBits y ≤ 300 := by
  have h0 := P.M0; have h1 := P.M1
  have h2 := h.abs P
  have e : (2 : Int) ^ 300 = 2 ^ 250 * 1125899906842624 := by decide +kernel
  generalize (2 : Int) ^ 250 = k at *
  refine bits_of_le ?_ ?_ <;> rw [e] <;> omega
theorem ilJ.rbits {x M y R : Int} (P : ilPre x M) (h : ilJ x M y R) : intBits (M + rshN y R) ≤ 300 := by
  have h0 := P.M0; have h1 := P.M1
  have h2 := h.rsh P
  have e : (2 : Int) ^ 300 = 2 ^ 250 * 1125899906842624 := by decide +kernel
  generalize (2 : Int) ^ 250 = k at *
  refine bits_of_le ?_ ?_ <;> rw [e] <;> omega
/-- the divisor of a turn -/
theorem ilJ.dvs {x M y R : Int} (P : ilPre x M) (h : ilJ x M y R) : 0 < M + sqrtN (M * (M + rshN y R)) ∧ M + sqrtN (M * (M + rshN y R)) ≤ Big := by
  have h0 := P.M0; have h1 := P.M1
  obtain ⟨s1, s2, s3⟩ := h.root P
  refine ⟨by omega, big_250 ?_⟩
  have e : (2 : Int) ^ 1000 = 2 ^ 250 * 2 ^ 750 := by decide +kernel
  rw [e]
  have e2 : (16 : Int) ≤ 2 ^ 750 := by decide +kernel
  have k : (2 : Int) ^ 250 * 16 ≤ 2 ^ 250 * 2 ^ 750 := Int.mul_le_mul_of_nonneg_left e2 (by decide +kernel)
  generalize (2 : Int) ^ 250 * 2 ^ 750 = kk at *
  generalize (2 : Int) ^ 250 = k at *
  omega
theorem ilPre.MBig {x M : Int} (P : ilPre x M) : M ≤ Big := big_250 (Int.le_trans P.M1 (by decide +kernel))
/-- the loop is the function -/
def ilJL (x M y R : Int) : Prop := ilJ x M y R ∧ ilLp 40 M (x - M) 0 = ilLp (40 - R.toNat) M y R
theorem ilJL.start {x M : Int} (P : ilPre x M) : ilJL x M (x - M) 0 := ⟨ilJ.start P, rfl⟩
theorem ilJL.next {x M y R : Int} (P : ilPre x M) (h : ilJL x M y R) (t : ilT M y R = true) : ilJL x M (ilS M y R) (R + 1) := by
  refine ⟨h.1.next P t, ?_⟩
  rw [h.2]
  have hR := ilT_lt P h.1 t
  have h0 := h.1.R0
  have e : 40 - R.toNat = (40 - (R + 1).toNat) + 1 := by omega
  rw [e]
  show (if ilT M y R = true then _ else _) = _
  rw [if_pos t]
theorem ilJL.stop {x M y R : Int} (h : ilJL x M y R) (t : ilT M y R = false) : ilLp 40 M (x - M) 0 = (y, R) := by
  rw [h.2]
  have hR := h.1.R1
  have h0 := h.1.R0
  have e : 40 - R.toNat = (39 - R.toNat) + 1 := by omega
  rw [e]
  show (if ilT M y R = true then _ else _) = _
  rw [if_neg (by simp [t])]
theorem ilT_stop {M y R : Int} (h0 : 0 ≤ R) (t : ilT M y R = false) : -(2 ^ R.toNat * M) < 256 * y ∧ 256 * y < 2 ^ R.toNat * M := by
  unfold ilT at t
  split at t
  · next c =>
    have t1 := of_decide_eq_false t
    have e : (256 : Int) = 2 ^ R.toNat * 2 ^ (8 - R).toNat := by
      rw [← Int.pow_add]
      have : R.toNat + (8 - R).toNat = 8 := by omega
      rw [this]; rfl
    have hp := pow2_pos R.toNat
    have k : 2 ^ R.toNat * ((y.natAbs : Int) * 2 ^ (8 - R).toNat) < 2 ^ R.toNat * M := Int.mul_lt_mul_of_pos_left (by omega) hp
    have e2 : (2 : Int) ^ R.toNat * ((y.natAbs : Int) * 2 ^ (8 - R).toNat) = 256 * y.natAbs := by
      rw [e]; grind
    omega
  · next c =>
    have t1 := of_decide_eq_false t
    have t2 := fdiv_lt (pow2_pos (R - 8).toNat) (Int.not_le.mp t1)
    have e : (2 : Int) ^ R.toNat = 256 * 2 ^ (R - 8).toNat := by
      have : R.toNat = 8 + (R - 8).toNat := by omega
      rw [this, Int.pow_add]; rfl
    have e2 : 2 ^ R.toNat * M = 256 * (2 ^ (R - 8).toNat * M) := by rw [e]; grind
    omega

end
section
def ndig (a : Int) : Int := ((Str.ofString (toString a)).length : Nat)
theorem ndig_nat (m : Nat) : ndig (m : Int) = ((Nat.toDigits 10 m).length : Nat) := by
  unfold ndig
  have h := text_ofNat m
  have e : (Str.ofString (toString ((m : Nat) : Int))).length = ((Nat.toDigits 10 m).map Char.toNat).length := by
    show (Str.ofString (toString (Int.ofNat m))).length = _
    rw [h]; simp [Str.length]
  rw [e, List.length_map]
theorem ndig_le {a : Int} {k : Nat} (h0 : 0 ≤ a) (hk : 0 < k) (h : a < 10 ^ k) : ndig a ≤ k := by
  obtain ⟨m, rfl⟩ := Int.eq_ofNat_of_zero_le h0
  rw [ndig_nat]
  have : m < 10 ^ k := by exact_mod_cast h
  exact Int.ofNat_le.mpr ((Nat.length_toDigits_le_iff (by omega) hk).mpr this)
theorem ndig_gt {a : Int} {k : Nat} (h0 : 0 < a) (h : 10 ^ k ≤ a) : (k : Int) < ndig a := by
  obtain ⟨m, rfl⟩ := Int.eq_ofNat_of_zero_le (Int.le_of_lt h0)
  rw [ndig_nat]
  have hm : 10 ^ k ≤ m := by exact_mod_cast h
  refine Int.ofNat_lt.mpr (Nat.not_le.mp fun hle => ?_)
  by_cases hk : k = 0
  · subst hk
    have := (Nat.length_toDigits_le_iff (b := 10) (n := m) (k := 1) (by omega) (by omega)).mp (by omega)
    have h2 : (Nat.toDigits 10 m).length = 0 := by omega
    rw [List.length_eq_zero_iff] at h2
    exact Nat.toDigits_ne_nil h2
  · have := (Nat.length_toDigits_le_iff (b := 10) (n := m) (k := k) (by omega) (by omega)).mp hle
    omega
theorem ndig_pos {a : Int} (h : 0 < a) : 1 ≤ ndig a := by
  have := ndig_gt (a := a) (k := 0) h (by rw [Int.pow_zero]; omega)
  omega
/-- Horner's step -/
def horn (M ys : Int) (w k : Int) : Int := divN M k - divN (ys * w) M
theorem horn_bound {M ys w k : Int} (hM : 100 ≤ M) (hk : 1 ≤ k) (hy : -M ≤ 100 * ys ∧ 100 * ys ≤ M) (hw : -(2 * M) ≤ w ∧ w ≤ 2 * M) : -(2 * M) ≤ horn M ys w k ∧ horn M ys w k ≤ 2 * M := by
  have g1 : divN M k ≤ M := divN_le (by omega) (by
    have : 1 * M ≤ k * M := Int.mul_le_mul_of_nonneg_right hk (by omega)
    omega)
  have g2 : 0 ≤ divN M k := divN_ge (by omega) (by omega)
  have k1 : 100 * (ys * w) ≤ M * (2 * M) ∧ -(M * (2 * M)) ≤ 100 * (ys * w) := by
    have a1 : 0 ≤ (M - 100 * ys) * (2 * M - w) := Int.mul_nonneg (by omega) (by omega)
    have a2 : 0 ≤ (M + 100 * ys) * (2 * M + w) := Int.mul_nonneg (by omega) (by omega)
    have a3 : 0 ≤ (M - 100 * ys) * (2 * M + w) := Int.mul_nonneg (by omega) (by omega)
    have a4 : 0 ≤ (M + 100 * ys) * (2 * M - w) := Int.mul_nonneg (by omega) (by omega)
    constructor <;> grind
  have k2 : 100 * M ≤ M * M := Int.mul_le_mul_of_nonneg_right hM (by omega)
  have g3 : divN (ys * w) M ≤ M := divN_le (by omega) (by grind)
  have g4 : -M ≤ divN (ys * w) M := divN_ge (by omega) (by grind)
  unfold horn; omega
theorem divM_bound {M k : Int} (hM : 100 ≤ M) (hk : 1 ≤ k) : -(2 * M) ≤ divN M k ∧ divN M k ≤ 2 * M := by
  have g1 : divN M k ≤ M := divN_le (by omega) (by
    have : 1 * M ≤ k * M := Int.mul_le_mul_of_nonneg_right hk (by omega)
    omega)
  have g2 : 0 ≤ divN M k := divN_ge (by omega) (by omega)
  omega
theorem ys_bound {x M y R : Int} (P : ilPre x M) (h : ilJ x M y R) (t : ilT M y R = false) : -M ≤ 100 * rshN y R ∧ 100 * rshN y R ≤ M := by
  have h0 := P.M0
  obtain ⟨t1, t2⟩ := ilT_stop h.R0 t
  have hp := pow2_pos R.toNat
  have hn := divN_near (a := y) hp
  rw [rshN_div]
  generalize divN y (2 ^ R.toNat) = r at *
  generalize (2 : Int) ^ R.toNat = p at *
  constructor
  · refine Int.not_lt.mp fun hlt => ?_
    have k1 : p * (100 * r) ≤ p * (-M - 1) := Int.mul_le_mul_of_nonneg_left (by omega) (by omega)
    have k2 : p * 100 ≤ p * M := Int.mul_le_mul_of_nonneg_left (by omega) (by omega)
    grind
  · refine Int.not_lt.mp fun hlt => ?_
    have k1 : p * (M + 1) ≤ p * (100 * r) := Int.mul_le_mul_of_nonneg_left (by omega) (by omega)
    have k2 : p * 100 ≤ p * M := Int.mul_le_mul_of_nonneg_left (by omega) (by omega)
    grind
theorem bits2M {x M w : Int} (P : ilPre x M) (hw : -(2 * M) ≤ w ∧ w ≤ 2 * M) : intBits w ≤ 300 := by
  have h0 := P.M0; have h1 := P.M1
  have e : (2 : Int) ^ 300 = 2 ^ 250 * 1125899906842624 := by decide +kernel
  generalize (2 : Int) ^ 250 = k at *
  refine bits_of_le ?_ ?_ <;> rw [e] <;> omega
theorem bitsYs {x M y R : Int} (P : ilPre x M) (h : ilJ x M y R) : intBits (rshN y R) ≤ 300 := by
  have h0 := P.M0; have h1 := P.M1
  have h2 := h.rsh P
  have e : (2 : Int) ^ 300 = 2 ^ 250 * 1125899906842624 := by decide +kernel
  generalize (2 : Int) ^ 250 = k at *
  refine bits_of_le ?_ ?_ <;> rw [e] <;> omega
theorem log2_M {x M : Int} (P : ilPre x M) : M.natAbs.log2 < 1920 := by
  have h0 := P.M0; have h1 := P.M1
  refine (Nat.log2_lt (by omega)).mpr ?_
  have e : ((2 ^ 250 : Nat) : Int) = (2 : Int) ^ 250 := Int.natCast_pow 2 250
  rw [← e] at h1
  have h2 : (2 ^ 250 : Nat) < 2 ^ 1920 := by decide +kernel
  generalize (2 ^ 250 : Nat) = k at *
  omega

end
section
/-- all that a turn asks -/
structure ilF (x M y R : Int) : Prop where
  jl : ilJL x M y R
  r0 : 0 ≤ R
  r1 : R ≤ 25
  yb : intBits y ≤ 300
  a1 : 0 < M * (M + rshN y R)
  a2 : M * (M + rshN y R) ≤ Big
  d1 : 0 < M + sqrtN (M * (M + rshN y R))
  d2 : M + sqrtN (M * (M + rshN y R)) ≤ Big
  rb : intBits (M + rshN y R) ≤ 300
  sb : intBits (rshN y R) ≤ 300
theorem ilJL.full {x M y R : Int} (P : ilPre x M) (h : ilJL x M y R) : ilF x M y R :=
  ⟨h, h.1.R0, h.1.R1, h.1.ybits P, (h.1.arg P).1, (h.1.arg P).2.1, (h.1.dvs P).1, (h.1.dvs P).2, h.1.rbits P, bitsYs P h.1⟩
theorem mul_300 {a b : Int} (ha : intBits a ≤ 300) (hb : intBits b ≤ 300) : IntMulOk a b := IntMulOk.of_le ha hb (by decide)
theorem shl_300 {a n : Int} (ha : intBits a ≤ 300) (h1 : n ≤ 100) : (intBits a : Int) + n ≤ 2 ^ 27 := by
  have e : (2 : Int) ^ 27 = 134217728 := by decide
  rw [e]; omega
theorem shl_600 {a b n : Int} (ha : intBits a ≤ 300) (hb : intBits b ≤ 300) (h1 : n ≤ 100) : (intBits (a * b) : Int) + n ≤ 2 ^ 27 := by
  have e : (2 : Int) ^ 27 = 134217728 := by decide
  have := intBits_mul_le ha hb
  rw [e]; omega
theorem ilF.conj {x M y R : Int} (h : ilF x M y R) : ilF x M y R ∧ (0 ≤ R ∧ R ≤ 25) ∧ intBits y ≤ 300 ∧ (0 < M * (M + rshN y R) ∧ M * (M + rshN y R) ≤ Big) ∧ (0 < M + sqrtN (M * (M + rshN y R)) ∧ M + sqrtN (M * (M + rshN y R)) ≤ Big) ∧ intBits (M + rshN y R) ≤ 300 ∧ intBits (rshN y R) ≤ 300 :=
  ⟨h, ⟨h.r0, h.r1⟩, h.yb, ⟨h.a1, h.a2⟩, ⟨h.d1, h.d2⟩, h.rb, h.sb⟩
theorem ite_abs (y : Int) : (if y < 0 then -y else y) = (y.natAbs : Int) := by split <;> omega
theorem shl_abs {a n : Int} (ha : intBits a ≤ 300) (h1 : n ≤ 100) : (intBits (if a < 0 then -a else a) : Int) + n ≤ 2 ^ 27 := by
  rw [ite_abs]; exact shl_300 (intBits_natAbs_le ha) h1
theorem ilT_t1 {x M y R : Int} (_ : ilF x M y R) (h1 : R ≤ 8) (h2 : M ≤ (if y < 0 then -y else y) * 2 ^ (8 - R).toNat) : ilT M y R = true := by
  rw [ite_abs] at h2; unfold ilT; rw [if_pos h1]; exact decide_eq_true h2
theorem ilT_t2 {x M y R : Int} (_ : ilF x M y R) (h1 : 8 < R) (h2 : M ≤ (if y < 0 then -y else y).fdiv (2 ^ (R - 8).toNat)) : ilT M y R = true := by
  rw [ite_abs] at h2; unfold ilT; rw [if_neg (by omega)]; exact decide_eq_true h2
theorem ilT_f1 {x M y R : Int} (_ : ilF x M y R) (h1 : R ≤ 8) (h2 : ¬ M ≤ (if y < 0 then -y else y) * 2 ^ (8 - R).toNat) : ilT M y R = false := by
  rw [ite_abs] at h2; unfold ilT; rw [if_pos h1]; exact decide_eq_false h2
theorem ilT_f2 {x M y R : Int} (_ : ilF x M y R) (h1 : 8 < R) (h2 : ¬ M ≤ (if y < 0 then -y else y).fdiv (2 ^ (R - 8).toNat)) : ilT M y R = false := by
  rw [ite_abs] at h2; unfold ilT; rw [if_neg (by omega)]; exact decide_eq_false h2
def ilTT (M : Int) : Int := -(-10 * ndig M).fdiv (3 * 8)
theorem fdiv24 (x : Int) : 24 * x.fdiv (3 * 8) ≤ x ∧ x < 24 * x.fdiv (3 * 8) + 24 := by
  show 24 * x.fdiv 24 ≤ x ∧ x < 24 * x.fdiv 24 + 24
  have h := Int.mul_fdiv_add_fmod x 24
  have h1 := fmod_lo x (n := 24) (by omega)
  have h2 := fmod_hi x (n := 24) (by omega)
  omega
theorem ilTT_pos {x M : Int} (P : ilPre x M) : 0 < ilTT M ∧ ilTT M ≤ 1000 := by
  have h0 := P.M0
  have h1 := ndig_pos (a := M) (by omega)
  have h2 : ndig M ≤ 1921 := by
    have := int_text_len_1921 (log2_M P)
    unfold ndig; omega
  unfold ilTT
  have := fdiv24 (-10 * ndig M)
  omega
theorem big_ge : 10000 ≤ Big := by
  refine big_250 ?_
  have e : (2 : Int) ^ 1000 = 2 ^ 14 * 2 ^ 986 := by decide +kernel
  decide +kernel
theorem horn_state {x M y R ys w T : Int} {pre : List Int} {k : Int} (P : ilPre x M) (_hys : ys = rshN y R) (h : ilF x M y R) (t : ilT M y R = false) (hk : 1 ≤ k)
    (hw : w = pre.foldl (horn M ys) (divN M T) ∧ (-(2 * M) ≤ w ∧ w ≤ 2 * M) ∧ intBits w ≤ 300) :
    divN M k - divN (ys * w) M = (pre ++ [k]).foldl (horn M ys) (divN M T) ∧ (-(2 * M) ≤ divN M k - divN (ys * w) M ∧ divN M k - divN (ys * w) M ≤ 2 * M) ∧ intBits (divN M k - divN (ys * w) M) ≤ 300 := by
  subst _hys
  have hb := horn_bound (k := k) P.M0 hk (ys_bound P h.jl.1 t) hw.2.1
  refine ⟨?_, hb, bits2M P hb⟩
  rw [List.foldl_append, ← hw.1]
  rfl
theorem horn_start {x M T : Int} (P : ilPre x M) (hT : 0 < T) (ys : Int) : divN M T = ([] : List Int).foldl (horn M ys) (divN M T) ∧ (-(2 * M) ≤ divN M T ∧ divN M T ≤ 2 * M) ∧ intBits (divN M T) ≤ 300 := by
  have hb := divM_bound (k := T) P.M0 hT
  exact ⟨rfl, hb, bits2M P hb⟩
@[irreducible] def ilogW (M ys : Int) : Int := (downKs (ilTT M - 1) (ilTT M - 1 - 0).toNat).foldl (horn M ys) (divN M (ilTT M))
@[irreducible] def ilogN (x M : Int) : Int := divN (ilogW M (rshN (ilLp 40 M (x - M) 0).1 (ilLp 40 M (x - M) 0).2) * (ilLp 40 M (x - M) 0).1) M
theorem ilog_end {x M y R w : Int} (h : ilF x M y R) (t : ilT M y R = false) (hw : w = (downKs (ilTT M - 1) (ilTT M - 1 - 0).toNat).foldl (horn M (rshN y R)) (divN M (ilTT M))) : divN (w * y) M = ilogN x M := by
  unfold ilogN ilogW
  rw [h.jl.stop t, hw]

end
section
@[irreducible] def log10D (p : Int) : Int := 23025850929940456840179914546843642076011014886 / 10 ^ (46 - p).toNat
abbrev digS : Str := Str.ofString "23025850929940456840179914546843642076011014886"
theorem dig_all : ∀ k : Fin 47, PySem.intText? (Txt.slice digS none (some (((k.val : Nat) : Int) + 1))) = some (log10D ((k.val : Nat) : Int)) ∧ (Txt.slice digS none (some (((k.val : Nat) : Int) + 1))).length ≤ 640 := by decide +kernel
theorem dig_text {p : Int} (h0 : 0 ≤ p) (h1 : p ≤ 46) : PySem.intText? (Txt.slice digS none (some (p + 1))) = some (log10D p) ∧ (Txt.slice digS none (some (p + 1))).length ≤ 640 := by
  obtain ⟨m, rfl⟩ := Int.eq_ofNat_of_zero_le h0
  exact dig_all ⟨m, by omega⟩
theorem log10D_pos {p : Int} (h0 : 0 ≤ p) (h1 : p ≤ 46) : 0 < log10D p ∧ log10D p ≤ Big := by
  have h : ∀ k : Fin 47, 0 < log10D ((k.val : Nat) : Int) ∧ log10D ((k.val : Nat) : Int) ≤ 2 ^ 1000 := by decide +kernel
  obtain ⟨m, rfl⟩ := Int.eq_ofNat_of_zero_le h0
  have := h ⟨m, by omega⟩
  exact ⟨this.1, big_250 this.2⟩
theorem natAbs_divN_le {a b : Int} (hb : 0 < b) : (divN a b).natAbs ≤ a.natAbs := by
  rcases Int.le_total 0 a with h | h
  · have g1 : 0 ≤ divN a b := divN_ge hb (by omega)
    have g2 : divN a b ≤ a := divN_le hb (by
      have : 1 * a ≤ b * a := Int.mul_le_mul_of_nonneg_right (by omega) h
      omega)
    omega
  · have g1 : divN a b ≤ 0 := divN_le hb (by omega)
    have g2 : a ≤ divN a b := divN_ge hb (by
      have : 1 * (-a) ≤ b * (-a) := Int.mul_le_mul_of_nonneg_right (by omega) (by omega)
      grind)
    omega
theorem intBits_divN_le {a b : Int} {m : Nat} (hb : 0 < b) (h : intBits a ≤ m) : intBits (divN a b) ≤ m := intBits_le_of_natAbs (natAbs_divN_le hb) h
theorem ilJ_run {x M : Int} (P : ilPre x M) : ∀ (n : Nat) (y R : Int), ilJL x M y R → 40 - R.toNat = n → ∃ y' R', ilJL x M y' R' ∧ ilT M y' R' = false ∧ ilLp 40 M (x - M) 0 = (y', R')
  | 0, y, R, h, e => by have := h.1.R1; omega
  | n + 1, y, R, h, e => by
    cases t : ilT M y R with
    | false => exact ⟨y, R, h, t, h.stop t⟩
    | true => exact ilJ_run P n _ _ (h.next P t) (by have := h.1.R0; omega)
theorem ilLp_facts {x M : Int} (P : ilPre x M) : ∃ y R, ilF x M y R ∧ ilT M y R = false ∧ ilLp 40 M (x - M) 0 = (y, R) := by
  obtain ⟨y, R, h, t, e⟩ := ilJ_run P 40 (x - M) 0 (ilJL.start P) rfl
  exact ⟨y, R, h.full P, t, e⟩
theorem mem_down {a₀ : Int} {n : Nat} {k : Int} (h : k ∈ downKs a₀ n) : a₀ - (n : Int) < k ∧ k ≤ a₀ := mem_downKs h
theorem horn_foldl {x M y R : Int} (P : ilPre x M) (h : ilF x M y R) (t : ilT M y R = false) : ∀ (ks : List Int) (w : Int), (∀ k ∈ ks, 1 ≤ k) → (-(2 * M) ≤ w ∧ w ≤ 2 * M) → -(2 * M) ≤ ks.foldl (horn M (rshN y R)) w ∧ ks.foldl (horn M (rshN y R)) w ≤ 2 * M
  | [], w, _, hw => hw
  | k :: r, w, hk, hw => horn_foldl P h t r _ (fun q hq => hk q (.tail _ hq)) (horn_bound P.M0 (hk k (.head _)) (ys_bound P h.jl.1 t) hw)
theorem ilogW_bound {x M y R : Int} (P : ilPre x M) (h : ilF x M y R) (t : ilT M y R = false) : -(2 * M) ≤ ilogW M (rshN y R) ∧ ilogW M (rshN y R) ≤ 2 * M := by
  have hT := ilTT_pos P
  unfold ilogW
  refine horn_foldl P h t _ _ (fun k hk => ?_) (divM_bound P.M0 hT.1)
  have := mem_down hk
  omega
theorem ilog_bits {x M : Int} (P : ilPre x M) : intBits (ilogN x M) ≤ 600 := by
  obtain ⟨y, R, h, t, e⟩ := ilLp_facts P
  unfold ilogN
  rw [e]
  refine intBits_divN_le (by have := P.M0; omega) ?_
  exact intBits_mul_le (m := 300) (n := 300) (bits2M P (ilogW_bound P h t)) h.yb

def dl_f (c e : Int) : Int := e + ndig c - (if decide (1 ≤ e + ndig c) = true then 1 else 0)
def dl_k (c e q : Int) : Int := e + q - dl_f c e
@[irreducible] def dl_c (c e q : Int) : Int := if 0 ≤ dl_k c e q then c * 10 ^ (dl_k c e q).toNat else divN c (10 ^ (-(dl_k c e q)).toNat)
def dl_d (c e q : Int) : Int := divN (ilogN (dl_c c e q) (10 ^ q.toNat) * 10 ^ q.toNat) (log10D q)
@[irreducible] def dlog10N (c e p : Int) : Int := if 0 < p + 2 then divN (dl_f c e * 10 ^ (p + 2).toNat + dl_d c e (p + 2)) 100 else divN (divN (dl_f c e) (10 ^ (-(p + 2)).toNat) + 0) 100
theorem ten_split {a b : Nat} (h : b ≤ a) : (10 : Int) ^ a = 10 ^ b * 10 ^ (a - b) := by
  rw [← Int.pow_add]; congr 1; omega
theorem ten_pos (k : Nat) : (0 : Int) < 10 ^ k := Int.pow_pos (by omega)
theorem ten_le {a b : Nat} (h : a ≤ b) : (10 : Int) ^ a ≤ 10 ^ b := by
  rw [ten_split h]
  have h1 := ten_pos a
  have h2 := ten_pos (b - a)
  have : (10 : Int) ^ a * 1 ≤ 10 ^ a * 10 ^ (b - a) := Int.mul_le_mul_of_nonneg_left (by omega) (by omega)
  omega
/-- the size of a number by its figures -/
theorem ndig_range {c : Int} (h : 0 < c) : 1 ≤ ndig c ∧ 10 ^ (ndig c - 1).toNat ≤ c ∧ c < 10 ^ (ndig c).toNat := by
  have h1 := ndig_pos h
  refine ⟨h1, ?_, ?_⟩
  · refine Int.not_lt.mp fun hlt => ?_
    by_cases hz : (ndig c - 1).toNat = 0
    · rw [hz, Int.pow_zero] at hlt; omega
    · have := ndig_le (Int.le_of_lt h) (by omega) hlt; omega
  · refine Int.not_le.mp fun hle => ?_
    have := ndig_gt h hle; omega
theorem scale_mul {c : Int} {l k : Nat} (h1 : 10 ^ l ≤ c) (h2 : c < 10 ^ (l + 1)) : 10 ^ (l + k) ≤ c * 10 ^ k ∧ c * 10 ^ k ≤ 10 ^ (l + 1 + k) := by
  have hp := ten_pos k
  rw [Int.pow_add, Int.pow_add]
  exact ⟨Int.mul_le_mul_of_nonneg_right h1 (by omega), Int.mul_le_mul_of_nonneg_right (by omega) (by omega)⟩
theorem scale_div {c : Int} {l k : Nat} (hk : k ≤ l) (h1 : 10 ^ l ≤ c) (h2 : c < 10 ^ (l + 1)) : 10 ^ (l - k) ≤ divN c (10 ^ k) ∧ divN c (10 ^ k) ≤ 10 ^ (l + 1 - k) := by
  refine ⟨divN_ge (ten_pos k) ?_, divN_le (ten_pos k) ?_⟩
  · rw [← ten_split hk]; exact h1
  · rw [← ten_split (by omega)]; omega
/-- the scaled coefficient lies within a decade of M -/
theorem dl_c_range {c e q : Int} (hc : 0 < c) (hq : 2 ≤ q) : (1 ≤ e + ndig c → 10 ^ q.toNat ≤ dl_c c e q ∧ dl_c c e q ≤ 10 ^ (q.toNat + 1)) ∧ (¬ 1 ≤ e + ndig c → 10 ^ (q.toNat - 1) ≤ dl_c c e q ∧ dl_c c e q ≤ 10 ^ q.toNat) := by
  obtain ⟨n1, n2, n3⟩ := ndig_range hc
  have e3 : (ndig c).toNat = (ndig c - 1).toNat + 1 := by omega
  rw [e3] at n3
  refine ⟨fun h => ?_, fun h => ?_⟩
  · have hk : dl_k c e q = q - ndig c + 1 := by
      unfold dl_k dl_f; rw [if_pos (decide_eq_true h)]; omega
    unfold dl_c
    rw [hk]
    split
    · next c1 =>
      have := scale_mul (k := (q - ndig c + 1).toNat) n2 n3
      have e1 : (ndig c - 1).toNat + (q - ndig c + 1).toNat = q.toNat := by omega
      have e2 : (ndig c - 1).toNat + 1 + (q - ndig c + 1).toNat = q.toNat + 1 := by omega
      rw [e1, e2] at this; exact this
    · next c1 =>
      have := scale_div (k := (-(q - ndig c + 1)).toNat) (by omega) n2 n3
      have e1 : (ndig c - 1).toNat - (-(q - ndig c + 1)).toNat = q.toNat := by omega
      have e2 : (ndig c - 1).toNat + 1 - (-(q - ndig c + 1)).toNat = q.toNat + 1 := by omega
      rw [e1, e2] at this; exact this
  · have hk : dl_k c e q = q - ndig c := by
      unfold dl_k dl_f; rw [if_neg (by simp; omega)]; omega
    unfold dl_c
    rw [hk]
    split
    · next c1 =>
      have := scale_mul (k := (q - ndig c).toNat) n2 n3
      have e1 : (ndig c - 1).toNat + (q - ndig c).toNat = q.toNat - 1 := by omega
      have e2 : (ndig c - 1).toNat + 1 + (q - ndig c).toNat = q.toNat := by omega
      rw [e1, e2] at this; exact this
    · next c1 =>
      have := scale_div (k := (-(q - ndig c)).toNat) (by omega) n2 n3
      have e1 : (ndig c - 1).toNat - (-(q - ndig c)).toNat = q.toNat - 1 := by omega
      have e2 : (ndig c - 1).toNat + 1 - (-(q - ndig c)).toNat = q.toNat := by omega
      rw [e1, e2] at this; exact this
theorem dl_pre {c e q : Int} (hc : 0 < c) (hq : 2 ≤ q) (hq2 : q ≤ 70) : ilPre (dl_c c e q) (10 ^ q.toNat) := by
  have h := dl_c_range (e := e) hc hq
  have e1 : (10 : Int) ^ (q.toNat + 1) = 10 * 10 ^ q.toNat := by rw [Int.pow_succ]; omega
  have e2 : (10 : Int) ^ q.toNat = 10 * 10 ^ (q.toNat - 1) := by
    have : q.toNat = q.toNat - 1 + 1 := by omega
    rw [this, Int.pow_succ]; simp; omega
  have p0 := ten_pos (q.toNat - 1)
  refine ⟨?_, ?_, ?_, ?_⟩
  · have := ten_le (a := 2) (b := q.toNat) (by omega); omega
  · refine Int.le_trans (ten_le (b := 70) (by omega)) (by decide +kernel)
  · by_cases g : 1 ≤ e + ndig c
    · have := h.1 g; omega
    · have := h.2 g; omega
  · by_cases g : 1 ≤ e + ndig c
    · have := h.1 g; omega
    · have := h.2 g; omega

end
section
theorem bits10 (n : Nat) : intBits ((10 : Int) ^ n) ≤ 4 * n + 1 := intBits_pow_le (by decide) n
theorem mul_ten {a : Int} {n : Nat} (ha : intBits a ≤ 5000000) (hn : n ≤ 1000000) : IntMulOk a (10 ^ n) :=
  IntMulOk.of_le (m := 5000000) (n := 4000001) ha (Nat.le_trans (bits10 n) (by omega)) (by decide)
theorem neg_nonneg_of {k : Int} (h : ¬ 0 ≤ k) : 0 ≤ -k := by omega
theorem neg_le_of {k : Int} (h : -2000 ≤ k) : -k ≤ 1000000 := by omega
theorem toNat_le_of {k : Int} (h : k ≤ 1000) : k.toNat ≤ 1000000 := by omega
theorem toNat_neg_of {k : Int} (h : -2000 ≤ k) : (-k).toNat ≤ 2000 := by omega
theorem bits_log2 {c : Int} (h : c.natAbs.log2 < 1920) : intBits c ≤ 5000000 := by
  refine Nat.le_trans (m := 1920) ?_ (by decide)
  rw [intBits_le_iff]
  by_cases hz : c.natAbs = 0
  · rw [hz]; exact Nat.pow_pos (by omega)
  · exact (Nat.log2_lt hz).mp h
theorem ten_big {n : Nat} (h : n ≤ 2000) : (10 : Int) ^ n ≤ Big := by
  refine Int.le_trans (ten_le h) ?_
  unfold Big
  have e1 : ((10 ^ 2000 : Nat) : Int) = (10 : Int) ^ 2000 := Int.natCast_pow 10 2000
  have e2 : ((2 ^ 8000 : Nat) : Int) = (2 : Int) ^ 8000 := Int.natCast_pow 2 8000
  rw [← e1, ← e2]
  exact Int.ofNat_le.mpr (by decide +kernel)
theorem dl_pre1 {c e q : Int} (hc : 0 < c) (hq : 2 ≤ q) (hq2 : q ≤ 70) (hk : 0 ≤ dl_k c e q) : ilPre (c * 10 ^ (dl_k c e q).toNat) (10 ^ q.toNat) := by
  have := dl_pre (e := e) hc hq hq2
  unfold dl_c at this
  rwa [if_pos hk] at this
theorem dl_pre2 {c e q : Int} (hc : 0 < c) (hq : 2 ≤ q) (hq2 : q ≤ 70) (hk : ¬ 0 ≤ dl_k c e q) : ilPre (divN c (10 ^ (-(dl_k c e q)).toNat)) (10 ^ q.toNat) := by
  have := dl_pre (e := e) hc hq hq2
  unfold dl_c at this
  rwa [if_neg hk] at this
theorem ilog_bits1 {c e q k : Int} (hc : 0 < c) (hq : 2 ≤ q) (hq2 : q ≤ 70) (hkk : k = dl_k c e q) (hk : 0 ≤ k) : intBits (ilogN (c * 10 ^ k.toNat) (10 ^ q.toNat)) ≤ 5000000 := by
  subst hkk; exact Nat.le_trans (ilog_bits (dl_pre1 hc hq hq2 hk)) (by decide)
theorem ilog_bits2 {c e q k : Int} (hc : 0 < c) (hq : 2 ≤ q) (hq2 : q ≤ 70) (hkk : k = dl_k c e q) (hk : ¬ 0 ≤ k) : intBits (ilogN (divN c (10 ^ (-k).toNat)) (10 ^ q.toNat)) ≤ 5000000 := by
  subst hkk; exact Nat.le_trans (ilog_bits (dl_pre2 hc hq hq2 hk)) (by decide)
theorem dl_kbound {c e q : Int} (h0 : 0 < c) (h : ndig c ≤ 1921) (hq : 2 ≤ q) (hq2 : q ≤ 70) : dl_k c e q ≤ 1000 ∧ -2000 ≤ dl_k c e q := by
  have := ndig_pos h0
  unfold dl_k dl_f
  split <;> omega
theorem dl_fbits {c e : Int} (he : intBits e ≤ 4000000) (h : ndig c ≤ 1921) (h0 : 0 < c) : intBits (dl_f c e) ≤ 5000000 := by
  have h1 := ndig_pos h0
  unfold dl_f
  have hb : intBits (ndig c) ≤ 4000000 := Nat.le_trans (intBits_le_64 (by omega) (by omega)) (by decide)
  have h2 := intBits_add_le he hb
  have h3 : intBits (if decide (1 ≤ e + ndig c) = true then (1 : Int) else 0) ≤ 1 := by split <;> decide
  have h4 := intBits_sub_le h2 h3
  omega
theorem dl_val1 {c e p : Int} (hp : 0 < p + 2) (hk : 0 ≤ dl_k c e (p + 2)) : divN (dl_f c e * 10 ^ (p + 2).toNat + divN (ilogN (c * 10 ^ (dl_k c e (p + 2)).toNat) (10 ^ (p + 2).toNat) * 10 ^ (p + 2).toNat) (log10D (p + 2))) 100 = dlog10N c e p := by
  unfold dlog10N dl_d dl_c
  rw [if_pos hp, if_pos hk]
theorem dl_val2 {c e p : Int} (hp : 0 < p + 2) (hk : ¬ 0 ≤ dl_k c e (p + 2)) : divN (dl_f c e * 10 ^ (p + 2).toNat + divN (ilogN (divN c (10 ^ (-(dl_k c e (p + 2))).toNat)) (10 ^ (p + 2).toNat) * 10 ^ (p + 2).toNat) (log10D (p + 2))) 100 = dlog10N c e p := by
  unfold dlog10N dl_d dl_c
  rw [if_pos hp, if_neg hk]

end
section
theorem log2_200 {c : Int} (h0 : 0 < c) (h : c ≤ 10 ^ 200) : c.natAbs.log2 < 1920 := by
  refine (Nat.log2_lt (by omega)).mpr ?_
  have e : ((10 ^ 200 : Nat) : Int) = (10 : Int) ^ 200 := Int.natCast_pow 10 200
  rw [← e] at h
  have h2 : (10 ^ 200 : Nat) < 2 ^ 1920 := by decide +kernel
  generalize (10 ^ 200 : Nat) = k at *
  omega

end
section
/-! a for with any target over a made tuple: the stored names are forgotten but for one int, of which Inv holds; the ledger stands -/
section
variable {prog : Program} {w : World} {A : Around} {E : Value → Shared → Prop} {s : Shared} {env : Env} {h₀ : Heap} {target : PySem.Expr} {body : List Stmt} {Q : Flow → Shared → Prop}
end

end
section
/-! a for over a made list or tuple, any target: one turn is walked for all; the iterator stands ahead of the ledger -/
def TurnEnd0 (h₀ : Heap) (L : Addr) (stored : List Str) (m₀ : Str → Option Value) (led : List (Addr × Obj)) (Q : Flow → Shared → Prop) (s₁ : Shared) (f : Flow) (s₂ : Shared) : Prop :=
  match f with
  | .ret v => Q (.ret v) s₂
  | .brk => Q .next s₂
  | _ => ∃ h' tk m', s₂ = { s₁ with heap := h', toks := tk } ∧ Fr h₀ L h' m' ∧ News h₀ L h' led ∧ ∀ y, stored.contains y = false → m' y = m₀ y
section
variable {prog : Program} {w : World} {A : Around} {E : Value → Shared → Prop} {s : Shared} {env : Env} {h₀ : Heap} {target : PySem.Expr} {body : List Stmt} {Q : Flow → Shared → Prop}
theorem items_zero {I : Addr} {cl : String} {keep news : List (Addr × Obj)} {m₀ : Str → Option Value} {vs : List Value} (stored : List Str) (hI : ∀ p ∈ news, p.1 < I) (hk : SubL keep news)
    (turn : ∀ (i : Nat) v (u : Str → Option Value) h tk (oI : Obj), oI.cls = .type cl → vs[i]? = some v → Fr h₀ env.locals h (fun y => if stored.contains y then u y else m₀ y) → News h₀ env.locals h ((I, oI) :: news) →
      wpAny (model prog w) A (assign target env v) (fun _ s₃ => wpAny (model prog w) A (execs body env) (TurnEnd0 h₀ env.locals stored m₀ ((I, oI) :: news) Q { s with heap := h, toks := tk }) E s₃) E { s with heap := h, toks := tk })
    (done : ∀ (u : Str → Option Value) h tk, Fr h₀ env.locals h (fun y => if stored.contains y then u y else m₀ y) → News h₀ env.locals h news → Q .next { s with heap := h, toks := tk }) :
    ∀ (n i : Nat) (m : Str → Option Value), i + n = vs.length → (∀ y, stored.contains y = false → m y = m₀ y) → ItemsRest prog w A E h₀ env target body Q s [(I, cl)] keep ((vs.drop i).map .val) m news := by
  have em : ∀ m : Str → Option Value, (∀ y, stored.contains y = false → m y = m₀ y) → m = fun y => if stored.contains y then m y else m₀ y := fun m h => by
    funext y
    cases hc : stored.contains y with
    | true => simp
    | false => simp; exact h y hc
  intro n
  induction n with
  | zero =>
    intro i m hi ha
    rw [List.drop_eq_nil_of_le (by omega)]
    intro h tk F N
    rw [em m ha] at F
    exact done m h tk F N
  | succ n ih =>
    intro i m hi ha
    have hlt : i < vs.length := by omega
    rw [List.drop_eq_getElem_cons hlt]
    intro v h tk hv F
    have hv' : v = vs[i] := hv
    intro oI hoI N
    rw [em m ha] at F
    refine wpAny_mono (turn i v m h tk oI hoI (by rw [hv']; exact List.getElem?_eq_getElem hlt) F N) (fun _ s₃ q => wpAny_mono q (fun f s₂ p => ?_) fun _ _ e => e) fun _ _ e => e
    have fin : (∃ h' tk' m', s₂ = { ({ s with heap := h, toks := tk } : Shared) with heap := h', toks := tk' } ∧ Fr h₀ env.locals h' m' ∧ News h₀ env.locals h' ((I, oI) :: news) ∧ ∀ y, stored.contains y = false → m' y = m₀ y) →
        UnrEndW h₀ env.locals { s with heap := h, toks := tk } [(I, oI)] (fun m' n' => SubL keep n' ∧ ItemsRest prog w A E h₀ env target body Q s [(I, cl)] keep ((vs.drop (i + 1)).map .val) m' n') s₂ := by
      rintro ⟨h', tk', m', e, F', N', ha'⟩
      exact ⟨h', tk', m', news, e, F', N', fun p hp q hq => by rw [List.mem_singleton.mp hq]; exact Nat.ne_of_lt (hI p hp), hk, ih (i + 1) m' (by omega) ha'⟩
    cases f with
    | ret v => exact p
    | brk => exact p
    | next => exact fin p
    | cont => exact fin p
theorem subl_one {p : Addr × Obj} {l : List (Addr × Obj)} (h : p ∈ l) : SubL [p] l := And.intro h trivial
/-- the rules -/
theorem list_zero {ax : Addr} {lo : Obj} {vs : List Value} {n : Nat} {m₀ : Str → Option Value} {news : List (Addr × Obj)} (stored : List Str)
    (hh : A.handled = none) (F : Fr h₀ env.locals s.heap m₀) (N : News h₀ env.locals s.heap news) (hm : (ax, lo) ∈ news) (hc : lo.cls = .type "list") (hd : lo.data = .seq vs.toArray n)
    (turn : ∀ I : Addr, (∀ p ∈ news, p.1 < I) → ∀ (i : Nat) v (u : Str → Option Value) h tk (oI : Obj), oI.cls = .type "list_iterator" → vs[i]? = some v → Fr h₀ env.locals h (fun y => if stored.contains y then u y else m₀ y) → News h₀ env.locals h ((I, oI) :: news) →
      wpAny (model prog w) A (assign target env v) (fun _ s₃ => wpAny (model prog w) A (execs body env) (TurnEnd0 h₀ env.locals stored m₀ ((I, oI) :: news) Q { s with heap := h, toks := tk }) E s₃) E { s with heap := h, toks := tk })
    (done : ∀ (u : Str → Option Value) h tk, Fr h₀ env.locals h (fun y => if stored.contains y then u y else m₀ y) → News h₀ env.locals h news → Q .next { s with heap := h, toks := tk }) :
    wpAny (model prog w) A (pyIter (.ref ax)) (fun it s₂ => TurnsAt prog w A h₀ env target body Q E it s₂) E s :=
  iter_listTurns hh F N hm hc hd fun I hI => items_zero stored hI (subl_one hm) (turn I hI) done vs.length 0 m₀ (by omega) (fun _ _ => rfl)
theorem tup_zero {ax : Addr} {lo : Obj} {vs : List Value} {n : Nat} {m₀ : Str → Option Value} {news : List (Addr × Obj)} (stored : List Str)
    (hh : A.handled = none) (F : Fr h₀ env.locals s.heap m₀) (N : News h₀ env.locals s.heap news) (hm : (ax, lo) ∈ news) (hc : lo.cls = .type "tuple") (hd : lo.data = .seq vs.toArray n)
    (turn : ∀ I : Addr, (∀ p ∈ news, p.1 < I) → ∀ (i : Nat) v (u : Str → Option Value) h tk (oI : Obj), oI.cls = .type "tuple_iterator" → vs[i]? = some v → Fr h₀ env.locals h (fun y => if stored.contains y then u y else m₀ y) → News h₀ env.locals h ((I, oI) :: news) →
      wpAny (model prog w) A (assign target env v) (fun _ s₃ => wpAny (model prog w) A (execs body env) (TurnEnd0 h₀ env.locals stored m₀ ((I, oI) :: news) Q { s with heap := h, toks := tk }) E s₃) E { s with heap := h, toks := tk })
    (done : ∀ (u : Str → Option Value) h tk, Fr h₀ env.locals h (fun y => if stored.contains y then u y else m₀ y) → News h₀ env.locals h news → Q .next { s with heap := h, toks := tk }) :
    wpAny (model prog w) A (pyIter (.ref ax)) (fun it s₂ => TurnsAt prog w A h₀ env target body Q E it s₂) E s :=
  iter_tupTurns hh F N hm hc hd fun I hI => items_zero stored hI (subl_one hm) (turn I hI) done vs.length 0 m₀ (by omega) (fun _ _ => rfl)
end

end
section
/-- what _dlog10 makes of a number whose scaled coefficient and decade are known -/
theorem dlog10_val {c e p f x : Int} (hp : 0 ≤ p) (hf : dl_f c e = f) (hx : dl_c c e (p + 2) = x) : dlog10N c e p = divN (f * 10 ^ (p + 2).toNat + divN (ilogN x (10 ^ (p + 2).toNat) * 10 ^ (p + 2).toNat) (log10D (p + 2))) 100 := by
  unfold dlog10N dl_d
  rw [if_pos (by omega), hf, hx]
def dD (x p : Int) : Int := divN (ilogN x (10 ^ (p + 2).toNat) * 10 ^ (p + 2).toNat) (log10D (p + 2))

end
section
structure P01 (n j f t : Int) : Prop where
  f1 : 10 ^ (n - 1).toNat ≤ f
  f2 : f < 10 ^ n.toNat
  t1 : 0 ≤ t
  t2 : t < 10 ^ j.toNat
/-- sizes -/
theorem P01.pos {n j f t : Int} (P : P01 n j f t) : 0 < f := by
  have := ten_pos (n - 1).toNat; have := P.f1; omega
theorem P01.bits {n j f t : Int} (P : P01 n j f t) (hn : n ≤ 100) : intBits f ≤ 5000000 := by
  have h0 := P.pos
  have h2 := P.f2
  refine Nat.le_trans (m := 4 * n.toNat + 1) ?_ (by omega)
  refine intBits_le_of_natAbs (y := 10 ^ n.toNat) ?_ (bits10 _)
  omega
theorem P01.big {n j f t : Int} (P : P01 n j f t) (hn0 : 1 ≤ n) (hn : n ≤ 100) (hj0 : 1 ≤ j) (hj : j ≤ 60) : 0 < f * 10 ^ j.toNat + t ∧ f * 10 ^ j.toNat + t ≤ 10 ^ 200 := by
  obtain ⟨f1, f2, t1, t2⟩ := P
  have p1 := ten_pos (n - 1).toNat
  have pj := ten_pos j.toNat
  constructor
  · have := Int.mul_pos (a := f) (b := 10 ^ j.toNat) (by omega) pj
    omega
  · have h1 : (f + 1) * 10 ^ j.toNat ≤ 10 ^ n.toNat * 10 ^ j.toNat := Int.mul_le_mul_of_nonneg_right (by omega) (by omega)
    have e2 : (f + 1) * 10 ^ j.toNat = f * 10 ^ j.toNat + 10 ^ j.toNat := by grind
    have h3 : (10 : Int) ^ n.toNat * 10 ^ j.toNat ≤ 10 ^ 200 := by
      rw [← Int.pow_add]; exact ten_le (by omega)
    generalize (10 : Int) ^ 200 = k at *
    omega
theorem P01.near {n j f t : Int} (P : P01 n j f t) (hn : n ≤ 100) : (0 < f ∧ f ≤ 10 ^ 200) ∧ (0 < f + 1 ∧ f + 1 ≤ 10 ^ 200) := by
  have h0 := P.pos
  have h2 := P.f2
  have h3 : (10 : Int) ^ n.toNat ≤ 10 ^ 200 := ten_le (by omega)
  generalize (10 : Int) ^ 200 = k at *
  omega
theorem bits_sm {a : Int} (h1 : -1000000 ≤ a) (h2 : a ≤ 1000000) : intBits a ≤ 64 := intBits_le_64 (by omega) (by omega)

end
section
/-- the scaled coefficient: 10 ^ k * c to the nearest -/
theorem scaled {c e q : Int} {k : Nat} {size : Int} (hs : ndig c = size) (hk : dl_k c e q = (k : Int) - (size - 1)) (hc : 0 < c) :
    -(10 ^ (size - 1).toNat : Int) ≤ 2 * (c * 10 ^ k - 10 ^ (size - 1).toNat * dl_c c e q) ∧ 2 * (c * 10 ^ k - 10 ^ (size - 1).toNat * dl_c c e q) ≤ 10 ^ (size - 1).toNat ∧ ((2 * (c * 10 ^ k - 10 ^ (size - 1).toNat * dl_c c e q) = 10 ^ (size - 1).toNat ∨ 2 * (c * 10 ^ k - 10 ^ (size - 1).toNat * dl_c c e q) = -(10 ^ (size - 1).toNat : Int)) → dl_c c e q % 2 = 0) := by
  have h1 := ndig_pos hc
  have pu := ten_pos (size - 1).toNat
  unfold dl_c
  rw [hk]
  split
  · next h =>
    have e : k = (size - 1).toNat + ((k : Int) - (size - 1)).toNat := by omega
    have e2 : (10 : Int) ^ k = 10 ^ (size - 1).toNat * 10 ^ ((k : Int) - (size - 1)).toNat := by
      rw [← Int.pow_add, ← e]
    have e3 : c * 10 ^ k - 10 ^ (size - 1).toNat * (c * 10 ^ ((k : Int) - (size - 1)).toNat) = 0 := by rw [e2]; grind
    rw [e3]
    refine ⟨by omega, by omega, fun h => ?_⟩
    omega
  · next h =>
    have e : (size - 1).toNat = k + (-((k : Int) - (size - 1))).toNat := by omega
    have e2 : (10 : Int) ^ (size - 1).toNat = 10 ^ k * 10 ^ (-((k : Int) - (size - 1))).toNat := by
      rw [← Int.pow_add, ← e]
    have hp := ten_pos (-((k : Int) - (size - 1))).toNat
    have hpk := ten_pos k
    have hn := divN_near (a := c) hp
    have he := divN_even (a := c) hp
    generalize divN c (10 ^ (-((k : Int) - (size - 1))).toNat) = x at *
    rw [e2]
    generalize (10 : Int) ^ (-((k : Int) - (size - 1))).toNat = B at *
    generalize (10 : Int) ^ k = K at *
    have e4 : 2 * (c * K - K * B * x) = K * (2 * (c - B * x)) := by grind
    have e5 : -(K * B) = K * (-B) := by grind
    rw [e4, e5]
    refine ⟨Int.mul_le_mul_of_nonneg_left hn.1 (by omega), Int.mul_le_mul_of_nonneg_left hn.2 (by omega), fun h => he ?_⟩
    rcases h with h | h
    · exact .inl (Int.eq_of_mul_eq_mul_left (by omega) h)
    · exact .inr (Int.eq_of_mul_eq_mul_left (by omega) h)

end
section
/-! the chain of roots, held against written chains: q (r+1) ^ 2 against q r, q r = Q r / S -/
/-- a property that the loop keeps holds at its end -/
theorem ilLp_inv {x M : Int} (P : ilPre x M) (J : Int → Int → Prop) (h0 : J (x - M) 0) (hs : ∀ y R, ilJ x M y R → J y R → ilT M y R = true → J (ilS M y R) (R + 1)) :
    ∃ y R, ilJ x M y R ∧ J y R ∧ ilT M y R = false ∧ ilLp 40 M (x - M) 0 = (y, R) := by
  have run : ∀ (n : Nat) (y R : Int), ilJL x M y R → J y R → 40 - R.toNat = n → ∃ y' R', ilJ x M y' R' ∧ J y' R' ∧ ilT M y' R' = false ∧ ilLp 40 M (x - M) 0 = (y', R') := by
    intro n
    induction n with
    | zero => intro y R h _ e; have := h.1.R1; omega
    | succ n ih =>
      intro y R h hj e
      cases t : ilT M y R with
      | false => exact ⟨y, R, h.1, hj, t, h.stop t⟩
      | true => exact ih _ _ (h.next P t) (hs y R h.1 hj t) (by have := h.1.R0; omega)
  exact run 40 (x - M) 0 (ilJL.start P) h0 rfl
/-- the two relations between y and the root s of a turn -/
theorem root_lo {x M y R p s : Int} (P : ilPre x M) (h : ilJ x M y R) (hp : 2 ^ R.toNat = p) (hs : sqrtN (M * (M + rshN y R)) = s) : 2 * M * y ≥ p * (2 * (s * s) - 2 * s - 2 * (M * M) - M) ∧ 2 * M * y ≤ p * (2 * (s * s) + 2 * s - 2 * (M * M) + M) := by
  obtain ⟨a1, a2, s0, s1, s2⟩ := h.arg P
  have hM := P.M0
  have pp := pow2_pos R.toNat
  have hn := divN_near (a := y) pp
  rw [rshN_div] at *
  rw [hs] at *
  rw [hp] at *
  generalize divN y p = r at *
  have k1 : M * (p * r * 2) ≤ M * (2 * y + p) := Int.mul_le_mul_of_nonneg_left (by grind) (by omega)
  have k2 : M * (2 * y - p) ≤ M * (p * r * 2) := Int.mul_le_mul_of_nonneg_left (by grind) (by omega)
  have k3 : p * (s * s - s) ≤ p * (M * (M + r)) := Int.mul_le_mul_of_nonneg_left (by omega) (by omega)
  have k4 : p * (M * (M + r)) ≤ p * (s * s + s) := Int.mul_le_mul_of_nonneg_left (by omega) (by omega)
  constructor <;> grind
theorem step_near {x M y R s : Int} (P : ilPre x M) (h : ilJ x M y R) (hs : sqrtN (M * (M + rshN y R)) = s) : 0 < M + s ∧ 4 * M * y - (M + s) ≤ 2 * (ilS M y R * (M + s)) ∧ 2 * (ilS M y R * (M + s)) ≤ 4 * M * y + (M + s) := by
  have hd := (h.dvs P).1
  unfold ilS
  rw [hs] at *
  have hn := divN_near (a := M * y * 2) hd
  generalize divN (M * y * 2) (M + s) = v at *
  have e1 : v * (M + s) = (M + s) * v := Int.mul_comm _ _
  have e2 : 4 * M * y = 2 * (M * y * 2) := by grind
  rw [e1, e2]
  exact ⟨hd, by omega, by omega⟩
theorem mono2 {a b c : Int} (h : a ≤ b) (hc : 0 ≤ c) : c * a ≤ c * b := Int.mul_le_mul_of_nonneg_left h hc
theorem upPos {x M y R p S Q Q' E E' : Int} (P : ilPre x M) (h : ilJ x M y R) (hx : M ≤ x) (hp : 2 ^ R.toNat = p) (hS : 0 < S) (hQ1 : S ≤ Q') (hQ : Q * S ≤ Q' * Q') (hE : 2 * E + 2 * (p * (Q' - S)) + S ≤ 2 * E')
    (hE0 : 0 ≤ E) (hb : S * y ≤ p * (M * (Q - S)) + E) : S * ilS M y R ≤ 2 * p * (M * (Q' - S)) + E' := by
  have hM := P.M0
  have hM0 : 0 ≤ M := by omega
  have pp : 0 < p := by rw [← hp]; exact pow2_pos _
  obtain ⟨rl, ru⟩ := root_lo P h hp rfl
  obtain ⟨d0, d1, d2⟩ := step_near P h rfl
  have hsM := (h.root P).1 hx
  obtain ⟨y0, _⟩ := h.up hx
  generalize sqrtN (M * (M + rshN y R)) = s at *
  generalize ilS M y R = v at *
  suffices hk : 4 * M * y * S ≤ 2 * (2 * p * (M * (Q' - S)) * (M + s)) + (2 * E' - S) * (M + s) by
    refine Int.not_lt.mp fun hlt => ?_
    have k1 : (M + s) * (2 * p * (M * (Q' - S)) + E' + 1) ≤ (M + s) * (S * v) := mono2 (by omega) (by omega)
    have k2 : S * (2 * (v * (M + s))) ≤ S * (4 * M * y + (M + s)) := mono2 d2 (by omega)
    grind
  have eE : 2 * (E + p * (Q' - S)) ≤ 2 * E' - S := by omega
  have k0 : 0 ≤ E + p * (Q' - S) := by
    have := Int.mul_nonneg (a := p) (b := Q' - S) (by omega) (by omega)
    omega
  have kE : (M + s) * (2 * (E + p * (Q' - S))) ≤ (M + s) * (2 * E' - S) := mono2 eE (by omega)
  have kM : (2 * (E + p * (Q' - S))) * (M + M) ≤ (2 * (E + p * (Q' - S))) * (M + s) := mono2 (by omega) (by omega)
  by_cases c : Q' * M ≤ S * s + S
  · refine Int.le_of_mul_le_mul_left (a := S) ?_ hS
    have q1 : (p * (M * (Q' - S))) * (M * (S + Q') - S) ≤ (p * (M * (Q' - S))) * (S * (M + s)) := by
      refine mono2 (by grind) ?_
      exact Int.mul_nonneg (by omega) (Int.mul_nonneg hM0 (by omega))
    have q2 : (p * (M * M)) * (Q * S) ≤ (p * (M * M)) * (Q' * Q') := mono2 hQ (Int.mul_nonneg (by omega) (Int.mul_nonneg hM0 hM0))
    have q3 : (4 * M * S) * (S * y) ≤ (4 * M * S) * (p * (M * (Q - S)) + E) := mono2 hb (Int.mul_nonneg (by omega) (by omega))
    have q4 : S * ((2 * (E + p * (Q' - S))) * (M + M)) ≤ S * ((M + s) * (2 * E' - S)) := mono2 (by grind) (by omega)
    grind
  · have q1 : (p * (M + s) * 2) * (S + 1) ≤ (p * (M + s) * 2) * (Q' * M - S * s) := by
      refine mono2 (by omega) ?_
      exact Int.mul_nonneg (Int.mul_nonneg (by omega) (by omega)) (by omega)
    have q2 : S * (2 * M * y) ≤ S * (p * (2 * (s * s) + 2 * s - 2 * (M * M) + M)) := mono2 ru (by omega)
    have q3 : 0 ≤ p * M := Int.mul_nonneg (by omega) hM0
    have q4 : 0 ≤ (M + s) * (2 * E' - S) := Int.mul_nonneg (by omega) (by omega)
    have q5 : 0 ≤ p * M * S := Int.mul_nonneg q3 (by omega)
    have q6 : 0 ≤ p * (M + s) := Int.mul_nonneg (by omega) (by omega)
    grind

end
section
theorem s_low {M y p S Q Q' E K s : Int} (hM : 100 ≤ M) (pp : 0 < p) (hS : 0 < S) (hQ1 : 0 ≤ Q') (hQ : Q' * Q' ≤ Q * S) (hs0 : 0 ≤ s) (hKS : S ≤ K) (hK0 : K ≤ 100 * Q')
    (hK : 200 * (E * S) + 100 * (p * (S * S)) ≤ 2 * (p * (100 * (2 * (K * Q') - S * Q') - K * (K - S)))) (hb : p * (M * (Q - S)) ≤ S * y + E)
    (ru : 2 * M * y ≤ p * (2 * (s * s) + 2 * s - 2 * (M * M) + M)) : Q' * M - K ≤ S * s := by
  refine Int.not_lt.mp fun hlt => ?_
  have hM0 : 0 ≤ M := by omega
  -- (S s)^2 + S (S s) < (Q' M - K)^2 + S (Q' M - K)
  have hz : 0 ≤ S * s := Int.mul_nonneg (by omega) hs0
  have hA : 0 ≤ Q' * M - K := by omega
  have a1 : (S * s) * (S * s) ≤ (Q' * M - K) * (Q' * M - K) := mul_lo hz hz (by omega) (by omega)
  have a2 : S * (S * s) ≤ S * (Q' * M - K - 1) := mono2 (by omega) (by omega)
  have a3 : (2 * p) * ((S * s) * (S * s) + S * (S * s)) ≤ (2 * p) * ((Q' * M - K) * (Q' * M - K) + S * (Q' * M - K - 1)) := mono2 (by omega) (by omega)
  have b1 : (S * S) * (2 * M * y) ≤ (S * S) * (p * (2 * (s * s) + 2 * s - 2 * (M * M) + M)) := mono2 ru (Int.mul_nonneg (by omega) (by omega))
  have b2 : (2 * M * S) * (p * (M * (Q - S))) ≤ (2 * M * S) * (S * y + E) := mono2 hb (Int.mul_nonneg (by omega) (by omega))
  have b3 : (2 * (p * (M * M))) * (Q' * Q') ≤ (2 * (p * (M * M))) * (Q * S) := mono2 hQ (Int.mul_nonneg (by omega) (Int.mul_nonneg (by omega) (Int.mul_nonneg hM0 hM0)))
  have c0 : M * (200 * (E * S) + 100 * (p * (S * S))) ≤ M * (2 * (p * (100 * (2 * (K * Q') - S * Q') - K * (K - S)))) := mono2 hK hM0
  have c1 : (p * (K * (K - S))) * 100 ≤ (p * (K * (K - S))) * M := mono2 hM (Int.mul_nonneg (by omega) (Int.mul_nonneg (by omega) (by omega)))
  have c2 : 0 < p * S := Int.mul_pos pp hS
  grind
theorem lowNeg {x M y R p S Q Q' E E' K : Int} (P : ilPre x M) (h : ilJ x M y R) (hp : 2 ^ R.toNat = p) (hS : 0 < S) (hQ0 : 0 ≤ Q') (hQ1 : Q' ≤ S) (hQ : Q' * Q' ≤ Q * S) (hKS : S ≤ K) (hK0 : K ≤ 100 * Q')
    (hK : 200 * (E * S) + 100 * (p * (S * S)) ≤ 2 * (p * (100 * (2 * (K * Q') - S * Q') - K * (K - S))))
    (hE : 400 * (S * E + p * ((S - Q') * K)) ≤ (2 * E' - S) * (100 * (S + Q') - K)) (hE0 : 0 ≤ E) (hE1 : S ≤ 2 * E') (hb : p * (M * (Q - S)) ≤ S * y + E) :
    2 * p * (M * (Q' - S)) ≤ S * ilS M y R + E' := by
  have hM := P.M0
  have hM0 : 0 ≤ M := by omega
  have pp : 0 < p := by rw [← hp]; exact pow2_pos _
  obtain ⟨rl, ru⟩ := root_lo P h hp rfl
  obtain ⟨d0, d1, d2⟩ := step_near P h rfl
  have s0 : 0 ≤ sqrtN (M * (M + rshN y R)) := by have := (h.arg P).2.2.1; omega
  generalize sqrtN (M * (M + rshN y R)) = s at *
  generalize ilS M y R = v at *
  have hs := s_low hM pp hS hQ0 hQ s0 hKS hK0 hK hb ru
  suffices hk : 2 * (2 * p * (M * (Q' - S)) * (M + s)) ≤ 4 * M * y * S + (2 * E' - S) * (M + s) by
    refine Int.not_lt.mp fun hlt => ?_
    have k1 : (M + s) * (S * v + E' + 1) ≤ (M + s) * (2 * p * (M * (Q' - S))) := mono2 (by omega) (by omega)
    have k2 : S * (4 * M * y - (M + s)) ≤ S * (2 * (v * (M + s))) := mono2 d1 (by omega)
    grind
  refine Int.le_of_mul_le_mul_left (a := S) ?_ hS
  have q1 : (p * (M * (S - Q'))) * (M * (S + Q') - K) ≤ (p * (M * (S - Q'))) * (S * (M + s)) := by
    refine mono2 (by grind) ?_
    exact Int.mul_nonneg (by omega) (Int.mul_nonneg hM0 (by omega))
  have q2 : (p * (M * M)) * (Q' * Q') ≤ (p * (M * M)) * (Q * S) := mono2 hQ (Int.mul_nonneg (by omega) (Int.mul_nonneg hM0 hM0))
  have q3 : (4 * M * S) * (p * (M * (Q - S))) ≤ (4 * M * S) * (S * y + E) := mono2 hb (Int.mul_nonneg (by omega) (by omega))
  have q4 : (2 * E' - S) * (M * (S + Q') - K) ≤ (2 * E' - S) * (S * (M + s)) := mono2 (by grind) (by omega)
  have q5 : ((2 * E' - S) * K) * 100 ≤ ((2 * E' - S) * K) * M := mono2 hM (Int.mul_nonneg (by omega) (by omega))
  have q6 : M * (400 * (S * E + p * ((S - Q') * K))) ≤ M * ((2 * E' - S) * (100 * (S + Q') - K)) := mono2 hE hM0
  grind
structure ChNeg (n : Nat) (S : Int) (Q E K : Nat → Int) : Prop where
  S0 : 0 < S
  q : ∀ r, r < n → 0 ≤ Q (r + 1) ∧ Q (r + 1) ≤ S ∧ Q (r + 1) * Q (r + 1) ≤ Q r * S ∧ S ≤ K r ∧ K r ≤ 100 * Q (r + 1) ∧
    200 * (E r * S) + 100 * (2 ^ r * (S * S)) ≤ 2 * (2 ^ r * (100 * (2 * (K r * Q (r + 1)) - S * Q (r + 1)) - K r * (K r - S))) ∧
    400 * (S * E r + 2 ^ r * ((S - Q (r + 1)) * K r)) ≤ (2 * E (r + 1) - S) * (100 * (S + Q (r + 1)) - K r) ∧ 0 ≤ E r ∧ S ≤ 2 * E (r + 1)
  last : 1024 * (S - Q 10) * 100 + E 10 < 400 * S

end
section
def qCh (S q : Int) : Nat → Int
  | 0 => q
  | r + 1 => (isq 300 (qCh S q r * S).toNat : Int)
def eCh (S : Int) (Q : Nat → Int) : Nat → Int
  | 0 => 0
  | r + 1 => eCh S Q r + 2 ^ r * (Q (r + 1) - S) + (S + 1) / 2
/-- the room that the root's floor wants, and the errors, x below M -/
def kN6 (S : Int) (Q : Nat → Int) (E : Int) (r : Nat) : Int := S + (S * (100 * (2 ^ r * (S)) + 200 * E)) / (400 * (2 ^ r * Q (r + 1))) + S / 2
def eN6 (S : Int) (Q : Nat → Int) : Nat → Int
  | 0 => 0
  | r + 1 => (400 * (S * eN6 S Q r + 2 ^ r * ((S - Q (r + 1)) * kN6 S Q (eN6 S Q r) r))) / (2 * (100 * (S + Q (r + 1)) - kN6 S Q (eN6 S Q r) r)) + 1 + (S + 1) / 2
/-- a number of first figure d and so many more -/
structure D6 (c d more : Int) : Prop where
  m0 : 0 ≤ more
  d1 : 1 ≤ d
  d2 : d ≤ 9
  lo : d * 10 ^ more.toNat ≤ c
  hi : c < (d + 1) * 10 ^ more.toNat
theorem D6.pos {c d more : Int} (h : D6 c d more) : 0 < c := by
  have p := ten_pos more.toNat
  have : 1 * 10 ^ more.toNat ≤ d * 10 ^ more.toNat := Int.mul_le_mul_of_nonneg_right h.d1 (by omega)
  have := h.lo
  omega

end
section
/-! Horner's scheme at two places -/
/-- the loop's end against a written chain from above -/
structure ChUp (S : Int) (Q E : Nat → Int) : Prop where
  S0 : 0 < S
  q : ∀ r, r < 10 → S ≤ Q (r + 1) ∧ Q r * S ≤ Q (r + 1) * Q (r + 1) ∧ 2 * E r + 2 * (2 ^ r * (Q (r + 1) - S)) + S ≤ 2 * E (r + 1) ∧ 0 ≤ E r
  last : 1024 * (Q 10 - S) * 100 + E 10 < 400 * S
abbrev S8 : Int := 1000000000000000000000000000000
def qU8 : Nat → Int
  | 0 => 10 * S8
  | r + 1 => (isq 300 (qU8 r * S8).toNat : Int) + 1
def eU8 : Nat → Int := eCh S8 qU8
def qN8 : Nat → Int := qCh S8 100000000000000000000000000000
def eN8 : Nat → Int := eN6 S8 qN8
def kN8 (r : Nat) : Int := kN6 S8 qN8 (eN8 r) r
theorem chU8_tab : ∀ r : Fin 10, S8 ≤ qU8 (r.val + 1) ∧ qU8 r.val * S8 ≤ qU8 (r.val + 1) * qU8 (r.val + 1) ∧ 2 * eU8 r.val + 2 * (2 ^ r.val * (qU8 (r.val + 1) - S8)) + S8 ≤ 2 * eU8 (r.val + 1) ∧ 0 ≤ eU8 r.val := by decide +kernel
theorem chU8 : ChUp S8 qU8 eU8 := ⟨by decide, fun r hr => chU8_tab ⟨r, hr⟩, by decide +kernel⟩
theorem chN8_tab : ∀ r : Fin 10, 0 ≤ qN8 (r.val + 1) ∧ qN8 (r.val + 1) ≤ S8 ∧ qN8 (r.val + 1) * qN8 (r.val + 1) ≤ qN8 r.val * S8 ∧ S8 ≤ kN8 r.val ∧ kN8 r.val ≤ 100 * qN8 (r.val + 1) ∧
    200 * (eN8 r.val * S8) + 100 * (2 ^ r.val * (S8 * S8)) ≤ 2 * (2 ^ r.val * (100 * (2 * (kN8 r.val * qN8 (r.val + 1)) - S8 * qN8 (r.val + 1)) - kN8 r.val * (kN8 r.val - S8))) ∧
    400 * (S8 * eN8 r.val + 2 ^ r.val * ((S8 - qN8 (r.val + 1)) * kN8 r.val)) ≤ (2 * eN8 (r.val + 1) - S8) * (100 * (S8 + qN8 (r.val + 1)) - kN8 r.val) ∧ 0 ≤ eN8 r.val ∧ S8 ≤ 2 * eN8 (r.val + 1) := by decide +kernel
theorem chN8 : ChNeg 10 S8 qN8 eN8 kN8 := ⟨by decide, fun r hr => chN8_tab ⟨r, hr⟩, by decide +kernel⟩

end
section
/-! written forms in two letters: hv [c0, c1, .., cn] d M = c0 * M ^ n + c1 * d * M ^ (n - 1) + .. + cn * d ^ n -/
def hv : List Int → Int → Int → Int
  | [], _, _ => 0
  | c :: cs, d, M => c * M ^ cs.length + d * hv cs d M
theorem hv_append (xs ys : List Int) (d M : Int) : hv (xs ++ ys) d M = hv xs d M * M ^ ys.length + d ^ xs.length * hv ys d M := by
  induction xs with
  | nil => simp [hv]
  | cons c cs ih =>
    show c * M ^ (cs ++ ys).length + d * hv (cs ++ ys) d M = (c * M ^ cs.length + d * hv cs d M) * M ^ ys.length + d ^ (cs.length + 1) * hv ys d M
    rw [ih, List.length_append, Int.pow_add, Int.pow_succ]
    grind
theorem hv_neg (xs : List Int) (d M : Int) : hv (xs.map (fun c => -c)) d M = -hv xs d M := by
  induction xs with
  | nil => simp [hv]
  | cons c cs ih =>
    show -c * M ^ (cs.map (fun c => -c)).length + d * hv (cs.map (fun c => -c)) d M = -(c * M ^ cs.length + d * hv cs d M)
    rw [ih, List.length_map]
    grind
theorem hv_add : ∀ (xs ys : List Int) (d M : Int), xs.length = ys.length → hv (List.zipWith (· + ·) xs ys) d M = hv xs d M + hv ys d M
  | [], [], _, _, _ => by simp [hv]
  | x :: xs, y :: ys, d, M, h => by
    have hl : xs.length = ys.length := by simpa using h
    show (x + y) * M ^ (List.zipWith (· + ·) xs ys).length + d * hv (List.zipWith (· + ·) xs ys) d M = (x * M ^ xs.length + d * hv xs d M) + (y * M ^ ys.length + d * hv ys d M)
    rw [hv_add xs ys d M hl, List.length_zipWith, hl, Nat.min_self]
    grind
  | [], y :: ys, _, _, h => by simp at h
  | x :: xs, [], _, _, h => by simp at h
theorem hv_scale (k : Int) (xs : List Int) (d M : Int) : hv (xs.map (fun c => k * c)) d M = k * hv xs d M := by
  induction xs with
  | nil => simp [hv]
  | cons c cs ih =>
    show k * c * M ^ (cs.map (fun c => k * c)).length + d * hv (cs.map (fun c => k * c)) d M = k * (c * M ^ cs.length + d * hv cs d M)
    rw [ih, List.length_map]
    grind
theorem hv_zeros (n : Nat) (d M : Int) : hv (List.replicate n 0) d M = 0 := by
  induction n with
  | zero => rfl
  | succ n ih =>
    show 0 * M ^ _ + d * hv (List.replicate n 0) d M = 0
    rw [ih]; simp
/-- sizes -/
def asum : List Int → Int
  | [] => 0
  | c :: cs => (c.natAbs : Int) + asum cs
theorem asum_nonneg : ∀ (xs : List Int), 0 ≤ asum xs
  | [] => Int.le_refl _
  | c :: cs => by have := asum_nonneg cs; show 0 ≤ (c.natAbs : Int) + asum cs; omega
theorem absmul {a b A B : Int} (ha : -A ≤ a ∧ a ≤ A) (hb : -B ≤ b ∧ b ≤ B) : -(A * B) ≤ a * b ∧ a * b ≤ A * B := by
  have c1 : 0 ≤ (A - a) * (B - b) := Int.mul_nonneg (by omega) (by omega)
  have c2 : 0 ≤ (A + a) * (B + b) := Int.mul_nonneg (by omega) (by omega)
  have c3 : 0 ≤ (A - a) * (B + b) := Int.mul_nonneg (by omega) (by omega)
  have c4 : 0 ≤ (A + a) * (B - b) := Int.mul_nonneg (by omega) (by omega)
  constructor <;> grind
theorem hv_bound {d M : Int} (hM : 0 ≤ M) (hd : -M ≤ d ∧ d ≤ M) : ∀ (xs : List Int), -(asum xs * M ^ xs.length) ≤ M * hv xs d M ∧ M * hv xs d M ≤ asum xs * M ^ xs.length
  | [] => by simp [hv, asum]
  | c :: cs => by
    obtain ⟨h1, h2⟩ := hv_bound hM hd cs
    have a := absmul hd ⟨h1, h2⟩
    have p : 0 ≤ M ^ (cs.length + 1) := Int.pow_nonneg hM
    have b := absmul (a := c) (A := (c.natAbs : Int)) (b := M ^ (cs.length + 1)) (B := M ^ (cs.length + 1)) ⟨by omega, by omega⟩ ⟨by omega, by omega⟩
    show -(((c.natAbs : Int) + asum cs) * M ^ (cs.length + 1)) ≤ M * (c * M ^ cs.length + d * hv cs d M) ∧ M * (c * M ^ cs.length + d * hv cs d M) ≤ ((c.natAbs : Int) + asum cs) * M ^ (cs.length + 1)
    have e1 : M * (c * M ^ cs.length + d * hv cs d M) = c * M ^ (cs.length + 1) + d * (M * hv cs d M) := by
      rw [Int.pow_succ]; grind
    have e2 : ((c.natAbs : Int) + asum cs) * M ^ (cs.length + 1) = (c.natAbs : Int) * M ^ (cs.length + 1) + M * (asum cs * M ^ cs.length) := by
      rw [Int.pow_succ]; grind
    rw [e1, e2]
    generalize d * (M * hv cs d M) = u at *
    generalize M * (asum cs * M ^ cs.length) = v at *
    generalize c * M ^ (cs.length + 1) = x at *
    generalize (c.natAbs : Int) * M ^ (cs.length + 1) = y at *
    omega

end
section
/-! Horner's scheme against the written form -/
/-- the least common multiple of 1 .. 25 -/
abbrev Q25 : Int := 26771144400
theorem q25 : ∀ k : Fin 26, 1 ≤ k.val → (k.val : Int) * (Q25 / (k.val : Int)) = Q25 := by decide +kernel
theorem q25i {k : Int} (h1 : 1 ≤ k) (h2 : k ≤ 25) : k * (Q25 / k) = Q25 ∧ 0 ≤ Q25 / k := by
  obtain ⟨m, rfl⟩ := Int.eq_ofNat_of_zero_le (by omega : 0 ≤ k)
  exact ⟨q25 ⟨m, by omega⟩ (by show 1 ≤ m; omega), Int.ediv_nonneg (by decide) (by omega)⟩
def cstep (cs : List Int) (k : Int) : List Int := (Q25 / k) :: cs.map (fun c => -c)
structure HE (M d N e : Int) (w : Int) (cs : List Int) : Prop where
  ne : cs ≠ []
  lo : -(e * (Q25 * M ^ (cs.length - 1))) ≤ N * (w * (Q25 * M ^ (cs.length - 1)) - M * hv cs d M)
  hi : N * (w * (Q25 * M ^ (cs.length - 1)) - M * hv cs d M) ≤ e * (Q25 * M ^ (cs.length - 1))
theorem he_start {M d N e T : Int} (hM : 0 < M) (h1 : 1 ≤ T) (h2 : T ≤ 25) (hN : 0 ≤ N) (he : N ≤ 2 * e) : HE M d N e (divN M T) [Q25 / T] := by
  obtain ⟨q1, q2⟩ := q25i h1 h2
  have n := divN_near (a := M) (b := T) (by omega)
  refine ⟨by simp, ?_, ?_⟩ <;>
    (show _ ≤ _
     generalize divN M T = w at *
     generalize Q25 / T = q at *
     simp only [List.length_singleton, Nat.sub_self, Int.pow_zero, Int.mul_one, hv, List.length_nil, Int.mul_zero, Int.add_zero]
     rw [← q1]
     have k1 : (N * q) * (2 * (M - T * w)) ≤ (N * q) * T := mono2 n.2 (Int.mul_nonneg hN q2)
     have k2 : (N * q) * (-T) ≤ (N * q) * (2 * (M - T * w)) := mono2 n.1 (Int.mul_nonneg hN q2)
     have k3 : (T * q) * N ≤ (T * q) * (2 * e) := mono2 he (Int.mul_nonneg (by omega) q2)
     grind)
theorem unit_one (M : Int) : -0 ≤ 2 * (M - 1 * divN M 1) ∧ 2 * (M - 1 * divN M 1) ≤ 0 := by
  have n := divN_near (a := M) (b := 1) (by omega)
  omega
theorem downKs_snoc (T : Nat) : downKs ((T + 2 : Nat) - 1) (T + 1) = downKs ((T + 2 : Nat) - 1) T ++ [1] := by
  unfold downKs
  rw [List.range_succ, List.map_append]
  congr 1
  simp
  omega
/-- the written form of the scheme -/
def clT (T : Nat) : List Int := (downKs ((T : Int) - 1) (T - 1)).foldl cstep [Q25 / (T : Int)]

end
section
/-! powers of 1 + 1 / G as a measure of ratios: GP G a b i j: a / b is at least (1 + 1 / G) ^ (i - j) -/
def GP (G a b : Int) (i j : Nat) : Prop := b * (G + 1) ^ i * G ^ j ≤ a * G ^ i * (G + 1) ^ j
theorem apow {a B : Int} (h : -B ≤ a ∧ a ≤ B) : ∀ (n : Nat), -(B ^ n) ≤ a ^ n ∧ a ^ n ≤ B ^ n
  | 0 => by simp
  | n + 1 => by
    rw [Int.pow_succ, Int.pow_succ]
    exact absmul (apow h n) h
theorem bern_up {G : Int} (hG : 0 < G) : ∀ j : Nat, G ^ j * (G + j) ≤ G * (G + 1) ^ j
  | 0 => by simp
  | j + 1 => by
    have ih := bern_up hG j
    have p : 0 < G ^ j := Int.pow_pos hG
    rw [Int.pow_succ, Int.pow_succ]
    have e : ((j + 1 : Nat) : Int) = j + 1 := by omega
    rw [e]
    generalize G ^ j = a at *
    generalize (G + 1) ^ j = b at *
    have k1 : (G + 1) * (a * (G + j)) ≤ (G + 1) * (G * b) := mono2 ih (by omega)
    have k2 : 0 ≤ a * (j : Int) := Int.mul_nonneg (by omega) (by omega)
    grind
theorem bern_dn {G : Int} (hG : 0 < G) : ∀ j : Nat, (G + 1) ^ j * (G + 1 - j) ≤ G ^ j * (G + 1)
  | 0 => by simp
  | j + 1 => by
    have ih := bern_dn hG j
    have p : 0 < G ^ j := Int.pow_pos hG
    have p1 : 0 < (G + 1) ^ j := Int.pow_pos (by omega)
    rw [Int.pow_succ, Int.pow_succ]
    have e : ((j + 1 : Nat) : Int) = j + 1 := by omega
    rw [e]
    generalize G ^ j = a at *
    generalize (G + 1) ^ j = b at *
    have k1 : G * (b * (G + 1 - j)) ≤ G * (a * (G + 1)) := mono2 ih (by omega)
    have k2 : 0 ≤ b * (j : Int) := Int.mul_nonneg (by omega) (by omega)
    grind
/-- (a + b) / a is at most (1 + 1 / G) ^ j where b / a <= j / G -/
theorem GP.small {G a b : Int} {j : Nat} (hG : 0 < G) (ha : 0 ≤ a) (h : G * b ≤ j * a) : GP G a (a + b) 0 j := by
  have k := bern_up hG j
  unfold GP
  rw [Int.pow_zero, Int.pow_zero, Int.mul_one, Int.mul_one]
  refine Int.le_of_mul_le_mul_left (a := G) ?_ hG
  have p : 0 < G ^ j := Int.pow_pos hG
  have k1 : a * (G ^ j * (G + j)) ≤ a * (G * (G + 1) ^ j) := mono2 k ha
  have k2 : G ^ j * (G * b) ≤ G ^ j * (j * a) := mono2 h (by omega)
  generalize G ^ j = u at *
  generalize (G + 1) ^ j = v at *
  grind
/-- (a + b) / a is at least (1 + 1 / G) ^ j where j / (G + 1) <= b / (a + b) -/
theorem GP.large {G a b : Int} {j : Nat} (hG : 0 < G) (ha : 0 ≤ a + b) (h : j * (a + b) ≤ (G + 1) * b) : GP G (a + b) a j 0 := by
  have k := bern_dn hG j
  unfold GP
  rw [Int.pow_zero, Int.pow_zero, Int.mul_one, Int.mul_one]
  refine Int.le_of_mul_le_mul_left (a := G + 1) ?_ (by omega)
  have p : 0 < (G + 1) ^ j := Int.pow_pos (by omega)
  have k1 : (a + b) * ((G + 1) ^ j * (G + 1 - j)) ≤ (a + b) * (G ^ j * (G + 1)) := mono2 k ha
  have k2 : (G + 1) ^ j * (j * (a + b)) ≤ (G + 1) ^ j * ((G + 1) * b) := mono2 h (by omega)
  generalize G ^ j = u at *
  generalize (G + 1) ^ j = v at *
  grind
theorem GP.one {G a : Int} : GP G a a 0 0 := by unfold GP; simp
theorem GP.mul {G a b c d : Int} {i j k l : Nat} (hG : 0 < G) (hb : 0 ≤ b) (hc : 0 ≤ c) (h1 : GP G a b i j) (h2 : GP G c d k l) : GP G (a * c) (b * d) (i + k) (j + l) := by
  unfold GP at *
  rw [Int.pow_add, Int.pow_add, Int.pow_add, Int.pow_add]
  have p1 : 0 < G ^ i := Int.pow_pos hG
  have p2 : 0 < G ^ j := Int.pow_pos hG
  have p3 : 0 < G ^ k := Int.pow_pos hG
  have p4 : 0 < G ^ l := Int.pow_pos hG
  have q1 : 0 < (G + 1) ^ i := Int.pow_pos (by omega)
  have q2 : 0 < (G + 1) ^ j := Int.pow_pos (by omega)
  have q3 : 0 < (G + 1) ^ k := Int.pow_pos (by omega)
  have q4 : 0 < (G + 1) ^ l := Int.pow_pos (by omega)
  have n1 : 0 ≤ b * (G + 1) ^ i * G ^ j := Int.mul_nonneg (Int.mul_nonneg hb (by omega)) (by omega)
  have n2 : 0 ≤ c * G ^ k * (G + 1) ^ l := Int.mul_nonneg (Int.mul_nonneg hc (by omega)) (by omega)
  have k1 : (b * (G + 1) ^ i * G ^ j) * (d * (G + 1) ^ k * G ^ l) ≤ (b * (G + 1) ^ i * G ^ j) * (c * G ^ k * (G + 1) ^ l) := mono2 h2 n1
  have k2 : (c * G ^ k * (G + 1) ^ l) * (b * (G + 1) ^ i * G ^ j) ≤ (c * G ^ k * (G + 1) ^ l) * (a * G ^ i * (G + 1) ^ j) := mono2 h1 n2
  generalize G ^ i = a1 at *
  generalize G ^ j = a2 at *
  generalize G ^ k = a3 at *
  generalize G ^ l = a4 at *
  generalize (G + 1) ^ i = b1 at *
  generalize (G + 1) ^ j = b2 at *
  generalize (G + 1) ^ k = b3 at *
  generalize (G + 1) ^ l = b4 at *
  have e1 : b * d * (b1 * b3) * (a2 * a4) = (b * b1 * a2) * (d * b3 * a4) := by grind
  have e2 : a * c * (a1 * a3) * (b2 * b4) = (c * a3 * b4) * (a * a1 * b2) := by grind
  have e3 : (b * b1 * a2) * (c * a3 * b4) = (c * a3 * b4) * (b * b1 * a2) := Int.mul_comm _ _
  rw [e1, e2]
  omega
theorem GP.pow {G a b : Int} {i j : Nat} (hG : 0 < G) (ha : 0 ≤ a) (hb : 0 ≤ b) (h : GP G a b i j) : ∀ n : Nat, GP G (a ^ n) (b ^ n) (n * i) (n * j)
  | 0 => by
    rw [Nat.zero_mul, Nat.zero_mul, Int.pow_zero, Int.pow_zero]; exact GP.one
  | n + 1 => by
    have := GP.mul hG (Int.pow_nonneg hb) ha (GP.pow hG ha hb h n) h
    rw [Int.pow_succ, Int.pow_succ]
    have e1 : (n + 1) * i = n * i + i := Nat.succ_mul ..
    have e2 : (n + 1) * j = n * j + j := Nat.succ_mul ..
    rw [e1, e2]
    exact this
/-- the ratio is above 1 -/
theorem GP.gt {G a b : Int} {i j : Nat} (hG : 0 < G) (hb : 0 < b) (h : GP G a b i j) (hij : j < i) : b < a := by
  unfold GP at h
  obtain ⟨n, rfl⟩ : ∃ n, i = j + n + 1 := ⟨i - j - 1, by omega⟩
  refine Int.not_le.mp fun hle => ?_
  have p2 : 0 < G ^ j := Int.pow_pos hG
  have q2 : 0 < (G + 1) ^ j := Int.pow_pos (by omega)
  have r : G ^ (n + 1) < (G + 1) ^ (n + 1) := by
    have : ∀ m : Nat, G ^ (m + 1) < (G + 1) ^ (m + 1) := by
      intro m
      induction m with
      | zero => rw [Int.pow_succ, Int.pow_succ, Int.pow_zero, Int.pow_zero]; omega
      | succ m ih =>
        have p : 0 < G ^ (m + 1) := Int.pow_pos hG
        rw [Int.pow_succ, Int.pow_succ (m := G + 1)]
        generalize G ^ (m + 1) = a at *
        generalize (G + 1) ^ (m + 1) = b at *
        have : a * G < b * G := Int.mul_lt_mul_of_pos_right ih hG
        grind
    exact this n
  have pn : 0 < G ^ (n + 1) := Int.pow_pos hG
  rw [Nat.add_assoc, Int.pow_add (G + 1) j (n + 1), Int.pow_add G j (n + 1)] at h
  generalize G ^ j = x at *
  generalize (G + 1) ^ j = y at *
  generalize G ^ (n + 1) = u at *
  generalize (G + 1) ^ (n + 1) = v at *
  have xy : 0 < x * y := Int.mul_pos p2 q2
  have k1 : (x * y) * (b * v) ≤ (x * y) * (a * u) := by
    have e1 : b * (y * v) * x = (x * y) * (b * v) := by grind
    have e2 : a * (x * u) * y = (x * y) * (a * u) := by grind
    omega
  have k2 := Int.le_of_mul_le_mul_left k1 xy
  have k3 : u * a ≤ u * b := mono2 hle (by omega)
  have k4 : b * u < b * v := Int.mul_lt_mul_of_pos_left r hb
  have e1 : u * a = a * u := Int.mul_comm _ _
  have e2 : u * b = b * u := Int.mul_comm _ _
  omega
theorem GP.scale {G a b n : Int} {i j : Nat} (hn : 0 < n) (h : GP G (n * a) (n * b) i j) : GP G a b i j := by
  unfold GP at *
  refine Int.le_of_mul_le_mul_left (a := n) ?_ hn
  grind
/-- where the ratio is at least another -/
theorem GP.mono {G a b c d : Int} {i j : Nat} (hG : 0 < G) (hb : 0 ≤ b) (hd : 0 < d) (h : GP G c d i j) (hr : c * b ≤ a * d) : GP G a b i j := by
  unfold GP at *
  refine Int.le_of_mul_le_mul_left (a := d) ?_ hd
  have p1 : 0 < G ^ i := Int.pow_pos hG
  have p2 : 0 < G ^ j := Int.pow_pos hG
  have q1 : 0 < (G + 1) ^ i := Int.pow_pos (by omega)
  have q2 : 0 < (G + 1) ^ j := Int.pow_pos (by omega)
  generalize G ^ i = x at *
  generalize G ^ j = y at *
  generalize (G + 1) ^ i = u at *
  generalize (G + 1) ^ j = v at *
  have k1 : b * (d * u * y) ≤ b * (c * x * v) := mono2 h hb
  have k2 : (x * v) * (c * b) ≤ (x * v) * (a * d) := mono2 hr (Int.mul_nonneg (by omega) (by omega))
  grind

end
section
/-! the written form of the logarithm, step by step -/
def a1 : List Int → Int
  | [] => 0
  | _ :: cs => a1 cs + asum cs
def a2 : List Int → Int
  | [] => 0
  | _ :: cs => a2 cs + a1 cs
def dv : List Int → Int → Int → Int
  | [], _, _ => 0
  | _ :: cs, d, K => hv cs d K + d * dv cs d K
theorem hv_diff {d K : Int} (hK : 0 ≤ K) (h0 : -K ≤ d ∧ d ≤ K) (h1 : -K ≤ d + 1 ∧ d + 1 ≤ K) : ∀ cs : List Int, -(a1 cs * K ^ cs.length) ≤ K * K * (hv cs (d + 1) K - hv cs d K) ∧ K * K * (hv cs (d + 1) K - hv cs d K) ≤ a1 cs * K ^ cs.length
  | [] => by simp [hv, a1]
  | c :: cs => by
    have ih := hv_diff hK h0 h1 cs
    have hb := hv_bound hK h1 cs
    have a := absmul h0 ih
    have b := absmul (a := K) (A := K) ⟨by omega, by omega⟩ hb
    show -((a1 cs + asum cs) * K ^ (cs.length + 1)) ≤ K * K * ((c * K ^ cs.length + (d + 1) * hv cs (d + 1) K) - (c * K ^ cs.length + d * hv cs d K)) ∧ K * K * ((c * K ^ cs.length + (d + 1) * hv cs (d + 1) K) - (c * K ^ cs.length + d * hv cs d K)) ≤ (a1 cs + asum cs) * K ^ (cs.length + 1)
    have e1 : K * K * ((c * K ^ cs.length + (d + 1) * hv cs (d + 1) K) - (c * K ^ cs.length + d * hv cs d K)) = d * (K * K * (hv cs (d + 1) K - hv cs d K)) + K * (K * hv cs (d + 1) K) := by grind
    have e2 : (a1 cs + asum cs) * K ^ (cs.length + 1) = K * (a1 cs * K ^ cs.length) + K * (asum cs * K ^ cs.length) := by rw [Int.pow_succ]; grind
    rw [e1, e2]
    generalize d * (K * K * (hv cs (d + 1) K - hv cs d K)) = x at *
    generalize K * (K * hv cs (d + 1) K) = y at *
    omega
theorem hv_rho {d K : Int} (hK : 0 ≤ K) (h0 : -K ≤ d ∧ d ≤ K) (h1 : -K ≤ d + 1 ∧ d + 1 ≤ K) : ∀ cs : List Int, -(a2 cs * K ^ cs.length) ≤ K * K * K * (hv cs (d + 1) K - hv cs d K - dv cs d K) ∧ K * K * K * (hv cs (d + 1) K - hv cs d K - dv cs d K) ≤ a2 cs * K ^ cs.length
  | [] => by simp [hv, a2, dv]
  | c :: cs => by
    have ih := hv_rho hK h0 h1 cs
    have hb := hv_diff hK h0 h1 cs
    have a := absmul h0 ih
    have b := absmul (a := K) (A := K) ⟨by omega, by omega⟩ hb
    show -((a2 cs + a1 cs) * K ^ (cs.length + 1)) ≤ K * K * K * ((c * K ^ cs.length + (d + 1) * hv cs (d + 1) K) - (c * K ^ cs.length + d * hv cs d K) - (hv cs d K + d * dv cs d K)) ∧ K * K * K * ((c * K ^ cs.length + (d + 1) * hv cs (d + 1) K) - (c * K ^ cs.length + d * hv cs d K) - (hv cs d K + d * dv cs d K)) ≤ (a2 cs + a1 cs) * K ^ (cs.length + 1)
    have e1 : K * K * K * ((c * K ^ cs.length + (d + 1) * hv cs (d + 1) K) - (c * K ^ cs.length + d * hv cs d K) - (hv cs d K + d * dv cs d K)) = d * (K * K * K * (hv cs (d + 1) K - hv cs d K - dv cs d K)) + K * (K * K * (hv cs (d + 1) K - hv cs d K)) := by grind
    have e2 : (a2 cs + a1 cs) * K ^ (cs.length + 1) = K * (a2 cs * K ^ cs.length) + K * (a1 cs * K ^ cs.length) := by rw [Int.pow_succ]; grind
    rw [e1, e2]
    generalize d * (K * K * K * (hv cs (d + 1) K - hv cs d K - dv cs d K)) = x at *
    generalize K * (K * K * (hv cs (d + 1) K - hv cs d K)) = y at *
    omega
def dl : List Int → List Int
  | [] => []
  | _ :: cs => List.zipWith (· + ·) cs (0 :: dl cs)
theorem dl_len : ∀ cs : List Int, (dl cs).length = cs.length - 1
  | [] => rfl
  | c :: cs => by
    show (List.zipWith (· + ·) cs (0 :: dl cs)).length = cs.length
    rw [List.length_zipWith, List.length_cons, dl_len cs]
    omega
theorem hv_dl (d K : Int) : ∀ cs : List Int, hv (dl cs) d K = dv cs d K
  | [] => rfl
  | [c] => by show hv [] d K = hv [] d K + d * 0; simp [hv]
  | c :: b :: cs => by
    show hv (List.zipWith (· + ·) (b :: cs) (0 :: dl (b :: cs))) d K = hv (b :: cs) d K + d * dv (b :: cs) d K
    rw [hv_add _ _ _ _ (by rw [List.length_cons, List.length_cons, dl_len]; simp), ← hv_dl d K (b :: cs)]
    show _ + (0 * K ^ _ + d * hv (dl (b :: cs)) d K) = _
    rw [Int.zero_mul, Int.zero_add]
/-- the form of the logarithm -/
def phi (d K : Int) : Int := hv (0 :: clT 25) d K
def plus : List Int := [1, -1, 1, -1, 1, -1, 1, -1, 1, -1, 1, -1, 1, -1, 1, -1, 1, -1, 1, -1, 1, -1, 1, -1, 1]
theorem dl_phi : dl (0 :: clT 25) = plus.map (fun c => Q25 * c) := by decide +kernel
theorem plus_one : List.zipWith (· + ·) (plus ++ [0]) (0 :: plus) = [1] ++ (List.replicate 24 0 ++ [1]) := by decide +kernel
theorem dv_phi (d K : Int) : (K + d) * dv (0 :: clT 25) d K = Q25 * (K ^ 25 + d ^ 25) := by
  rw [← hv_dl, dl_phi, hv_scale]
  have h := congrArg (fun l => hv l d K) plus_one
  rw [hv_add _ _ _ _ (by decide +kernel), hv_append, hv_append, hv_append, hv_zeros] at h
  simp only [List.length_append, List.length_replicate, List.length_singleton, hv, List.length_nil, Int.pow_zero, Int.mul_zero, Int.zero_mul, Int.add_zero, Int.zero_add, Int.mul_one, Int.one_mul] at h
  have e : (24 : Nat) + 1 = 25 := rfl
  rw [e] at h
  have e2 : K ^ 1 = K := by rw [Int.pow_succ, Int.pow_zero, Int.one_mul]
  have e3 : d ^ 1 = d := by rw [Int.pow_succ, Int.pow_zero, Int.one_mul]
  rw [e2, e3] at h
  have e4 : d * d ^ 24 = d ^ 25 := by rw [Int.mul_comm, ← Int.pow_succ]
  rw [e4] at h
  generalize hv plus d K = u at *
  have : (K + d) * (Q25 * u) = Q25 * (u * K + d * u) := by grind
  rw [this, h]
theorem A2_small : 2 * 10 ^ 29 * a2 (0 :: clT 25) ≤ Q25 * 10 ^ 33 := by decide +kernel
/-- one step of the form -/
theorem phi_step {d K : Int} (hK : 10 ^ 33 ≤ K) (h0 : -K ≤ 15 * d ∧ 15 * d ≤ K) (h1 : -K ≤ 15 * (d + 1) ∧ 15 * (d + 1) ≤ K) :
    -(2 * (Q25 * K ^ 25)) ≤ 10 ^ 29 * ((K + d) * (phi (d + 1) K - phi d K) - Q25 * K ^ 25) ∧ 10 ^ 29 * ((K + d) * (phi (d + 1) K - phi d K) - Q25 * K ^ 25) ≤ 2 * (Q25 * K ^ 25) := by
  have k33 : (0 : Int) < 10 ^ 33 := by decide +kernel
  have hK0 : 0 < K := by omega
  have r := hv_rho (d := d) (K := K) (by omega) ⟨by omega, by omega⟩ ⟨by omega, by omega⟩ (0 :: clT 25)
  have hl : (0 :: clT 25 : List Int).length = 26 := by decide +kernel
  rw [hl] at r
  have hd := dv_phi d K
  have sm := A2_small
  have pd := apow (a := 15 * d) (B := K) h0 25
  rw [Int.mul_pow] at pd
  have c15 : (10 : Int) ^ 29 ≤ 15 ^ 25 := by decide +kernel
  have p25 : 0 < K ^ 25 := Int.pow_pos hK0
  have p24 : 0 < K ^ 24 := Int.pow_pos hK0
  -- the power of d
  have hp : -(K ^ 25) ≤ 10 ^ 29 * d ^ 25 ∧ 10 ^ 29 * d ^ 25 ≤ K ^ 25 := by
    generalize hx : d ^ 25 = x at *
    rcases Int.le_total 0 x with c | c
    · have : x * 10 ^ 29 ≤ x * 15 ^ 25 := mono2 c15 c
      have e1 : x * 10 ^ 29 = 10 ^ 29 * x := Int.mul_comm _ _
      have e2 : x * 15 ^ 25 = 15 ^ 25 * x := Int.mul_comm _ _
      have : 0 ≤ 10 ^ 29 * x := Int.mul_nonneg (by decide +kernel) c
      omega
    · have : (-x) * 10 ^ 29 ≤ (-x) * 15 ^ 25 := mono2 c15 (by omega)
      have e1 : (-x) * 10 ^ 29 = -(10 ^ 29 * x) := by grind
      have e2 : (-x) * 15 ^ 25 = -(15 ^ 25 * x) := by grind
      have : 10 ^ 29 * x ≤ 0 := Int.mul_nonpos_of_nonneg_of_nonpos (by decide +kernel) c
      omega
  -- the rest
  unfold phi
  generalize hv (0 :: clT 25) (d + 1) K - hv (0 :: clT 25) d K = D at *
  generalize dv (0 :: clT 25) d K = v at *
  generalize a2 (0 :: clT 25) = A at *
  have e26 : K ^ 26 = K * K * (K ^ 24) := by
    have : K ^ 26 = K ^ 24 * K ^ 2 := by rw [← Int.pow_add]
    have e2 : K ^ 2 = K * K := by rw [Int.pow_succ, Int.pow_succ, Int.pow_zero, Int.one_mul]
    rw [this, e2]; grind
  rw [e26] at r
  have KK : 0 < K * K := Int.mul_pos hK0 hK0
  have r1 : -(A * K ^ 24) ≤ K * (D - v) ∧ K * (D - v) ≤ A * K ^ 24 := by
    have e1 : A * (K * K * K ^ 24) = (K * K) * (A * K ^ 24) := by grind
    have e2 : K * K * K * (D - v) = (K * K) * (K * (D - v)) := by grind
    rw [e1, e2] at r
    constructor
    · refine Int.le_of_mul_le_mul_left (a := K * K) ?_ KK
      have : (K * K) * -(A * K ^ 24) = -((K * K) * (A * K ^ 24)) := by grind
      omega
    · exact Int.le_of_mul_le_mul_left r.2 KK
  have hA0 : 0 ≤ A * K ^ 24 := by omega
  have r2 : -(2 * (A * K ^ 24)) ≤ (K + d) * (D - v) ∧ (K + d) * (D - v) ≤ 2 * (A * K ^ 24) := by
    rcases Int.le_total 0 (D - v) with c | c
    · have : (D - v) * (K + d) ≤ (D - v) * (2 * K) := mono2 (by omega) c
      have t : 0 ≤ (K + d) * (D - v) := Int.mul_nonneg (by omega) c
      have e1 : (D - v) * (K + d) = (K + d) * (D - v) := Int.mul_comm _ _
      have e2 : (D - v) * (2 * K) = 2 * (K * (D - v)) := by grind
      omega
    · have : (-(D - v)) * (K + d) ≤ (-(D - v)) * (2 * K) := mono2 (by omega) (by omega)
      have t : (K + d) * (D - v) ≤ 0 := Int.mul_nonpos_of_nonneg_of_nonpos (by omega) c
      have e1 : (-(D - v)) * (K + d) = -((K + d) * (D - v)) := by grind
      have e2 : (-(D - v)) * (2 * K) = -(2 * (K * (D - v))) := by grind
      omega
  have s1 : K ^ 24 * (2 * 10 ^ 29 * A) ≤ K ^ 24 * (Q25 * 10 ^ 33) := mono2 sm (by omega)
  have s2 : (Q25 * K ^ 24) * 10 ^ 33 ≤ (Q25 * K ^ 24) * K := mono2 hK (Int.mul_nonneg (by decide) (by omega))
  have e25 : K ^ 25 = K ^ 24 * K := Int.pow_succ ..
  have ex : 10 ^ 29 * ((K + d) * D - Q25 * K ^ 25) = 10 ^ 29 * ((K + d) * (D - v)) + Q25 * (10 ^ 29 * d ^ 25) := by
    have : (K + d) * (D - v) = (K + d) * D - (K + d) * v := by grind
    rw [this, hd]; grind
  rw [ex]
  have m1 : Q25 * (10 ^ 29 * d ^ 25) ≤ Q25 * K ^ 25 := mono2 hp.2 (by decide)
  have m2 : Q25 * (-(K ^ 25)) ≤ Q25 * (10 ^ 29 * d ^ 25) := mono2 hp.1 (by decide)
  have m3 : (10 : Int) ^ 29 * ((K + d) * (D - v)) ≤ 10 ^ 29 * (2 * (A * K ^ 24)) := mono2 r2.2 (by decide +kernel)
  have m4 : (10 : Int) ^ 29 * (-(2 * (A * K ^ 24))) ≤ 10 ^ 29 * ((K + d) * (D - v)) := mono2 r2.1 (by decide +kernel)
  have f1 : K ^ 24 * (2 * 10 ^ 29 * A) = 10 ^ 29 * (2 * (A * K ^ 24)) := by grind
  have f2 : K ^ 24 * (Q25 * 10 ^ 33) = (Q25 * K ^ 24) * 10 ^ 33 := by grind
  have f3 : (Q25 * K ^ 24) * K = Q25 * K ^ 25 := by rw [e25]; grind
  have f4 : Q25 * (-(K ^ 25)) = -(Q25 * K ^ 25) := by grind
  have f5 : (10 : Int) ^ 29 * (-(2 * (A * K ^ 24))) = -(10 ^ 29 * (2 * (A * K ^ 24))) := by grind
  rw [f4] at m2
  rw [f5] at m4
  generalize Q25 * K ^ 25 = z at *
  generalize (10 : Int) ^ 29 * (2 * (A * K ^ 24)) = y at *
  generalize (10 : Int) ^ 29 * ((K + d) * (D - v)) = x at *
  generalize Q25 * (10 ^ 29 * d ^ 25) = w at *
  omega
/-- from d on m steps up: from below -/
theorem range_lo {G K : Int} (hG : 10 ^ 31 * K ≤ G) (hK : 10 ^ 33 ≤ K) : ∀ (m : Nat) (d : Int), (-K ≤ 15 * d ∧ 15 * d ≤ K) → (15 * (d + m) ≤ K) → ∃ J : Nat, GP G (K + (d + m)) (K + d) J 0 ∧ 10 ^ 29 * K * (G * (phi (d + m) K - phi d K) - J * (Q25 * K ^ 25)) ≤ 10 * m * (G * (Q25 * K ^ 25))
  | 0, d, _, _ => ⟨0, by rw [show d + ((0 : Nat) : Int) = d by omega]; exact GP.one, by simp⟩
  | m + 1, d, h0, h1 => by
    have em : ((m + 1 : Nat) : Int) = m + 1 := by omega
    rw [em] at h1
    obtain ⟨J, hJ, hb⟩ := range_lo hG hK m d h0 (by omega)
    have k33 : (0 : Int) < 10 ^ 33 := by decide +kernel
    have hK0 : 0 < K := by omega
    have hG0 : 0 < G := by
      have : 0 < 10 ^ 31 * K := Int.mul_pos (by decide +kernel) hK0
      omega
    have st := phi_step (d := d + m) hK ⟨by omega, by omega⟩ ⟨by omega, by omega⟩
    have hN : 14 * K ≤ 15 * (K + (d + m)) := by omega
    have hN2 : 15 * (K + (d + m)) ≤ 16 * K := by omega
    have dm : d + (m : Int) + 1 = d + ((m : Int) + 1) := by omega
    have hKm : K + (d + ((m : Int) + 1)) = (K + (d + m)) + 1 := by omega
    rw [em]
    rw [dm] at st
    have f := Int.mul_ediv_add_emod (G + 1) (K + (d + m) + 1)
    have f1 := Int.emod_nonneg (G + 1) (b := K + (d + m) + 1) (by omega)
    have f2 := Int.emod_lt_of_pos (G + 1) (b := K + (d + m) + 1) (by omega)
    have t0 : 0 ≤ (G + 1) / (K + (d + m) + 1) := Int.ediv_nonneg (by omega) (by omega)
    generalize (G + 1) % (K + (d + m) + 1) = r at *
    obtain ⟨t, ht⟩ := Int.eq_ofNat_of_zero_le t0
    rw [ht] at f
    refine ⟨J + t, ?_, ?_⟩
    · rw [hKm]
      have g := GP.large (G := G) (a := K + (d + m)) (b := 1) (j := t) hG0 (by omega) (by
        rw [Int.mul_one]
        have : (t : Int) * (K + (d + m) + 1) = (K + (d + m) + 1) * t := Int.mul_comm _ _
        omega)
      have g2 := GP.mul hG0 (by omega) (by omega) g hJ
      refine GP.mono hG0 (by omega) (d := (K + (d + m)) * (K + d)) (c := (K + (d + m) + 1) * (K + (d + m))) (Int.mul_pos (by omega) (by omega)) ?_ ?_
      · rw [Nat.add_comm J t]; exact g2
      · have : (K + (d + m) + 1) * (K + (d + m)) * (K + d) = (K + (d + m) + 1) * ((K + (d + m)) * (K + d)) := by grind
        omega
    · have pW : 0 < Q25 * K ^ 25 := Int.mul_pos (by decide) (Int.pow_pos hK0)
      generalize Q25 * K ^ 25 = W at *
      have eJ : ((J + t : Nat) : Int) = J + t := by omega
      rw [eJ]
      generalize phi (d + ((m : Int) + 1)) K = p2 at *
      generalize phi (d + (m : Int)) K = p1 at *
      generalize phi d K = p0 at *
      generalize hNN : K + (d + (m : Int)) = N at *
      -- one step
      suffices hs : 10 ^ 29 * K * (G * (p2 - p1) - t * W) ≤ 10 * (G * W) by
        have e1 : 10 ^ 29 * K * (G * (p2 - p0) - (↑J + ↑t) * W) = 10 ^ 29 * K * (G * (p1 - p0) - ↑J * W) + 10 ^ 29 * K * (G * (p2 - p1) - t * W) := by grind
        have e2 : 10 * ((m : Int) + 1) * (G * W) = 10 * m * (G * W) + 10 * (G * W) := by grind
        omega
      refine Int.le_of_mul_le_mul_left (a := N) ?_ (by omega)
      -- N (G D - t W) <= (t + N) W + 2e-29 G W
      have a1 : G * (10 ^ 29 * (N * (p2 - p1) - W)) ≤ G * (2 * W) := mono2 st.2 (by omega)
      have a2 : W * G ≤ W * (N * t + t + N) := mono2 (by
        have : (N + 1) * (t : Int) = N * t + t := by grind
        omega) (by omega)
      have hc : (10 : Int) ^ 29 * (N * (G * (p2 - p1) - t * W)) ≤ 2 * (G * W) + 10 ^ 29 * (t * W) + 10 ^ 29 * (N * W) := by
        have e1 : G * (10 ^ 29 * (N * (p2 - p1) - W)) = 10 ^ 29 * (N * (G * (p2 - p1))) - 10 ^ 29 * (G * W) := by grind
        have e2 : W * (N * t + t + N) = N * t * W + t * W + N * W := by grind
        have e3 : N * (G * (p2 - p1) - t * W) = N * (G * (p2 - p1)) - N * t * W := by grind
        have e4 : W * G = G * W := Int.mul_comm _ _
        rw [e1] at a1
        rw [e4, e2] at a2
        rw [e3]
        have a3 : (10 : Int) ^ 29 * (G * W) ≤ 10 ^ 29 * (N * t * W + t * W + N * W) := mono2 a2 (by decide +kernel)
        have e5 : (10 : Int) ^ 29 * (N * t * W + t * W + N * W) = 10 ^ 29 * (N * t * W) + 10 ^ 29 * (t * W) + 10 ^ 29 * (N * W) := by grind
        have e6 : (10 : Int) ^ 29 * (N * (G * (p2 - p1)) - N * t * W) = 10 ^ 29 * (N * (G * (p2 - p1))) - 10 ^ 29 * (N * t * W) := by grind
        have e7 : G * (2 * W) = 2 * (G * W) := by grind
        rw [e5] at a3
        rw [e6]
        rw [e7] at a1
        omega
      have GW : 0 < G * W := Int.mul_pos hG0 pW
      have b0 : K * (10 ^ 29 * (N * (G * (p2 - p1) - t * W))) ≤ K * (2 * (G * W) + 10 ^ 29 * (t * W) + 10 ^ 29 * (N * W)) := mono2 hc (by omega)
      have b1 : (G * W) * (2 * K) ≤ (G * W) * (3 * N) := mono2 (by omega) (by omega)
      have b2 : (t : Int) * K ≤ 2 * G := by
        have c1 : (t : Int) * (14 * K) ≤ t * (15 * N) := mono2 hN (by omega)
        have c2 : (t : Int) * (14 * K) = 14 * (t * K) := by grind
        have c3 : (t : Int) * (15 * N) = 15 * (N * t) := by grind
        have c4 : (N + 1) * (t : Int) = N * t + t := by grind
        omega
      have b3 : (10 ^ 29 * W) * (t * K) ≤ (10 ^ 29 * W) * (2 * G) := mono2 b2 (Int.mul_nonneg (by decide +kernel) (by omega))
      have b4 : (G * W) * (2 * 10 ^ 29) ≤ (G * W) * N := mono2 (by
        have : (10 : Int) ^ 33 = 10000 * 10 ^ 29 := by decide +kernel
        generalize (10 : Int) ^ 29 = z at *
        omega) (by omega)
      have b5 : (N * W) * (10 ^ 29 * K) ≤ (N * W) * G := mono2 (by
        have : (10 : Int) ^ 31 * K = 100 * (10 ^ 29 * K) := by grind
        have : 0 ≤ 10 ^ 29 * K := Int.mul_nonneg (by decide +kernel) (by omega)
        omega) (Int.mul_nonneg (by omega) (by omega))
      have g0 : N * (10 ^ 29 * K * (G * (p2 - p1) - t * W)) = K * (10 ^ 29 * (N * (G * (p2 - p1) - t * W))) := by grind
      have g1 : K * (2 * (G * W) + 10 ^ 29 * (t * W) + 10 ^ 29 * (N * W)) = (G * W) * (2 * K) + (10 ^ 29 * W) * (t * K) + (N * W) * (10 ^ 29 * K) := by grind
      have g2 : (10 ^ 29 * W) * (2 * G) = (G * W) * (2 * 10 ^ 29) := by grind
      have g3 : (N * W) * G = (G * W) * N := by grind
      have g4 : (G * W) * (3 * N) = 3 * ((G * W) * N) := by grind
      have g5 : N * (10 * (G * W)) = 10 * ((G * W) * N) := by grind
      have pos : 0 ≤ (G * W) * N := Int.mul_nonneg (by omega) (by omega)
      rw [g0, g5]
      omega
/-- and from above -/
theorem range_hi {G K : Int} (hG : 10 ^ 31 * K ≤ G) (hK : 10 ^ 33 ≤ K) : ∀ (m : Nat) (d : Int), (-K ≤ 15 * d ∧ 15 * d ≤ K) → (15 * (d + m) ≤ K) → ∃ J : Nat, GP G (K + d) (K + (d + m)) 0 J ∧ 10 ^ 29 * K * (J * (Q25 * K ^ 25) - G * (phi (d + m) K - phi d K)) ≤ 10 * m * (G * (Q25 * K ^ 25))
  | 0, d, _, _ => ⟨0, by rw [show d + ((0 : Nat) : Int) = d by omega]; exact GP.one, by simp⟩
  | m + 1, d, h0, h1 => by
    have em : ((m + 1 : Nat) : Int) = m + 1 := by omega
    rw [em] at h1
    obtain ⟨J, hJ, hb⟩ := range_hi hG hK m d h0 (by omega)
    have k33 : (0 : Int) < 10 ^ 33 := by decide +kernel
    have hK0 : 0 < K := by omega
    have hG0 : 0 < G := by
      have : 0 < 10 ^ 31 * K := Int.mul_pos (by decide +kernel) hK0
      omega
    have st := phi_step (d := d + m) hK ⟨by omega, by omega⟩ ⟨by omega, by omega⟩
    have hN : 14 * K ≤ 15 * (K + (d + m)) := by omega
    have dm : d + (m : Int) + 1 = d + ((m : Int) + 1) := by omega
    have hKm : K + (d + ((m : Int) + 1)) = (K + (d + m)) + 1 := by omega
    rw [em]
    rw [dm] at st
    have f := Int.mul_ediv_add_emod G (K + (d + m))
    have f1 := Int.emod_nonneg G (b := K + (d + m)) (by omega)
    have f2 := Int.emod_lt_of_pos G (b := K + (d + m)) (by omega)
    have t0 : 0 ≤ G / (K + (d + m)) + 1 := by have := Int.ediv_nonneg (a := G) (b := K + (d + m)) (by omega) (by omega); omega
    generalize G % (K + (d + m)) = r at *
    obtain ⟨t, ht⟩ := Int.eq_ofNat_of_zero_le t0
    have ht' : G / (K + (d + m)) = t - 1 := by omega
    rw [ht'] at f
    have ft : (K + (d + m)) * ((t : Int) - 1) = (K + (d + m)) * t - (K + (d + m)) := by grind
    rw [ft] at f
    refine ⟨J + t, ?_, ?_⟩
    · rw [hKm]
      have g := GP.small (G := G) (a := K + (d + m)) (b := 1) (j := t) hG0 (by omega) (by
        rw [Int.mul_one]
        have : (t : Int) * (K + (d + m)) = (K + (d + m)) * t := Int.mul_comm _ _
        omega)
      have g2 := GP.mul hG0 (by omega) (by omega) hJ g
      refine GP.mono hG0 (by omega) (d := (K + (d + m)) * (K + (d + m) + 1)) (c := (K + d) * (K + (d + m))) (Int.mul_pos (by omega) (by omega)) g2 ?_
      have : (K + d) * (K + (d + m)) * (K + (d + m) + 1) = (K + d) * ((K + (d + m)) * (K + (d + m) + 1)) := by grind
      omega
    · have pW : 0 < Q25 * K ^ 25 := Int.mul_pos (by decide) (Int.pow_pos hK0)
      generalize Q25 * K ^ 25 = W at *
      have eJ : ((J + t : Nat) : Int) = J + t := by omega
      rw [eJ]
      generalize phi (d + ((m : Int) + 1)) K = p2 at *
      generalize phi (d + (m : Int)) K = p1 at *
      generalize phi d K = p0 at *
      generalize hNN : K + (d + (m : Int)) = N at *
      suffices hs : 10 ^ 29 * K * (t * W - G * (p2 - p1)) ≤ 10 * (G * W) by
        have e1 : 10 ^ 29 * K * ((↑J + ↑t) * W - G * (p2 - p0)) = 10 ^ 29 * K * (↑J * W - G * (p1 - p0)) + 10 ^ 29 * K * (t * W - G * (p2 - p1)) := by grind
        have e2 : 10 * ((m : Int) + 1) * (G * W) = 10 * m * (G * W) + 10 * (G * W) := by grind
        omega
      refine Int.le_of_mul_le_mul_left (a := N) ?_ (by omega)
      have a1 : G * (-(2 * W)) ≤ G * (10 ^ 29 * (N * (p2 - p1) - W)) := mono2 st.1 (by omega)
      have a2 : W * (N * t) ≤ W * (G + N) := mono2 (by omega) (by omega)
      have hc : (10 : Int) ^ 29 * (N * (t * W - G * (p2 - p1))) ≤ 2 * (G * W) + 10 ^ 29 * (N * W) := by
        have e1 : G * (10 ^ 29 * (N * (p2 - p1) - W)) = 10 ^ 29 * (N * (G * (p2 - p1))) - 10 ^ 29 * (G * W) := by grind
        have e2 : W * (G + N) = G * W + N * W := by grind
        have e3 : N * (t * W - G * (p2 - p1)) = N * t * W - N * (G * (p2 - p1)) := by grind
        have e4 : W * (N * t) = N * t * W := by grind
        rw [e1] at a1
        rw [e4, e2] at a2
        rw [e3]
        have a3 : (10 : Int) ^ 29 * (N * t * W) ≤ 10 ^ 29 * (G * W + N * W) := mono2 a2 (by decide +kernel)
        have e5 : (10 : Int) ^ 29 * (G * W + N * W) = 10 ^ 29 * (G * W) + 10 ^ 29 * (N * W) := by grind
        have e6 : (10 : Int) ^ 29 * (N * t * W - N * (G * (p2 - p1))) = 10 ^ 29 * (N * t * W) - 10 ^ 29 * (N * (G * (p2 - p1))) := by grind
        have e7 : G * (-(2 * W)) = -(2 * (G * W)) := by grind
        rw [e5] at a3
        rw [e6]
        rw [e7] at a1
        omega
      have GW : 0 < G * W := Int.mul_pos hG0 pW
      have b0 : K * (10 ^ 29 * (N * (t * W - G * (p2 - p1)))) ≤ K * (2 * (G * W) + 10 ^ 29 * (N * W)) := mono2 hc (by omega)
      have b1 : (G * W) * (2 * K) ≤ (G * W) * (3 * N) := mono2 (by omega) (by omega)
      have b5 : (N * W) * (10 ^ 29 * K) ≤ (N * W) * G := mono2 (by
        have : (10 : Int) ^ 31 * K = 100 * (10 ^ 29 * K) := by grind
        have : 0 ≤ 10 ^ 29 * K := Int.mul_nonneg (by decide +kernel) (by omega)
        omega) (Int.mul_nonneg (by omega) (by omega))
      have g0 : N * (10 ^ 29 * K * (t * W - G * (p2 - p1))) = K * (10 ^ 29 * (N * (t * W - G * (p2 - p1)))) := by grind
      have g1 : K * (2 * (G * W) + 10 ^ 29 * (N * W)) = (G * W) * (2 * K) + (N * W) * (10 ^ 29 * K) := by grind
      have g3 : (N * W) * G = (G * W) * N := by grind
      have g4 : (G * W) * (3 * N) = 3 * ((G * W) * N) := by grind
      have g5 : N * (10 * (G * W)) = 10 * ((G * W) * N) := by grind
      have pos : 0 ≤ (G * W) * N := Int.mul_nonneg (by omega) (by omega)
      rw [g0, g5]
      omega
theorem phi_zero (K : Int) : phi 0 K = 0 := by
  unfold phi
  show 0 * K ^ _ + 0 * _ = 0
  simp
theorem fin_err {K G W m e : Int} (hK : 0 < K) (hG : 0 < G) (hW : 0 < W) (hm : 15 * m ≤ K) (h : 10 ^ 29 * K * e ≤ 10 * m * (G * W)) : 10 ^ 29 * e ≤ G * W := by
  refine Int.le_of_mul_le_mul_left (a := K) ?_ hK
  have GW : 0 < G * W := Int.mul_pos hG hW
  have k : (G * W) * (15 * m) ≤ (G * W) * K := mono2 hm (by omega)
  have e1 : K * (10 ^ 29 * e) = 10 ^ 29 * K * e := by grind
  have e2 : 10 * m * (G * W) = 10 * ((G * W) * m) := by grind
  have e3 : (G * W) * (15 * m) = 15 * ((G * W) * m) := by grind
  have e4 : K * (G * W) = (G * W) * K := Int.mul_comm _ _
  have pK : 0 < (G * W) * K := Int.mul_pos GW hK
  omega
/-- the logarithm of (K + d) / K, from below -/
theorem ln_lo {G K d : Int} (hG : 10 ^ 31 * K ≤ G) (hK : 10 ^ 33 ≤ K) (h : -K ≤ 15 * d ∧ 15 * d ≤ K) : ∃ i j : Nat, GP G (K + d) K i j ∧ 10 ^ 29 * (G * phi d K - ((i : Int) - j) * (Q25 * K ^ 25)) ≤ G * (Q25 * K ^ 25) := by
  have k33 : (0 : Int) < 10 ^ 33 := by decide +kernel
  have hK0 : 0 < K := by omega
  have hG0 : 0 < G := by
    have : 0 < 10 ^ 31 * K := Int.mul_pos (by decide +kernel) hK0
    omega
  have pW : 0 < Q25 * K ^ 25 := Int.mul_pos (by decide) (Int.pow_pos hK0)
  rcases Int.le_total 0 d with c | c
  · obtain ⟨m, rfl⟩ := Int.eq_ofNat_of_zero_le c
    obtain ⟨J, g, hb⟩ := range_lo hG hK m 0 ⟨by omega, by omega⟩ (by omega)
    rw [phi_zero, Int.zero_add, Int.add_zero, Int.sub_zero] at *
    refine ⟨J, 0, g, ?_⟩
    have e : ((J : Int) - (0 : Nat)) = J := by omega
    rw [e]
    exact fin_err hK0 hG0 pW (by omega) hb
  · obtain ⟨m, hm⟩ := Int.eq_ofNat_of_zero_le (by omega : 0 ≤ -d)
    obtain ⟨J, g, hb⟩ := range_hi hG hK m d h (by omega)
    have ed : d + (m : Int) = 0 := by omega
    rw [ed, phi_zero] at hb
    rw [ed, Int.add_zero] at g
    refine ⟨0, J, g, ?_⟩
    have e : G * phi d K - (((0 : Nat) : Int) - J) * (Q25 * K ^ 25) = J * (Q25 * K ^ 25) - G * (0 - phi d K) := by
      have : ((0 : Nat) : Int) = 0 := rfl
      rw [this]; grind
    rw [e]
    exact fin_err hK0 hG0 pW (by omega) hb
/-- and from above -/
theorem ln_hi {G K d : Int} (hG : 10 ^ 31 * K ≤ G) (hK : 10 ^ 33 ≤ K) (h : -K ≤ 15 * d ∧ 15 * d ≤ K) : ∃ i j : Nat, GP G K (K + d) i j ∧ 10 ^ 29 * (-(G * phi d K) - ((i : Int) - j) * (Q25 * K ^ 25)) ≤ G * (Q25 * K ^ 25) := by
  have k33 : (0 : Int) < 10 ^ 33 := by decide +kernel
  have hK0 : 0 < K := by omega
  have hG0 : 0 < G := by
    have : 0 < 10 ^ 31 * K := Int.mul_pos (by decide +kernel) hK0
    omega
  have pW : 0 < Q25 * K ^ 25 := Int.mul_pos (by decide) (Int.pow_pos hK0)
  rcases Int.le_total 0 d with c | c
  · obtain ⟨m, rfl⟩ := Int.eq_ofNat_of_zero_le c
    obtain ⟨J, g, hb⟩ := range_hi hG hK m 0 ⟨by omega, by omega⟩ (by omega)
    rw [phi_zero, Int.zero_add, Int.add_zero, Int.sub_zero] at *
    refine ⟨0, J, g, ?_⟩
    have e : -(G * phi (m : Int) K) - (((0 : Nat) : Int) - J) * (Q25 * K ^ 25) = J * (Q25 * K ^ 25) - G * phi (m : Int) K := by
      have : ((0 : Nat) : Int) = 0 := rfl
      rw [this]; grind
    rw [e]
    exact fin_err hK0 hG0 pW (by omega) hb
  · obtain ⟨m, hm⟩ := Int.eq_ofNat_of_zero_le (by omega : 0 ≤ -d)
    obtain ⟨J, g, hb⟩ := range_lo hG hK m d h (by omega)
    have ed : d + (m : Int) = 0 := by omega
    rw [ed, phi_zero] at hb
    rw [ed, Int.add_zero] at g
    refine ⟨J, 0, g, ?_⟩
    have e : -(G * phi d K) - ((J : Int) - (0 : Nat)) * (Q25 * K ^ 25) = G * (0 - phi d K) - J * (Q25 * K ^ 25) := by
      have : ((0 : Nat) : Int) = 0 := rfl
      rw [this]; grind
    rw [e]
    exact fin_err hK0 hG0 pW (by omega) hb

end
section
theorem hv_hom (n d K : Int) : ∀ cs : List Int, n * hv cs (n * d) (n * K) = n ^ cs.length * hv cs d K
  | [] => by simp [hv]
  | c :: cs => by
    have ih := hv_hom n d K cs
    show n * (c * (n * K) ^ cs.length + n * d * hv cs (n * d) (n * K)) = n ^ (cs.length + 1) * (c * K ^ cs.length + d * hv cs d K)
    rw [Int.mul_pow, Int.pow_succ]
    have e : n * (c * (n ^ cs.length * K ^ cs.length) + n * d * hv cs (n * d) (n * K)) = n * c * (n ^ cs.length * K ^ cs.length) + n * d * (n * hv cs (n * d) (n * K)) := by grind
    rw [e, ih]
    grind
theorem phi_hom {n : Int} (hn : 0 < n) (d K : Int) : phi (n * d) (n * K) = n ^ 25 * phi d K := by
  have h := hv_hom n d K (0 :: clT 25)
  have hl : (0 :: clT 25 : List Int).length = 26 := by decide +kernel
  rw [hl, Int.pow_succ] at h
  unfold phi
  refine Int.eq_of_mul_eq_mul_left (a := n) (by omega) ?_
  rw [h]; grind
abbrev nn : Int := 1000000000000000000000000000000000
/-- any K -/
theorem ln_low {G K d : Int} (hK : 0 < K) (hG : 10 ^ 31 * (nn * K) ≤ G) (h : -K ≤ 15 * d ∧ 15 * d ≤ K) : ∃ i j : Nat, GP G (K + d) K i j ∧ 10 ^ 29 * (G * phi d K - ((i : Int) - j) * (Q25 * K ^ 25)) ≤ G * (Q25 * K ^ 25) := by
  have hn : (0 : Int) < nn := by decide
  have k1 : nn * 1 ≤ nn * K := mono2 (by omega) (by omega)
  obtain ⟨i, j, g, hb⟩ := ln_lo (G := G) (K := nn * K) (d := nn * d) hG (by
    have : (10 : Int) ^ 33 = nn * 1 := by decide +kernel
    omega) (by
    have e : 15 * (nn * d) = nn * (15 * d) := by grind
    have a : nn * (-K) ≤ nn * (15 * d) := mono2 h.1 (by omega)
    have b : nn * (15 * d) ≤ nn * K := mono2 h.2 (by omega)
    have e2 : nn * (-K) = -(nn * K) := by grind
    omega)
  refine ⟨i, j, GP.scale (n := nn) hn ?_, ?_⟩
  · have e : nn * K + nn * d = nn * (K + d) := by grind
    rw [e] at g; exact g
  · rw [phi_hom hn, Int.mul_pow] at hb
    have hp25 : 0 < nn ^ 25 := Int.pow_pos hn
    generalize nn ^ 25 = p at *
    refine Int.le_of_mul_le_mul_left (a := p) ?_ (by omega)
    generalize K ^ 25 = k at *
    generalize Q25 = q at *
    have e1 : p * (10 ^ 29 * (G * phi d K - ((i : Int) - j) * (q * k))) = 10 ^ 29 * (G * (p * phi d K) - ((i : Int) - j) * (q * (p * k))) := by grind
    have e2 : p * (G * (q * k)) = G * (q * (p * k)) := by grind
    omega
theorem ln_high {G K d : Int} (hK : 0 < K) (hG : 10 ^ 31 * (nn * K) ≤ G) (h : -K ≤ 15 * d ∧ 15 * d ≤ K) : ∃ i j : Nat, GP G K (K + d) i j ∧ 10 ^ 29 * (-(G * phi d K) - ((i : Int) - j) * (Q25 * K ^ 25)) ≤ G * (Q25 * K ^ 25) := by
  have hn : (0 : Int) < nn := by decide
  have k1 : nn * 1 ≤ nn * K := mono2 (by omega) (by omega)
  obtain ⟨i, j, g, hb⟩ := ln_hi (G := G) (K := nn * K) (d := nn * d) hG (by
    have : (10 : Int) ^ 33 = nn * 1 := by decide +kernel
    omega) (by
    have e : 15 * (nn * d) = nn * (15 * d) := by grind
    have a : nn * (-K) ≤ nn * (15 * d) := mono2 h.1 (by omega)
    have b : nn * (15 * d) ≤ nn * K := mono2 h.2 (by omega)
    have e2 : nn * (-K) = -(nn * K) := by grind
    omega)
  refine ⟨i, j, GP.scale (n := nn) hn ?_, ?_⟩
  · have e : nn * K + nn * d = nn * (K + d) := by grind
    rw [e] at g; exact g
  · rw [phi_hom hn, Int.mul_pow] at hb
    have hp25 : 0 < nn ^ 25 := Int.pow_pos hn
    generalize nn ^ 25 = p at *
    refine Int.le_of_mul_le_mul_left (a := p) ?_ (by omega)
    generalize K ^ 25 = k at *
    generalize Q25 = q at *
    have e1 : p * (10 ^ 29 * (-(G * phi d K) - ((i : Int) - j) * (q * k))) = 10 ^ 29 * (-(G * (p * phi d K)) - ((i : Int) - j) * (q * (p * k))) := by grind
    have e2 : p * (G * (q * k)) = G * (q * (p * k)) := by grind
    omega
/-- the logarithm of ten -/
abbrev L46 : Int := 23025850929940456840179914546843642076011014886
def den (a : Int) : Int := 10 ^ 29 * (Q25 * a ^ 25)
theorem den_pos {a : Int} (h : 0 < a) : 0 < den a := Int.mul_pos (by decide +kernel) (Int.mul_pos (by decide) (Int.pow_pos h))
theorem ten_num_lo : (L46 - 10 ^ 20) * (den 15 * den 24 * den 80) ≤ 10 ^ 46 * (23 * (10 ^ 29 * phi 1 15 - Q25 * 15 ^ 25) * (den 24 * den 80) + 17 * (10 ^ 29 * phi 1 24 - Q25 * 24 ^ 25) * (den 15 * den 80) + 10 * (10 ^ 29 * phi 1 80 - Q25 * 80 ^ 25) * (den 15 * den 24)) := by decide +kernel
theorem ten_num_hi : 10 ^ 46 * (23 * (10 ^ 29 * phi 1 15 + Q25 * 15 ^ 25) * (den 24 * den 80) + 17 * (10 ^ 29 * phi 1 24 + Q25 * 24 ^ 25) * (den 15 * den 80) + 10 * (10 ^ 29 * phi 1 80 + Q25 * 80 ^ 25) * (den 15 * den 24)) ≤ (L46 + 10 ^ 20) * (den 15 * den 24 * den 80) := by decide +kernel
theorem three {G x y z A B C a b c N v : Int} (hG : 0 ≤ G) (hA : 0 < A) (hB : 0 < B) (hC : 0 < C) (hN : 0 ≤ N) (h1 : G * a ≤ x * A) (h2 : G * b ≤ y * B) (h3 : G * c ≤ z * C) (hn : v * (A * B * C) ≤ N * (23 * a * (B * C) + 17 * b * (A * C) + 10 * c * (A * B))) : G * v ≤ N * (23 * x + 17 * y + 10 * z) := by
  refine Int.le_of_mul_le_mul_left (a := A * B * C) ?_ (Int.mul_pos (Int.mul_pos hA hB) hC)
  have k0 : G * (v * (A * B * C)) ≤ G * (N * (23 * a * (B * C) + 17 * b * (A * C) + 10 * c * (A * B))) := mono2 hn hG
  have BC := Int.mul_pos hB hC
  have AC := Int.mul_pos hA hC
  have AB := Int.mul_pos hA hB
  have k1 : (N * 23 * (B * C)) * (G * a) ≤ (N * 23 * (B * C)) * (x * A) := mono2 h1 (Int.mul_nonneg (by omega) (by omega))
  have k2 : (N * 17 * (A * C)) * (G * b) ≤ (N * 17 * (A * C)) * (y * B) := mono2 h2 (Int.mul_nonneg (by omega) (by omega))
  have k3 : (N * 10 * (A * B)) * (G * c) ≤ (N * 10 * (A * B)) * (z * C) := mono2 h3 (Int.mul_nonneg (by omega) (by omega))
  have e0 : A * B * C * (G * v) = G * (v * (A * B * C)) := by grind
  have e1 : G * (N * (23 * a * (B * C) + 17 * b * (A * C) + 10 * c * (A * B))) = (N * 23 * (B * C)) * (G * a) + (N * 17 * (A * C)) * (G * b) + (N * 10 * (A * B)) * (G * c) := by grind
  have e2 : A * B * C * (N * (23 * x + 17 * y + 10 * z)) = (N * 23 * (B * C)) * (x * A) + (N * 17 * (A * C)) * (y * B) + (N * 10 * (A * B)) * (z * C) := by grind
  rw [e0, e2]
  omega
theorem ten_lo {G : Int} (hG : 10 ^ 31 * (nn * 80) ≤ G) : ∃ i j : Nat, GP G 10 1 i j ∧ G * (L46 - 10 ^ 20) ≤ 10 ^ 46 * ((i : Int) - j) := by
  have hG0 : 0 < G := by
    have : (0 : Int) < 10 ^ 31 * (nn * 80) := by decide +kernel
    omega
  have g15 : (10 : Int) ^ 31 * (nn * 15) ≤ 10 ^ 31 * (nn * 80) := by decide +kernel
  have g24 : (10 : Int) ^ 31 * (nn * 24) ≤ 10 ^ 31 * (nn * 80) := by decide +kernel
  obtain ⟨i1, j1, G1, b1⟩ := ln_low (G := G) (K := 15) (d := 1) (by decide) (by omega) (by decide)
  obtain ⟨i2, j2, G2, b2⟩ := ln_low (G := G) (K := 24) (d := 1) (by decide) (by omega) (by decide)
  obtain ⟨i3, j3, G3, b3⟩ := ln_low (G := G) (K := 80) (d := 1) (by decide) hG (by decide)
  have p1 := GP.pow hG0 (by decide) (by decide) G1 23
  have p2 := GP.pow hG0 (by decide) (by decide) G2 17
  have p3 := GP.pow hG0 (by decide) (by decide) G3 10
  have p12 := GP.mul hG0 (by decide +kernel) (by decide +kernel) p1 p2
  have p123 := GP.mul hG0 (by decide +kernel) (by decide +kernel) p12 p3
  refine ⟨_, _, GP.mono hG0 (by decide) (by decide +kernel) p123 (by decide +kernel), ?_⟩
  have c1 : G * (10 ^ 29 * phi 1 15 - Q25 * 15 ^ 25) ≤ ((i1 : Int) - j1) * den 15 := by
    unfold den
    generalize Q25 * (15 : Int) ^ 25 = w at *
    generalize phi 1 15 = u at *
    grind
  have c2 : G * (10 ^ 29 * phi 1 24 - Q25 * 24 ^ 25) ≤ ((i2 : Int) - j2) * den 24 := by
    unfold den
    generalize Q25 * (24 : Int) ^ 25 = w at *
    generalize phi 1 24 = u at *
    grind
  have c3 : G * (10 ^ 29 * phi 1 80 - Q25 * 80 ^ 25) ≤ ((i3 : Int) - j3) * den 80 := by
    unfold den
    generalize Q25 * (80 : Int) ^ 25 = w at *
    generalize phi 1 80 = u at *
    grind
  have h := three (by omega) (den_pos (by decide)) (den_pos (by decide)) (den_pos (by decide)) (by decide +kernel) c1 c2 c3 ten_num_lo
  have e : (((23 * i1 + 17 * i2 + 10 * i3 : Nat) : Int) - ((23 * j1 + 17 * j2 + 10 * j3 : Nat) : Int)) = 23 * ((i1 : Int) - j1) + 17 * ((i2 : Int) - j2) + 10 * ((i3 : Int) - j3) := by omega
  rw [e]; exact h
theorem ten_hi {G : Int} (hG : 10 ^ 31 * (nn * 80) ≤ G) : ∃ i j : Nat, GP G 1 10 i j ∧ G * -(L46 + 10 ^ 20) ≤ 10 ^ 46 * ((i : Int) - j) := by
  have hG0 : 0 < G := by
    have : (0 : Int) < 10 ^ 31 * (nn * 80) := by decide +kernel
    omega
  have g15 : (10 : Int) ^ 31 * (nn * 15) ≤ 10 ^ 31 * (nn * 80) := by decide +kernel
  have g24 : (10 : Int) ^ 31 * (nn * 24) ≤ 10 ^ 31 * (nn * 80) := by decide +kernel
  obtain ⟨i1, j1, G1, b1⟩ := ln_high (G := G) (K := 15) (d := 1) (by decide) (by omega) (by decide)
  obtain ⟨i2, j2, G2, b2⟩ := ln_high (G := G) (K := 24) (d := 1) (by decide) (by omega) (by decide)
  obtain ⟨i3, j3, G3, b3⟩ := ln_high (G := G) (K := 80) (d := 1) (by decide) hG (by decide)
  have p1 := GP.pow hG0 (by decide) (by decide) G1 23
  have p2 := GP.pow hG0 (by decide) (by decide) G2 17
  have p3 := GP.pow hG0 (by decide) (by decide) G3 10
  have p12 := GP.mul hG0 (by decide +kernel) (by decide +kernel) p1 p2
  have p123 := GP.mul hG0 (by decide +kernel) (by decide +kernel) p12 p3
  refine ⟨_, _, GP.mono hG0 (by decide) (by decide +kernel) p123 (by decide +kernel), ?_⟩
  have c1 : G * -(10 ^ 29 * phi 1 15 + Q25 * 15 ^ 25) ≤ ((i1 : Int) - j1) * den 15 := by
    unfold den
    generalize Q25 * (15 : Int) ^ 25 = w at *
    generalize phi 1 15 = u at *
    grind
  have c2 : G * -(10 ^ 29 * phi 1 24 + Q25 * 24 ^ 25) ≤ ((i2 : Int) - j2) * den 24 := by
    unfold den
    generalize Q25 * (24 : Int) ^ 25 = w at *
    generalize phi 1 24 = u at *
    grind
  have c3 : G * -(10 ^ 29 * phi 1 80 + Q25 * 80 ^ 25) ≤ ((i3 : Int) - j3) * den 80 := by
    unfold den
    generalize Q25 * (80 : Int) ^ 25 = w at *
    generalize phi 1 80 = u at *
    grind
  have hn : -(L46 + 10 ^ 20) * (den 15 * den 24 * den 80) ≤ 10 ^ 46 * (23 * -(10 ^ 29 * phi 1 15 + Q25 * 15 ^ 25) * (den 24 * den 80) + 17 * -(10 ^ 29 * phi 1 24 + Q25 * 24 ^ 25) * (den 15 * den 80) + 10 * -(10 ^ 29 * phi 1 80 + Q25 * 80 ^ 25) * (den 15 * den 24)) := by
    have h := ten_num_hi
    generalize 10 ^ 29 * phi 1 15 + Q25 * 15 ^ 25 = u at *
    generalize 10 ^ 29 * phi 1 24 + Q25 * 24 ^ 25 = v at *
    generalize 10 ^ 29 * phi 1 80 + Q25 * 80 ^ 25 = w at *
    generalize den 15 = x at *
    generalize den 24 = y at *
    generalize den 80 = z at *
    generalize (10 : Int) ^ 46 = t at *
    generalize L46 + (10 : Int) ^ 20 = l at *
    grind
  have h := three (by omega) (den_pos (by decide)) (den_pos (by decide)) (den_pos (by decide)) (by decide +kernel) c1 c2 c3 hn
  have e : (((23 * i1 + 17 * i2 + 10 * i3 : Nat) : Int) - ((23 * j1 + 17 * j2 + 10 * j3 : Nat) : Int)) = 23 * ((i1 : Int) - j1) + 17 * ((i2 : Int) - j2) + 10 * ((i3 : Int) - j3) := by omega
  rw [e]; exact h

end
section
/-! the loop of roots, whatever x is: (2 p M + y') ^ 2 is 4 p M (p M + y) within 30 (p M + y) -/
theorem sq_key {M p y v s : Int} : 4 * ((M + s) * (M + s)) * (4 * p * M * (v - y) + v * v) = 8 * (M * y * (2 * M * y - p * (2 * (s * s) - 2 * (M * M)))) + 8 * (M * ((2 * (v * (M + s)) - 4 * M * y) * (p * (M + s) + y))) + (2 * (v * (M + s)) - 4 * M * y) * (2 * (v * (M + s)) - 4 * M * y) := by grind
theorem pmul {a b A B : Int} (hA : 0 ≤ A) (ha : -A ≤ a ∧ a ≤ A) (hb : -B ≤ b ∧ b ≤ B) : -(A * B) ≤ a * b ∧ a * b ≤ A * B := by
  have c1 : 0 ≤ (A - a) * (B - b) := Int.mul_nonneg (by omega) (by omega)
  have c2 : 0 ≤ (A + a) * (B + b) := Int.mul_nonneg (by omega) (by omega)
  have c3 : 0 ≤ (A - a) * (B + b) := Int.mul_nonneg (by omega) (by omega)
  have c4 : 0 ≤ (A + a) * (B - b) := Int.mul_nonneg (by omega) (by omega)
  constructor <;> grind
/-- the three parts of the error -/
theorem star {M p y v s Z Y : Int} (hM : 0 < M) (hp : 0 < p) (hs : 0 ≤ s) (hZ : p * M + y = Z) (hZ1 : 1 ≤ Z) (hY : -Y ≤ y ∧ y ≤ Y) (hY0 : 0 ≤ Y)
    (ha : -(p * (2 * s + M)) ≤ 2 * M * y - p * (2 * (s * s) - 2 * (M * M)) ∧ 2 * M * y - p * (2 * (s * s) - 2 * (M * M)) ≤ p * (2 * s + M))
    (hb : -(M + s) ≤ 2 * (v * (M + s)) - 4 * M * y ∧ 2 * (v * (M + s)) - 4 * M * y ≤ M + s)
    (q0 : 0 ≤ p * (M + s) + y) (q1 : 2 * (M * Y * (p * (2 * s + M))) ≤ 21 * ((M + s) * (M + s) * Z)) (q2 : M * (p * (M + s) + y) ≤ 4 * ((M + s) * Z)) :
    -(30 * Z) ≤ 4 * p * M * (v - y) + v * v ∧ 4 * p * M * (v - y) + v * v ≤ 30 * Z := by
  have w0 : 0 < M + s := by omega
  have key := sq_key (M := M) (p := p) (y := y) (v := v) (s := s)
  have pk : 0 ≤ p * (2 * s + M) := Int.mul_nonneg (by omega) (by omega)
  have My : -(M * Y) ≤ M * y ∧ M * y ≤ M * Y := by
    have a1 : M * y ≤ M * Y := mono2 hY.2 (by omega)
    have a2 : M * (-Y) ≤ M * y := mono2 hY.1 (by omega)
    have : M * (-Y) = -(M * Y) := by grind
    omega
  have t1 := pmul (Int.mul_nonneg (by omega) hY0) My ha
  generalize 2 * M * y - p * (2 * (s * s) - 2 * (M * M)) = η at *
  generalize 2 * (v * (M + s)) - 4 * M * y = t at *
  have t2 := pmul (a := t) (b := p * (M + s) + y) (A := M + s) (B := p * (M + s) + y) (by omega) hb ⟨by omega, by omega⟩
  have t3 := pmul (by omega : 0 ≤ M + s) hb hb
  generalize p * (M + s) + y = u at *
  generalize 4 * p * M * (v - y) + v * v = D at *
  generalize M * y * η = x1 at *
  generalize t * u = x2 at *
  generalize t * t = x3 at *
  have ww : 0 < (M + s) * (M + s) := Int.mul_pos w0 w0
  have m1 : M * x2 ≤ M * ((M + s) * u) := mono2 t2.2 (by omega)
  have m2 : M * (-((M + s) * u)) ≤ M * x2 := mono2 t2.1 (by omega)
  have m3 : (M + s) * (M * u) ≤ (M + s) * (4 * ((M + s) * Z)) := mono2 q2 (by omega)
  have m4 : ((M + s) * (M + s)) * 1 ≤ ((M + s) * (M + s)) * Z := mono2 hZ1 (by omega)
  have e1 : M * ((M + s) * u) = (M + s) * (M * u) := by grind
  have e2 : M * (-((M + s) * u)) = -((M + s) * (M * u)) := by grind
  have e3 : (M + s) * (4 * ((M + s) * Z)) = 4 * ((M + s) * (M + s) * Z) := by grind
  have e4 : 4 * ((M + s) * (M + s)) * D = 4 * ((M + s) * (M + s) * D) := by grind
  rw [e4] at key
  rw [e1] at m1
  rw [e2] at m2
  rw [e3] at m3
  generalize (M + s) * (M * u) = z at *
  generalize M * x2 = x4 at *
  generalize M * Y * (p * (2 * s + M)) = x5 at *
  generalize hW : (M + s) * (M + s) = W at *
  have f1 : W * (-(30 * Z)) = -(30 * (W * Z)) := by grind
  have f2 : W * (30 * Z) = 30 * (W * Z) := by grind
  constructor
  · refine Int.le_of_mul_le_mul_left (a := W) ?_ ww
    rw [f1]; omega
  · refine Int.le_of_mul_le_mul_left (a := W) ?_ ww
    rw [f2]; omega
/-- one step of the two bounds -/
theorem ipow_le {a b : Int} (h0 : 0 ≤ a) (h : a ≤ b) : ∀ n : Nat, a ^ n ≤ b ^ n
  | 0 => by simp
  | n + 1 => by
    rw [Int.pow_succ, Int.pow_succ]
    exact mul_lo (Int.pow_nonneg h0) h0 (ipow_le h0 h n) h
def LowF (x M k y F : Int) (p : Nat) : Prop := M * ((k + y) * (k - F)) ^ p ≤ x * (k * k) ^ p
def UppF (x M k y F : Int) (p : Nat) : Prop := x * (k * k) ^ p ≤ M * ((k + y) * (k + F)) ^ p
theorem sq_pow (a : Int) (p : Nat) : (a * a) ^ p = a ^ (2 * p) := by
  rw [Nat.two_mul, Int.pow_add, Int.mul_pow]
theorem lowF_step {x M k y v F : Int} {p : Nat} (hM : 0 ≤ M) (hx : 0 ≤ x) (hk : 8 ≤ k) (hF0 : 0 ≤ F) (hF : (F + 8) * (F + 8) ≤ k) (hy : 0 ≤ k + y) (hv : 0 ≤ 2 * k + v) (hs : 4 * k * (v - y) + v * v ≤ 30 * (k + y)) (h : LowF x M k y F p) : LowF x M (2 * k) v (F + 8) (2 * p) := by
  unfold LowF at *
  have hkF : F + 8 ≤ k := by
    have : (F + 8) * 1 ≤ (F + 8) * (F + 8) := mono2 (by omega) (by omega)
    omega
  have q : ((2 * k + v) * (2 * k - (F + 8))) * ((2 * k + v) * (2 * k - (F + 8))) ≤ (16 * (k * k)) * ((k + y) * (k - F)) := by
    have a1 : (2 * k + v) * (2 * k + v) ≤ (k + y) * (4 * k + 30) := by grind
    have a2 : 0 ≤ (2 * k - (F + 8)) * (2 * k - (F + 8)) := Int.mul_nonneg (by omega) (by omega)
    have a3 : ((2 * k - (F + 8)) * (2 * k - (F + 8))) * ((2 * k + v) * (2 * k + v)) ≤ ((2 * k - (F + 8)) * (2 * k - (F + 8))) * ((k + y) * (4 * k + 30)) := mono2 a1 a2
    have a4 : (4 * k + 30) * ((2 * k - (F + 8)) * (2 * k - (F + 8))) ≤ 16 * (k * k) * (k - F) := by
      have b1 : k * ((F + 8) * (F + 8)) ≤ k * k := mono2 hF (by omega)
      have b2 : k * 8 ≤ k * k := mono2 hk (by omega)
      have b3 : 0 ≤ k * F := Int.mul_nonneg (by omega) hF0
      grind
    have a5 : (k + y) * ((4 * k + 30) * ((2 * k - (F + 8)) * (2 * k - (F + 8)))) ≤ (k + y) * (16 * (k * k) * (k - F)) := mono2 a4 hy
    have e1 : ((2 * k + v) * (2 * k - (F + 8))) * ((2 * k + v) * (2 * k - (F + 8))) = ((2 * k - (F + 8)) * (2 * k - (F + 8))) * ((2 * k + v) * (2 * k + v)) := by grind
    have e2 : ((2 * k - (F + 8)) * (2 * k - (F + 8))) * ((k + y) * (4 * k + 30)) = (k + y) * ((4 * k + 30) * ((2 * k - (F + 8)) * (2 * k - (F + 8)))) := by grind
    have e3 : (k + y) * (16 * (k * k) * (k - F)) = (16 * (k * k)) * ((k + y) * (k - F)) := by grind
    omega
  have n0 : 0 ≤ (2 * k + v) * (2 * k - (F + 8)) := Int.mul_nonneg hv (by omega)
  rw [← sq_pow, ← sq_pow]
  have q2 := ipow_le (Int.mul_nonneg n0 n0) q p
  rw [Int.mul_pow (a := 16 * (k * k))] at q2
  have e4 : (2 * k * (2 * k) * (2 * k * (2 * k))) = (16 * (k * k)) * (k * k) := by grind
  rw [e4, Int.mul_pow (a := 16 * (k * k))]
  have pk : 0 ≤ (16 * (k * k)) ^ p := Int.pow_nonneg (Int.mul_nonneg (by omega) (Int.mul_nonneg (by omega) (by omega)))
  have r1 : (16 * (k * k)) ^ p * (M * ((k + y) * (k - F)) ^ p) ≤ (16 * (k * k)) ^ p * (x * (k * k) ^ p) := mono2 h pk
  have r2 := mono2 q2 hM
  generalize (16 * (k * k)) ^ p = A at *
  generalize ((k + y) * (k - F)) ^ p = B at *
  generalize (k * k) ^ p = C at *
  have e5 : M * (A * B) = A * (M * B) := by grind
  have e6 : x * (A * C) = A * (x * C) := by grind
  omega
theorem uppF_step {x M k y v F : Int} {p : Nat} (hM : 0 ≤ M) (hx : 0 ≤ x) (hF0 : 0 ≤ F) (hF : 15 * (F + 8) ≤ k) (hy : 0 ≤ k + y) (hs : -(30 * (k + y)) ≤ 4 * k * (v - y) + v * v) (h : UppF x M k y F p) : UppF x M (2 * k) v (F + 8) (2 * p) := by
  unfold UppF at *
  have q : (16 * (k * k)) * ((k + y) * (k + F)) ≤ ((2 * k + v) * (2 * k + (F + 8))) * ((2 * k + v) * (2 * k + (F + 8))) := by
    have a1 : (k + y) * (4 * k - 30) ≤ (2 * k + v) * (2 * k + v) := by grind
    have a2 : 0 ≤ (2 * k + (F + 8)) * (2 * k + (F + 8)) := Int.mul_nonneg (by omega) (by omega)
    have a3 : ((2 * k + (F + 8)) * (2 * k + (F + 8))) * ((k + y) * (4 * k - 30)) ≤ ((2 * k + (F + 8)) * (2 * k + (F + 8))) * ((2 * k + v) * (2 * k + v)) := mono2 a1 a2
    have a4 : 16 * (k * k) * (k + F) ≤ (4 * k - 30) * ((2 * k + (F + 8)) * (2 * k + (F + 8))) := by
      have b1 : k * (15 * (F + 8)) ≤ k * k := mono2 hF (by omega)
      have b3 : 0 ≤ (4 * k - 30) * ((F + 8) * (F + 8)) := Int.mul_nonneg (by omega) (Int.mul_nonneg (by omega) (by omega))
      grind
    have a5 : (k + y) * (16 * (k * k) * (k + F)) ≤ (k + y) * ((4 * k - 30) * ((2 * k + (F + 8)) * (2 * k + (F + 8)))) := mono2 a4 hy
    have e1 : ((2 * k + v) * (2 * k + (F + 8))) * ((2 * k + v) * (2 * k + (F + 8))) = ((2 * k + (F + 8)) * (2 * k + (F + 8))) * ((2 * k + v) * (2 * k + v)) := by grind
    have e2 : ((2 * k + (F + 8)) * (2 * k + (F + 8))) * ((k + y) * (4 * k - 30)) = (k + y) * ((4 * k - 30) * ((2 * k + (F + 8)) * (2 * k + (F + 8)))) := by grind
    have e3 : (k + y) * (16 * (k * k) * (k + F)) = (16 * (k * k)) * ((k + y) * (k + F)) := by grind
    omega
  have n0 : 0 ≤ (16 * (k * k)) * ((k + y) * (k + F)) := Int.mul_nonneg (Int.mul_nonneg (by omega) (Int.mul_nonneg (by omega) (by omega))) (Int.mul_nonneg hy (by omega))
  rw [← sq_pow, ← sq_pow]
  have q2 := ipow_le n0 q p
  rw [Int.mul_pow (a := 16 * (k * k))] at q2
  have e4 : (2 * k * (2 * k) * (2 * k * (2 * k))) = (16 * (k * k)) * (k * k) := by grind
  rw [e4, Int.mul_pow (a := 16 * (k * k))]
  have pk : 0 ≤ (16 * (k * k)) ^ p := Int.pow_nonneg (Int.mul_nonneg (by omega) (Int.mul_nonneg (by omega) (by omega)))
  have r1 : (16 * (k * k)) ^ p * (x * (k * k) ^ p) ≤ (16 * (k * k)) ^ p * (M * ((k + y) * (k + F)) ^ p) := mono2 h pk
  have r2 := mono2 q2 hM
  generalize (16 * (k * k)) ^ p = A at *
  generalize ((k + y) * (k + F)) ^ p = B at *
  generalize (k * k) ^ p = C at *
  have e5 : M * (A * B) = A * (M * B) := by grind
  have e6 : x * (A * C) = A * (x * C) := by grind
  omega

end
section
theorem up_tab : ∀ r : Fin 10, 1000 * (2 ^ (r.val + 1) * (qU8 (r.val + 1) - S8)) + eU8 (r.val + 1) ≤ 4500 * S8 ∧ 0 ≤ eU8 (r.val + 1) := by decide +kernel
theorem dn_tab : ∀ r : Fin 10, 1000 * (2 ^ (r.val + 1) * (S8 - qN8 (r.val + 1))) + eN8 (r.val + 1) ≤ 700 * (2 ^ (r.val + 1) * S8) ∧ 1000 * (2 ^ (r.val + 1) * (S8 - qN8 (r.val + 1))) + eN8 (r.val + 1) ≤ 2400 * S8 ∧ 0 ≤ eN8 (r.val + 1) := by decide +kernel
theorem f_tab : ∀ r : Fin 10, (8 * (r.val : Int) + 8) * (8 * (r.val : Int) + 8) ≤ 1000 * 2 ^ r.val ∧ 15 * (8 * (r.val : Int) + 8) ≤ 1000 * 2 ^ r.val ∧ (1 : Int) ≤ 2 ^ r.val := by decide +kernel
/-- the turn's facts about the root -/
theorem star_facts {x M y R p s : Int} (P : ilPre x M) (h : ilJ x M y R) (hp : 2 ^ R.toNat = p) (hs : sqrtN (M * (M + rshN y R)) = s) :
    0 < p ∧ 0 < s ∧ (-(p * (2 * s + M)) ≤ 2 * M * y - p * (2 * (s * s) - 2 * (M * M)) ∧ 2 * M * y - p * (2 * (s * s) - 2 * (M * M)) ≤ p * (2 * s + M)) ∧ (-(M + s) ≤ 2 * (ilS M y R * (M + s)) - 4 * M * y ∧ 2 * (ilS M y R * (M + s)) - 4 * M * y ≤ M + s) := by
  have pp : 0 < p := by rw [← hp]; exact pow2_pos _
  obtain ⟨rl, ru⟩ := root_lo P h hp hs
  obtain ⟨d0, d1, d2⟩ := step_near P h hs
  obtain ⟨_, _, s0, _, _⟩ := h.arg P
  rw [hs] at s0
  have e1 : p * (2 * (s * s) - 2 * s - 2 * (M * M) - M) = p * (2 * (s * s) - 2 * (M * M)) - p * (2 * s + M) := by grind
  have e2 : p * (2 * (s * s) + 2 * s - 2 * (M * M) + M) = p * (2 * (s * s) - 2 * (M * M)) + p * (2 * s + M) := by grind
  rw [e1] at rl
  rw [e2] at ru
  exact ⟨pp, s0, ⟨by omega, by omega⟩, ⟨by omega, by omega⟩⟩
theorem star_up {x M y R p : Int} (P : ilPre x M) (h : ilJ x M y R) (hx : M ≤ x) (hp : 2 ^ R.toNat = p) (hy : p = 1 ∨ 2 * y ≤ 9 * M) :
    -(30 * (p * M + y)) ≤ 4 * (p * M) * (ilS M y R - y) + ilS M y R * ilS M y R ∧ 4 * (p * M) * (ilS M y R - y) + ilS M y R * ilS M y R ≤ 30 * (p * M + y) := by
  obtain ⟨pp, s0, ha, hb⟩ := star_facts P h hp rfl
  have hsM := (h.root P).1 hx
  obtain ⟨y0, _⟩ := h.up hx
  have hM := P.M0
  generalize sqrtN (M * (M + rshN y R)) = s at *
  generalize ilS M y R = v at *
  have pM : 0 < p * M := Int.mul_pos pp (by omega)
  have k9 : 2 * (p * y) ≤ 9 * (p * M + y) := by
    rcases hy with c | c
    · subst c; omega
    · have : p * (2 * y) ≤ p * (9 * M) := mono2 c (by omega)
      have e1 : p * (2 * y) = 2 * (p * y) := by grind
      have e2 : p * (9 * M) = 9 * (p * M) := by grind
      omega
  have pw0 : 0 ≤ p * (M + s) := Int.mul_nonneg (by omega) (by omega)
  have key := star (M := M) (p := p) (y := y) (v := v) (s := s) (Z := p * M + y) (Y := y) (by omega) pp (by omega) rfl (by omega) ⟨by omega, by omega⟩ y0 ha hb (by omega) ?_ ?_
  · have e : 4 * p * M * (v - y) = 4 * (p * M) * (v - y) := by grind
    rw [e] at key; exact key
  · -- 2 M y p (2 s + M) <= 4 M w (p y)
    have w0 : 0 ≤ M + s := by omega
    have a1 : (2 * (M * y * p)) * (2 * s + M) ≤ (2 * (M * y * p)) * (2 * (M + s)) := mono2 (by omega) (Int.mul_nonneg (by omega) (Int.mul_nonneg (Int.mul_nonneg (by omega) y0) (by omega)))
    have a2 : (2 * (M * (M + s))) * (2 * (p * y)) ≤ (2 * (M * (M + s))) * (9 * (p * M + y)) := mono2 k9 (Int.mul_nonneg (by omega) (Int.mul_nonneg (by omega) w0))
    have a3 : (9 * ((M + s) * (p * M + y))) * (2 * M) ≤ (9 * ((M + s) * (p * M + y))) * (M + s) := mono2 (by omega) (Int.mul_nonneg (by omega) (Int.mul_nonneg w0 (by omega)))
    have a4 : 0 ≤ (M + s) * (M + s) * (p * M + y) := Int.mul_nonneg (Int.mul_nonneg w0 w0) (by omega)
    have e1 : 2 * (M * y * (p * (2 * s + M))) = (2 * (M * y * p)) * (2 * s + M) := by grind
    have e2 : (2 * (M * y * p)) * (2 * (M + s)) = (2 * (M * (M + s))) * (2 * (p * y)) := by grind
    have e3 : (2 * (M * (M + s))) * (9 * (p * M + y)) = (9 * ((M + s) * (p * M + y))) * (2 * M) := by grind
    have e4 : (9 * ((M + s) * (p * M + y))) * (M + s) = 9 * ((M + s) * (M + s) * (p * M + y)) := by grind
    omega
  · have a1 : y * M ≤ y * (M + s) := mono2 (by omega) y0
    have a2 : 0 ≤ (M + s) * (p * M + y) := Int.mul_nonneg (by omega) (by omega)
    have e1 : M * (p * (M + s) + y) = p * M * (M + s) + y * M := by grind
    have e2 : (M + s) * (p * M + y) = p * M * (M + s) + y * (M + s) := by grind
    omega
/-- below: s is no small part of M -/
theorem s_frac {M p Z s a : Int} (hM : 1000 ≤ M) (pp : 0 < p) (s0 : 0 < s) (hZ : a * (p * M) ≤ 10 * Z) (ha : 2 * (M * Z) ≤ p * (2 * (s * s) + 2 * s + M)) : a * (M * M) ≤ 10 * (s * s) + 10 * s + 5 * M := by
  have k : M * (a * (p * M)) ≤ M * (10 * Z) := mono2 hZ (by omega)
  have e1 : M * (a * (p * M)) = p * (a * (M * M)) := by grind
  have e2 : M * (10 * Z) = 5 * (2 * (M * Z)) := by grind
  refine Int.le_of_mul_le_mul_left (a := p) ?_ pp
  have e3 : p * (10 * (s * s) + 10 * s + 5 * M) = 5 * (p * (2 * (s * s) + 2 * s + M)) := by grind
  omega
theorem star_dn {x M y R p : Int} (P : ilPre x M) (hM3 : 1000 ≤ M) (h : ilJ x M y R) (hx : x < M) (hp : 2 ^ R.toNat = p) (hy : (p = 1 ∧ y = x - M) ∨ (3 * (p * M) ≤ 10 * (p * M + y) ∧ -(24 * M) ≤ 10 * y)) :
    -(30 * (p * M + y)) ≤ 4 * (p * M) * (ilS M y R - y) + ilS M y R * ilS M y R ∧ 4 * (p * M) * (ilS M y R - y) + ilS M y R * ilS M y R ≤ 30 * (p * M + y) := by
  obtain ⟨pp, s0, ha, hb⟩ := star_facts P h hp rfl
  obtain ⟨y0, _, _⟩ := h.dn hx
  obtain ⟨r1, r2, _, r4⟩ := h.rsh P
  obtain ⟨_, _, _, s1, s2⟩ := h.arg P
  have hr := r4 hx
  have hM := P.M0; have hlo := P.lo
  have hsM : sqrtN (M * (M + rshN y R)) ≤ M := by
    generalize sqrtN (M * (M + rshN y R)) = s at *
    refine Int.not_lt.mp fun hlt => ?_
    have a1 : (M + 1) * M ≤ s * (s - 1) := mul_lo (by omega) (by omega) (by omega) (by omega)
    have a2 : M * (M + rshN y R) ≤ M * M := mono2 (by omega) (by omega)
    have e1 : s * (s - 1) = s * s - s := by grind
    have e2 : (M + 1) * M = M * M + M := by grind
    omega
  generalize sqrtN (M * (M + rshN y R)) = s at *
  generalize ilS M y R = v at *
  clear s1 s2 r1 r2 hr
  have pM : 0 < p * M := Int.mul_pos pp (by omega)
  generalize hZ : p * M + y = Z at *
  have eMZ : 2 * M * y - p * (2 * (s * s) - 2 * (M * M)) = 2 * (M * Z) - p * (2 * (s * s)) := by rw [← hZ]; grind
  have lo2 : 2 * (M * Z) ≤ p * (2 * (s * s) + 2 * s + M) := by
    have : p * (2 * (s * s) + 2 * s + M) = p * (2 * (s * s)) + p * (2 * s + M) := by grind
    have := ha.2
    rw [eMZ] at this
    omega
  have hi2 : p * (2 * (s * s) - 2 * s - M) ≤ 2 * (M * Z) := by
    have : p * (2 * (s * s) - 2 * s - M) = p * (2 * (s * s)) - p * (2 * s + M) := by grind
    have := ha.1
    rw [eMZ] at this
    omega
  -- Z and s
  have hZ1 : p * M ≤ 10 * Z := by
    rcases hy with ⟨c1, c2⟩ | ⟨c1, c2⟩
    · subst c1; omega
    · omega
  have hs3 : 3 * M ≤ 10 * s := by
    refine Int.not_lt.mp fun hlt => ?_
    have a := s_frac (a := 1) hM3 pp s0 (by omega) lo2
    have b : (10 * s) * (10 * s) ≤ (3 * M) * (3 * M) := mul_lo (by omega) (by omega) (by omega) (by omega)
    have c : 1000 * M ≤ M * M := Int.mul_le_mul_of_nonneg_right hM3 (by omega)
    have e1 : (10 * s) * (10 * s) = 100 * (s * s) := by grind
    have e2 : (3 * M) * (3 * M) = 9 * (M * M) := by grind
    omega
  have pw0 : 0 ≤ p * s := Int.mul_nonneg (by omega) (by omega)
  have epw : p * (M + s) + y = Z + p * s := by rw [← hZ]; grind
  have key := star (M := M) (p := p) (y := y) (v := v) (s := s) (Z := Z) (Y := -y) (by omega) pp (by omega) hZ (by omega) ⟨by omega, by omega⟩ (by omega) ha hb (by rw [epw]; omega) ?_ ?_
  · have e : 4 * p * M * (v - y) = 4 * (p * M) * (v - y) := by grind
    rw [e] at key; exact key
  · -- M Y p <= 7 w Z
    have w0 : 0 < M + s := by omega
    have q : M * -y * p ≤ 7 * ((M + s) * Z) := by
      rcases hy with ⟨c1, c2⟩ | ⟨c1, c2⟩
      · subst c1
        have zx : Z = x := by omega
        subst zx
        have a1 : Z * (13 * M) ≤ Z * (10 * (M + s)) := mono2 (by omega) (by omega)
        have a2 : M * (10 * -y) ≤ M * (91 * Z) := mono2 (by omega) (by omega)
        have e1 : M * -y * 1 = M * -y := by omega
        have e2 : M * (10 * -y) = 10 * (M * -y) := by grind
        have e3 : M * (91 * Z) = 91 * (M * Z) := by grind
        have e4 : Z * (13 * M) = 13 * (M * Z) := by grind
        have e5 : Z * (10 * (M + s)) = 10 * ((M + s) * Z) := by grind
        rw [e1]
        omega
      · have hs5 : M ≤ 2 * s := by
          refine Int.not_lt.mp fun hlt => ?_
          have a := s_frac (a := 3) hM3 pp s0 c1 lo2
          have b : (2 * s) * (2 * s) ≤ M * M := mul_lo (by omega) (by omega) (by omega) (by omega)
          have c : 1000 * M ≤ M * M := Int.mul_le_mul_of_nonneg_right hM3 (by omega)
          have e1 : (2 * s) * (2 * s) = 4 * (s * s) := by grind
          omega
        have a1 : (M * p) * (10 * -y) ≤ (M * p) * (24 * M) := mono2 (by omega) (Int.mul_nonneg (by omega) (by omega))
        have a2 : (M + s) * (3 * (p * M)) ≤ (M + s) * (10 * Z) := mono2 c1 (by omega)
        have a3 : (3 * (p * M)) * (3 * M) ≤ (3 * (p * M)) * (2 * (M + s)) := mono2 (by omega) (by omega)
        have e1 : (M * p) * (10 * -y) = 10 * (M * -y * p) := by grind
        have e2 : (M * p) * (24 * M) = 24 * (p * M * M) := by grind
        have e3 : (3 * (p * M)) * (3 * M) = 9 * (p * M * M) := by grind
        have e4 : (3 * (p * M)) * (2 * (M + s)) = 2 * ((M + s) * (3 * (p * M))) := by grind
        have e5 : (M + s) * (10 * Z) = 10 * ((M + s) * Z) := by grind
        have z0 : 0 ≤ p * M * M := Int.mul_nonneg (by omega) (by omega)
        omega
    have q0 : 0 ≤ M * -y * p := Int.mul_nonneg (Int.mul_nonneg (by omega) (by omega)) (by omega)
    have a1 : (M * -y * p) * (2 * (2 * s + M)) ≤ (M * -y * p) * (3 * (M + s)) := mono2 (by omega) q0
    have a2 : (3 * (M + s)) * (M * -y * p) ≤ (3 * (M + s)) * (7 * ((M + s) * Z)) := mono2 q (by omega)
    have e1 : 2 * (M * -y * (p * (2 * s + M))) = (M * -y * p) * (2 * (2 * s + M)) := by grind
    have e2 : (M * -y * p) * (3 * (M + s)) = (3 * (M + s)) * (M * -y * p) := Int.mul_comm _ _
    have e3 : (3 * (M + s)) * (7 * ((M + s) * Z)) = 21 * ((M + s) * (M + s) * Z) := by grind
    omega
  · rw [epw]
    -- M p s <= (3 M + 4 s) Z
    suffices hh : M * (p * s) ≤ (3 * M + 4 * s) * Z by
      have e1 : M * (Z + p * s) = M * Z + M * (p * s) := by grind
      have e2 : 4 * ((M + s) * Z) = M * Z + (3 * M + 4 * s) * Z := by grind
      omega
    refine Int.le_of_mul_le_mul_left (a := 2 * M) ?_ (by omega)
    have a0 : (3 * M + 4 * s) * (p * (2 * (s * s) - 2 * s - M)) ≤ (3 * M + 4 * s) * (2 * (M * Z)) := mono2 hi2 (by omega)
    have a1 : 2 * (M * M) * s ≤ (3 * M + 4 * s) * (2 * (s * s) - 2 * s - M) := by
      have b1 : (42 * M) * (3 * M) ≤ (10 * (3 * M + 4 * s)) * (10 * s) := mul_lo (by omega) (by omega) (by omega) (by omega)
      have b2 : s * ((42 * M) * (3 * M)) ≤ s * ((10 * (3 * M + 4 * s)) * (10 * s)) := mono2 b1 (by omega)
      have b3 : (M * M) * (3 * M) ≤ (M * M) * (10 * s) := mono2 hs3 (Int.mul_nonneg (by omega) (by omega))
      have b4 : (3 * M + 4 * s) * (2 * s + M) ≤ (7 * M) * (3 * M) := mul_lo (by omega) (by omega) (by omega) (by omega)
      have b5 : (M * M) * 1000 ≤ (M * M) * M := mono2 hM3 (Int.mul_nonneg (by omega) (by omega))
      have e1 : s * ((42 * M) * (3 * M)) = 126 * (M * M * s) := by grind
      have e2 : s * ((10 * (3 * M + 4 * s)) * (10 * s)) = 100 * ((3 * M + 4 * s) * (s * s)) := by grind
      have e3 : (M * M) * (3 * M) = 3 * (M * M * M) := by grind
      have e4 : (M * M) * (10 * s) = 10 * (M * M * s) := by grind
      have e5 : (7 * M) * (3 * M) = 21 * (M * M) := by grind
      have e6 : (3 * M + 4 * s) * (2 * (s * s) - 2 * s - M) = 2 * ((3 * M + 4 * s) * (s * s)) - (3 * M + 4 * s) * (2 * s + M) := by grind
      have e7 : 2 * (M * M) * s = 2 * (M * M * s) := by grind
      have z0 : 0 ≤ M * M := Int.mul_nonneg (by omega) (by omega)
      omega
    have a2 : p * (2 * (M * M) * s) ≤ p * ((3 * M + 4 * s) * (2 * (s * s) - 2 * s - M)) := mono2 a1 (by omega)
    have e1 : 2 * M * (M * (p * s)) = p * (2 * (M * M) * s) := by grind
    have e2 : p * ((3 * M + 4 * s) * (2 * (s * s) - 2 * s - M)) = (3 * M + 4 * s) * (p * (2 * (s * s) - 2 * s - M)) := by grind
    have e3 : 2 * M * ((3 * M + 4 * s) * Z) = (3 * M + 4 * s) * (2 * (M * Z)) := by grind
    omega

end
section
/-- what is known where the loop ends -/
structure End3 (x M y : Int) (r : Nat) : Prop where
  r10 : r ≤ 10
  j : ilJ x M y (r : Nat)
  t : ilT M y (r : Nat) = false
  el : ilLp 40 M (x - M) 0 = (y, ((r : Nat) : Int))
  lo : LowF x M (2 ^ r * M) y (8 * (r : Int)) (2 ^ r)
  hi : UppF x M (2 ^ r * M) y (8 * (r : Int)) (2 ^ r)
theorem lowF_start (x M : Int) : LowF x M (2 ^ 0 * M) (x - M) (8 * ((0 : Nat) : Int)) (2 ^ 0) := by
  unfold LowF
  simp only [Int.pow_zero, Int.one_mul, Nat.pow_zero, Int.pow_succ]
  have : (M + (x - M)) * (M - 8 * ((0 : Nat) : Int)) = x * M := by
    have e : 8 * ((0 : Nat) : Int) = 0 := rfl
    rw [e]; grind
  rw [this]
  have : M * (x * M) = x * (M * M) := by grind
  omega
theorem uppF_start (x M : Int) : UppF x M (2 ^ 0 * M) (x - M) (8 * ((0 : Nat) : Int)) (2 ^ 0) := by
  unfold UppF
  simp only [Int.pow_zero, Int.one_mul, Nat.pow_zero, Int.pow_succ]
  have : (M + (x - M)) * (M + 8 * ((0 : Nat) : Int)) = x * M := by
    have e : 8 * ((0 : Nat) : Int) = 0 := rfl
    rw [e]; grind
  rw [this]
  have : M * (x * M) = x * (M * M) := by grind
  omega
theorem k_next (M : Int) (r : Nat) : (2 : Int) ^ (r + 1) * M = 2 * (2 ^ r * M) := by rw [Int.pow_succ]; grind
theorem p_next (r : Nat) : (2 : Nat) ^ (r + 1) = 2 * 2 ^ r := by rw [Nat.pow_succ]; omega
theorem up_y {M y : Int} {r : Nat} (hM : 1000 ≤ M) (hr : r ≤ 10) (hr0 : r ≠ 0) (hb : S8 * y ≤ 2 ^ r * (M * (qU8 r - S8)) + eU8 r) : 2 * y ≤ 9 * M := by
  obtain ⟨n, rfl⟩ : ∃ n, r = n + 1 := ⟨r - 1, by omega⟩
  obtain ⟨t1, t2⟩ := up_tab ⟨n, by omega⟩
  have t1 : 1000 * (2 ^ (n + 1) * (qU8 (n + 1) - S8)) + eU8 (n + 1) ≤ 4500 * S8 := t1
  have t2 : 0 ≤ eU8 (n + 1) := t2
  generalize eU8 (n + 1) = e at *
  have e1 : (2 : Int) ^ (n + 1) * (M * (qU8 (n + 1) - S8)) = M * (2 ^ (n + 1) * (qU8 (n + 1) - S8)) := by grind
  rw [e1] at hb
  generalize (2 : Int) ^ (n + 1) * (qU8 (n + 1) - S8) = q at *
  have k1 : M * (1000 * q + e) ≤ M * (4500 * S8) := mono2 t1 (by omega)
  have k2 : e * 1000 ≤ e * M := mono2 hM t2
  have e2 : M * (1000 * q + e) = 1000 * (M * q) + e * M := by grind
  refine Int.le_of_mul_le_mul_left (a := 500 * S8) ?_ (by decide)
  have e3 : 500 * S8 * (2 * y) = 1000 * (S8 * y) := by grind
  have e4 : 500 * S8 * (9 * M) = M * (4500 * S8) := by grind
  omega
theorem dn_y {M y : Int} {r : Nat} (hM : 1000 ≤ M) (hr : r ≤ 10) (hr0 : r ≠ 0) (hb : 2 ^ r * (M * (qN8 r - S8)) ≤ S8 * y + eN8 r) : 3 * (2 ^ r * M) ≤ 10 * (2 ^ r * M + y) ∧ -(24 * M) ≤ 10 * y := by
  obtain ⟨n, rfl⟩ : ∃ n, r = n + 1 := ⟨r - 1, by omega⟩
  obtain ⟨t1, t2, t3⟩ := dn_tab ⟨n, by omega⟩
  have t1 : 1000 * (2 ^ (n + 1) * (S8 - qN8 (n + 1))) + eN8 (n + 1) ≤ 700 * (2 ^ (n + 1) * S8) := t1
  have t2 : 1000 * (2 ^ (n + 1) * (S8 - qN8 (n + 1))) + eN8 (n + 1) ≤ 2400 * S8 := t2
  have t3 : 0 ≤ eN8 (n + 1) := t3
  generalize eN8 (n + 1) = e at *
  have e1 : (2 : Int) ^ (n + 1) * (M * (qN8 (n + 1) - S8)) = -(M * (2 ^ (n + 1) * (S8 - qN8 (n + 1)))) := by grind
  rw [e1] at hb
  generalize (2 : Int) ^ (n + 1) * (S8 - qN8 (n + 1)) = q at *
  generalize (2 : Int) ^ (n + 1) = p at *
  have k2 : e * 1000 ≤ e * M := mono2 hM t3
  have e2 : M * (1000 * q + e) = 1000 * (M * q) + e * M := by grind
  constructor
  · have k1 : M * (1000 * q + e) ≤ M * (700 * (p * S8)) := mono2 t1 (by omega)
    refine Int.le_of_mul_le_mul_left (a := 100 * S8) ?_ (by decide)
    have e3 : 100 * S8 * (10 * (p * M + y)) = 1000 * (p * M * S8) + 1000 * (S8 * y) := by grind
    have e4 : M * (700 * (p * S8)) = 700 * (p * M * S8) := by grind
    have e5 : 100 * S8 * (3 * (p * M)) = 300 * (p * M * S8) := by grind
    omega
  · have k1 : M * (1000 * q + e) ≤ M * (2400 * S8) := mono2 t2 (by omega)
    refine Int.le_of_mul_le_mul_left (a := 100 * S8) ?_ (by decide)
    have e3 : 100 * S8 * (10 * y) = 1000 * (S8 * y) := by grind
    have e4 : 100 * S8 * -(24 * M) = -(M * (2400 * S8)) := by grind
    omega
theorem pow_one_le (r : Nat) : (1 : Int) ≤ 2 ^ r := by
  have := pow2_pos r; omega
theorem end_up {x M : Int} (P : ilPre x M) (hM3 : 1000 ≤ M) (hx : M ≤ x) : ∃ y r, End3 x M y r := by
  have hM := P.M0
  have hM0 : 0 ≤ M := by omega
  have q0 : qU8 0 = 10 * S8 := rfl
  have e0 : eU8 0 = 0 := rfl
  have C := chU8
  have hhi := P.hi
  obtain ⟨y, R, h, ⟨r, e, hr, hb, hl, hu⟩, t, el⟩ := ilLp_inv P (fun y R => ∃ r : Nat, R = (r : Nat) ∧ r ≤ 10 ∧ S8 * y ≤ 2 ^ r * (M * (qU8 r - S8)) + eU8 r ∧ LowF x M (2 ^ r * M) y (8 * (r : Int)) (2 ^ r) ∧ UppF x M (2 ^ r * M) y (8 * (r : Int)) (2 ^ r)) ⟨0, rfl, by omega, by
      rw [q0, e0]
      have e1 : (2 : Int) ^ 0 * (M * (10 * S8 - S8)) = 9 * (S8 * M) := by rw [Int.pow_zero]; grind
      have k : S8 * (x - M) ≤ S8 * (9 * M) := mono2 (by omega) (by decide)
      have e2 : S8 * (9 * M) = 9 * (S8 * M) := by grind
      omega, lowF_start x M, uppF_start x M⟩ (by
    rintro y R h ⟨r, rfl, hr, hb, hl, hu⟩ t
    have hr2 : r < 10 := by
      refine Nat.not_le.mp fun hle => ?_
      have e : r = 10 := by omega
      subst e
      unfold ilT at t
      rw [if_neg (by decide)] at t
      have t1 := fdiv_ge (b := 2 ^ (((10 : Nat) : Int) - 8).toNat) (pow2_pos _) (of_decide_eq_true t)
      have e1 : (2 : Int) ^ (((10 : Nat) : Int) - 8).toNat = 4 := by decide
      rw [e1] at t1
      obtain ⟨u1, u2⟩ := h.up hx
      have e2 : (2 : Int) ^ 10 = 1024 := by decide
      rw [e2] at hb
      have l := C.last
      have S0 := C.S0
      have k1 : S8 * (4 * M) ≤ S8 * y := mono2 (by omega) (by omega)
      have k2 : M * (1024 * (qU8 10 - S8) * 100 + eU8 10 + 1) ≤ M * (400 * S8) := mono2 l hM0
      have hE10 : 0 ≤ eU8 10 := by decide +kernel
      have k3 : eU8 10 * 100 ≤ eU8 10 * M := mono2 hM hE10
      generalize qU8 10 = q at *
      generalize eU8 10 = e at *
      grind
    obtain ⟨c1, c2, c3, c4⟩ := C.q r (by omega)
    have hb' := upPos (p := 2 ^ r) P h hx (by simp) C.S0 c1 c2 c3 c4 hb
    have st := star_up (p := 2 ^ r) P h hx (by simp) (by
      by_cases hz : r = 0
      · left; subst hz; rfl
      · right; exact up_y hM3 hr hz hb)
    obtain ⟨y0, _⟩ := h.up hx
    have v0 := (h.next P t).up hx
    obtain ⟨f1, f2, f3⟩ := f_tab ⟨r, hr2⟩
    have f1 : (8 * (r : Int) + 8) * (8 * (r : Int) + 8) ≤ 1000 * 2 ^ r := f1
    have f2 : 15 * (8 * (r : Int) + 8) ≤ 1000 * 2 ^ r := f2
    have kM : (2 : Int) ^ r * 1000 ≤ 2 ^ r * M := mono2 hM3 (by have := pow2_pos r; omega)
    have p1 := pow_one_le r
    have eF : 8 * ((r + 1 : Nat) : Int) = 8 * (r : Int) + 8 := by omega
    refine ⟨r + 1, by omega, by omega, ?_, ?_, ?_⟩
    · rw [Int.pow_succ]; grind
    · rw [k_next, p_next, eF]
      exact lowF_step hM0 (by omega) (by omega) (by omega) (by omega) (by omega) (by omega) st.2 hl
    · rw [k_next, p_next, eF]
      exact uppF_step hM0 (by omega) (by omega) (by omega) (by omega) st.1 hu)
  subst e
  exact ⟨y, r, hr, h, t, el, hl, hu⟩
theorem end_dn {x M : Int} (P : ilPre x M) (hM3 : 1000 ≤ M) (hx : x < M) : ∃ y r, End3 x M y r := by
  have hM := P.M0
  have hM0 : 0 ≤ M := by omega
  have q0 : qN8 0 = 100000000000000000000000000000 := rfl
  have e0 : eN8 0 = 0 := rfl
  have C := chN8
  have hlo := P.lo
  obtain ⟨y, R, h, ⟨r, e, hr, hz, hb, hl, hu⟩, t, el⟩ := ilLp_inv P (fun y R => ∃ r : Nat, R = (r : Nat) ∧ r ≤ 10 ∧ (r = 0 → y = x - M) ∧ 2 ^ r * (M * (qN8 r - S8)) ≤ S8 * y + eN8 r ∧ LowF x M (2 ^ r * M) y (8 * (r : Int)) (2 ^ r) ∧ UppF x M (2 ^ r * M) y (8 * (r : Int)) (2 ^ r)) ⟨0, rfl, by omega, fun _ => rfl, by
      rw [q0, e0]
      have e1 : (2 : Int) ^ 0 * (M * (100000000000000000000000000000 - S8)) = -(900000000000000000000000000000 * M) := by rw [Int.pow_zero]; grind
      rw [e1]
      show _ ≤ 1000000000000000000000000000000 * (x - M) + 0
      omega, lowF_start x M, uppF_start x M⟩ (by
    rintro y R h ⟨r, rfl, hr, hz, hb, hl, hu⟩ t
    have hr2 : r < 10 := by
      refine Nat.not_le.mp fun hle => ?_
      have e : r = 10 := by omega
      subst e
      unfold ilT at t
      rw [if_neg (by decide)] at t
      have t1 := fdiv_ge (b := 2 ^ (((10 : Nat) : Int) - 8).toNat) (pow2_pos _) (of_decide_eq_true t)
      have e1 : (2 : Int) ^ (((10 : Nat) : Int) - 8).toNat = 4 := by decide
      rw [e1] at t1
      obtain ⟨u1, u2, u3⟩ := h.dn hx
      have e2 : (2 : Int) ^ 10 = 1024 := by decide
      rw [e2] at hb
      have l := C.last
      have S0 := C.S0
      have k1 : S8 * y ≤ S8 * (-(4 * M)) := mono2 (by omega) (by omega)
      have k2 : M * (1024 * (S8 - qN8 10) * 100 + eN8 10 + 1) ≤ M * (400 * S8) := mono2 l hM0
      have hE10 : 0 ≤ eN8 10 := by decide +kernel
      have k3 : eN8 10 * 100 ≤ eN8 10 * M := mono2 hM hE10
      generalize qN8 10 = q at *
      generalize eN8 10 = e at *
      grind
    obtain ⟨c1, c2, c3, c4, c5, c6, c7, c8, c9⟩ := C.q r (by omega)
    have hb' := lowNeg (p := 2 ^ r) P h (by simp) C.S0 c1 c2 c3 c4 c5 c6 c7 c8 c9 hb
    have hb2 : 2 ^ (r + 1) * (M * (qN8 (r + 1) - S8)) ≤ S8 * ilS M y (r : Nat) + eN8 (r + 1) := by
      rw [Int.pow_succ]; grind
    have hy : (((2 : Int) ^ r = 1 ∧ y = x - M) ∨ (3 * (2 ^ r * M) ≤ 10 * (2 ^ r * M + y) ∧ -(24 * M) ≤ 10 * y)) := by
      by_cases c : r = 0
      · left; subst c; exact ⟨rfl, hz rfl⟩
      · right; exact dn_y hM3 hr c hb
    have st := star_dn (p := 2 ^ r) P hM3 h hx (by simp) hy
    have hv := dn_y hM3 (by omega : r + 1 ≤ 10) (by omega) hb2
    obtain ⟨f1, f2, f3⟩ := f_tab ⟨r, hr2⟩
    have f1 : (8 * (r : Int) + 8) * (8 * (r : Int) + 8) ≤ 1000 * 2 ^ r := f1
    have f2 : 15 * (8 * (r : Int) + 8) ≤ 1000 * 2 ^ r := f2
    have kM : (2 : Int) ^ r * 1000 ≤ 2 ^ r * M := mono2 hM3 (by have := pow2_pos r; omega)
    have p1 := pow_one_le r
    have eF : 8 * ((r + 1 : Nat) : Int) = 8 * (r : Int) + 8 := by omega
    have ky : 0 ≤ 2 ^ r * M + y := by
      rcases hy with ⟨d1, d2⟩ | ⟨d1, d2⟩
      · rw [d1]; omega
      · omega
    refine ⟨r + 1, by omega, by omega, fun hh => by omega, hb2, ?_, ?_⟩
    · rw [k_next] at hv
      rw [k_next, p_next, eF]
      exact lowF_step hM0 (by omega) (by omega) (by omega) (by omega) ky (by omega) st.2 hl
    · rw [k_next, p_next, eF]
      exact uppF_step hM0 (by omega) (by omega) (by omega) ky st.1 hu)
  subst e
  exact ⟨y, r, hr, h, t, el, hl, hu⟩
theorem end3 {x M : Int} (P : ilPre x M) (hM3 : 1000 ≤ M) : ∃ y r, End3 x M y r := by
  rcases Int.lt_or_le x M with c | c
  · exact end_dn P hM3 c
  · exact end_up P hM3 c

end
section
/-! Horner's scheme at y / 2 ^ R, rounded, against the form at y and K = 2 ^ R M -/
structure HE3 (M y K N e : Int) (w : Int) (cs : List Int) : Prop where
  ne : cs ≠ []
  lo : -(e * (Q25 * K ^ (cs.length - 1))) ≤ N * (w * (Q25 * K ^ (cs.length - 1)) - M * hv cs y K)
  hi : N * (w * (Q25 * K ^ (cs.length - 1)) - M * hv cs y K) ≤ e * (Q25 * K ^ (cs.length - 1))
  wb : -(2 * M) ≤ w ∧ w ≤ 2 * M
theorem he3_start {M y K N e T : Int} (hM : 100 ≤ M) (h1 : 1 ≤ T) (h2 : T ≤ 25) (hN : 0 ≤ N) (he : N ≤ 2 * e) : HE3 M y K N e (divN M T) [Q25 / T] := by
  have s := he_start (M := M) (d := y) (N := N) (e := e) (T := T) (by omega) h1 h2 hN he
  obtain ⟨ne, lo, hi⟩ := s
  refine ⟨ne, ?_, ?_, divM_bound hM h1⟩
  · simpa [hv] using lo
  · simpa [hv] using hi
theorem he3_step {M y ys p K N e e' b k w u2 : Int} {cs : List Int} (hM : 100 ≤ M) (pp : 0 < p) (hK : K = p * M) (hys : -p ≤ 2 * (y - p * ys) ∧ 2 * (y - p * ys) ≤ p) (hyb : -M ≤ 100 * ys ∧ 100 * ys ≤ M) (hk1 : 1 ≤ k) (hk2 : k ≤ 25) (hN : 0 < N)
    (hb : -(b * K) ≤ N * y ∧ N * y ≤ b * K) (hu : -u2 ≤ 2 * (M - k * divN M k) ∧ 2 * (M - k * divN M k) ≤ u2) (hue : N * N * u2 + 3 * k * (N * N) + 2 * k * (b * e) ≤ 2 * k * (e' * N))
    (h : HE3 M y K N e w cs) : HE3 M y K N e' (horn M ys w k) (cstep cs k) := by
  obtain ⟨ne, lo, hi, wb⟩ := h
  obtain ⟨q1, q2⟩ := q25i hk1 hk2
  have n := divN_near (a := ys * w) (b := M) (by omega)
  have hl : (cstep cs k).length - 1 = (cs.length - 1) + 1 := by
    have : cs.length ≠ 0 := by simpa using ne
    simp [cstep]; omega
  have hK0 : 0 < K := by rw [hK]; exact Int.mul_pos pp (by omega)
  have ec : hv (cstep cs k) y K = (Q25 / k) * K ^ (cs.length - 1 + 1) - y * hv cs y K := by
    have : cs.length - 1 + 1 = cs.length := by
      have : cs.length ≠ 0 := by simpa using ne
      omega
    show (Q25 / k) * K ^ (cs.map (fun c => -c)).length + y * hv (cs.map (fun c => -c)) y K = _
    rw [hv_neg, List.length_map, this]
    grind
  suffices hh : -(e' * (Q25 * K ^ ((cstep cs k).length - 1))) ≤ N * (horn M ys w k * (Q25 * K ^ ((cstep cs k).length - 1)) - M * hv (cstep cs k) y K) ∧ N * (horn M ys w k * (Q25 * K ^ ((cstep cs k).length - 1)) - M * hv (cstep cs k) y K) ≤ e' * (Q25 * K ^ ((cstep cs k).length - 1)) from
    ⟨by simp [cstep], hh.1, hh.2, horn_bound hM hk1 hyb wb⟩
  rw [hl, ec]
  have pw : 0 < K ^ (cs.length - 1) := Int.pow_pos hK0
  rw [Int.pow_succ]
  generalize K ^ (cs.length - 1) = P at *
  generalize hv cs y K = C at *
  unfold horn
  generalize divN M k = a at *
  generalize divN (ys * w) M = r at *
  generalize Q25 / k = q at *
  have pQ : 0 < Q25 := by decide
  generalize Q25 = Q at *
  have hd := absmul hb ⟨lo, hi⟩
  have pkq : 0 ≤ P * K * q := Int.mul_nonneg (Int.mul_nonneg (by omega) (by omega)) q2
  have z1 : (P * K * q) * (-u2) ≤ (P * K * q) * (2 * (M - k * a)) := mono2 hu.1 pkq
  have z2 : (P * K * q) * (2 * (M - k * a)) ≤ (P * K * q) * u2 := mono2 hu.2 pkq
  -- the two roundings
  have dw := absmul (a := 2 * (y - p * ys)) (A := p) hys wb
  have pt : -(p * M) ≤ p * (2 * (ys * w - M * r)) ∧ p * (2 * (ys * w - M * r)) ≤ p * M := by
    have a1 : p * (2 * (ys * w - M * r)) ≤ p * M := mono2 n.2 (by omega)
    have a2 : p * (-M) ≤ p * (2 * (ys * w - M * r)) := mono2 n.1 (by omega)
    have : p * (-M) = -(p * M) := by grind
    omega
  have tt : -(3 * K) ≤ 2 * (y - p * ys) * w + p * (2 * (ys * w - M * r)) ∧ 2 * (y - p * ys) * w + p * (2 * (ys * w - M * r)) ≤ 3 * K := by
    have : p * (2 * M) = 2 * K := by rw [hK]; grind
    rw [this] at dw
    rw [← hK] at pt
    omega
  have y1 : (Q * P) * (-(3 * K)) ≤ (Q * P) * (2 * (y - p * ys) * w + p * (2 * (ys * w - M * r))) := mono2 tt.1 (Int.mul_nonneg (by omega) (by omega))
  have y2 : (Q * P) * (2 * (y - p * ys) * w + p * (2 * (ys * w - M * r))) ≤ (Q * P) * (3 * K) := mono2 tt.2 (Int.mul_nonneg (by omega) (by omega))
  have f1 : (P * K * q) * (N * N * u2 + 3 * k * (N * N) + 2 * k * (b * e)) ≤ (P * K * q) * (2 * k * (e' * N)) := mono2 hue pkq
  have X : 2 * ((a - r) * (Q * (P * K)) - M * (q * (P * K) - y * C)) = -((P * K * q) * (2 * (M - k * a))) + (Q * P) * (2 * (y - p * ys) * w + p * (2 * (ys * w - M * r))) - 2 * (y * (w * (Q * P) - M * C)) := by
    rw [← q1, hK]; grind
  generalize hz : (P * K * q) * (2 * (M - k * a)) = z at *
  generalize hy : (Q * P) * (2 * (y - p * ys) * w + p * (2 * (ys * w - M * r))) = yy at *
  generalize hx : w * (Q * P) - M * C = x at *
  have eQ : (P * K * q) * k = Q * P * K := by rw [← q1]; grind
  have ed : N * y * (N * x) = N * N * (y * x) := by grind
  rw [ed] at hd
  generalize y * x = v at *
  generalize (a - r) * (Q * (P * K)) - M * (q * (P * K) - y * C) = XX at *
  have NN : 0 < N * N := Int.mul_pos hN hN
  have m1 : N * N * z ≤ N * N * ((P * K * q) * u2) := mono2 z2 (by omega)
  have m2 : N * N * ((P * K * q) * (-u2)) ≤ N * N * z := mono2 z1 (by omega)
  have m3 : N * N * yy ≤ N * N * ((Q * P) * (3 * K)) := mono2 y2 (by omega)
  have m4 : N * N * ((Q * P) * (-(3 * K))) ≤ N * N * yy := mono2 y1 (by omega)
  have X2 : N * N * (2 * XX) = N * N * (-z + yy - 2 * v) := by rw [X]
  clear ec hl ne lo hi hu n hb hM hk1 hk2 pw pQ NN hue hys hyb dw pt tt wb X hz hy hx
  generalize hKk : P * K * q = L at *
  have i3 : N * N * (L * -u2) = -(N * N * (L * u2)) := by grind
  have i4 : N * N * ((Q * P) * (3 * K)) = 3 * (N * N * (L * k)) := by rw [eQ]; grind
  have i5 : N * N * ((Q * P) * (-(3 * K))) = -(3 * (N * N * (L * k))) := by rw [eQ]; grind
  have i6 : b * K * (e * (Q * P)) = b * e * (L * k) := by rw [eQ]; grind
  have i7 : L * (N * N * u2 + 3 * k * (N * N) + 2 * k * (b * e)) = N * N * (L * u2) + 3 * (N * N * (L * k)) + 2 * (b * e * (L * k)) := by grind
  have i8 : L * (2 * k * (e' * N)) = 2 * (N * e' * (L * k)) := by grind
  have i9 : e' * (Q * (P * K)) = e' * (L * k) := by rw [eQ]; grind
  have j0 : N * N * (-z + yy - 2 * v) = -(N * N * z) + N * N * yy - 2 * (N * N * v) := by grind
  rw [i9]
  rw [i3] at m2
  rw [i4] at m3
  rw [i5] at m4
  rw [i6] at hd
  rw [i7, i8] at f1
  rw [j0] at X2
  have j1 : 2 * N * -(e' * (L * k)) = -(2 * (N * e' * (L * k))) := by grind
  have j2 : 2 * N * (e' * (L * k)) = 2 * (N * e' * (L * k)) := by grind
  have j3 : 2 * N * (N * XX) = N * N * (2 * XX) := by grind
  constructor
  · refine Int.le_of_mul_le_mul_left (a := 2 * N) ?_ (by omega)
    rw [j1, j3]; omega
  · refine Int.le_of_mul_le_mul_left (a := 2 * N) ?_ (by omega)
    rw [j2, j3]; omega
theorem he3_fold {M y ys p K : Int} (hM : 100 ≤ M) (pp : 0 < p) (hK : K = p * M) (hys : -p ≤ 2 * (y - p * ys) ∧ 2 * (y - p * ys) ≤ p) (hyb : -M ≤ 100 * ys ∧ 100 * ys ≤ M) (hb : -(40 * K) ≤ 10000 * y ∧ 10000 * y ≤ 40 * K) :
    ∀ (ks : List Int) (w : Int) (cs : List Int), (∀ k ∈ ks, 1 ≤ k ∧ k ≤ 25) → HE3 M y K 10000 20081 w cs → HE3 M y K 10000 20081 (ks.foldl (horn M ys) w) (ks.foldl cstep cs)
  | [], w, cs, _, h => h
  | k :: r, w, cs, hk, h => by
    obtain ⟨k1, k2⟩ := hk k (.head _)
    refine he3_fold hM pp hK hys hyb hb r _ _ (fun q hq => hk q (.tail _ hq)) (he3_step (u2 := k) (b := 40) hM pp hK hys hyb k1 k2 (by decide) hb (divN_near (by omega)) ?_ h)
    omega
theorem he3_all {M y ys p K : Int} {T : Nat} (hM : 100 ≤ M) (pp : 0 < p) (hK : K = p * M) (hT : ilTT M = ((T + 2 : Nat) : Int)) (hT2 : T + 2 ≤ 25) (hys : -p ≤ 2 * (y - p * ys) ∧ 2 * (y - p * ys) ≤ p) (hyb : -M ≤ 100 * ys ∧ 100 * ys ≤ M) (hb : -(40 * K) ≤ 10000 * y ∧ 10000 * y ≤ 40 * K) : HE3 M y K 10000 15081 (ilogW M ys) (clT (T + 2)) := by
  unfold ilogW clT
  rw [hT]
  have e2 : (((T + 2 : Nat) : Int) - 1 - 0).toNat = T + 1 := by omega
  have e3 : T + 2 - 1 = T + 1 := by omega
  rw [e2, e3, downKs_snoc, List.foldl_append, List.foldl_append]
  have hs := he3_start (M := M) (y := y) (K := K) (N := 10000) (e := 20081) (T := ((T + 2 : Nat) : Int)) hM (by omega) (by omega) (by omega) (by omega)
  have hf := he3_fold hM pp hK hys hyb hb (downKs ((T + 2 : Nat) - 1) T) _ _ (fun k hk => by have := mem_down hk; omega) hs
  have u := unit_one M
  exact he3_step (u2 := 0) (k := 1) (b := 40) hM pp hK hys hyb (by omega) (by omega) (by decide) hb ⟨by omega, by omega⟩ (by omega) hf
structure G3 (M : Int) (T : Nat) : Prop where
  M0 : 1000 ≤ M
  M1 : M ≤ 10 ^ 13
  hT : ilTT M = ((T + 2 : Nat) : Int)
  T2 : T + 2 ≤ 24
  sp : clT 25 = clT (T + 2) ++ (clT 25).drop (T + 2)
  ln : (clT (T + 2)).length = T + 2
  eps : 1024 * (asum ((clT 25).drop (T + 2)) * M) ≤ 256 ^ (T + 3) * Q25
def tT3 (k : Nat) : Nat := (10 * (k + 4) + 23) / 24 - 2
theorem g3_tab : ∀ k : Fin 11, ilTT (10 ^ (k.val + 3)) = ((tT3 k.val + 2 : Nat) : Int) ∧ tT3 k.val + 2 ≤ 24 ∧ clT 25 = clT (tT3 k.val + 2) ++ (clT 25).drop (tT3 k.val + 2) ∧ (clT (tT3 k.val + 2)).length = tT3 k.val + 2 ∧
   1024 * (asum ((clT 25).drop (tT3 k.val + 2)) * 10 ^ (k.val + 3)) ≤ 256 ^ (tT3 k.val + 3) * Q25 := by decide +kernel
theorem g3 {q : Int} (h0 : 3 ≤ q) (h1 : q ≤ 13) : ∃ T, G3 (10 ^ q.toNat) T := by
  obtain ⟨m, hm⟩ := Int.eq_ofNat_of_zero_le (by omega : 0 ≤ q - 3)
  have h := g3_tab ⟨m, by omega⟩
  have e2 : q.toNat = m + 3 := by omega
  rw [e2]
  obtain ⟨a1, a2, a3, a4, a5⟩ := h
  refine ⟨tT3 m, ?_, ten_le (by omega), a1, a2, a3, a4, a5⟩
  have := ten_le (a := 3) (b := m + 3) (by omega)
  exact this
/-- the integer logarithm against the form -/
theorem d_near {x M y : Int} {r T : Nat} (P : ilPre x M) (E : End3 x M y r) (G : G3 M T) :
    -(8 * (Q25 * (2 ^ r * M) ^ 24)) ≤ ilogN x M * (Q25 * (2 ^ r * M) ^ 24) - phi y (2 ^ r * M) ∧ ilogN x M * (Q25 * (2 ^ r * M) ^ 24) - phi y (2 ^ r * M) ≤ 8 * (Q25 * (2 ^ r * M) ^ 24) := by
  have hys := ys_bound P E.j E.t
  have hts := ilT_stop E.j.R0 E.t
  have hR : ((r : Nat) : Int).toNat = r := by omega
  rw [hR] at hts
  have pp := pow2_pos r
  have nr := divN_near (a := y) pp
  have ers : rshN y (r : Nat) = divN y (2 ^ r) := by rw [rshN_div, hR]
  rw [← ers] at nr
  have p10 : (2 : Int) ^ r ≤ 1024 := by
    have e1 : ((2 ^ r : Nat) : Int) = (2 : Int) ^ r := Int.natCast_pow 2 _
    rw [← e1]
    have : (2 : Nat) ^ r ≤ 2 ^ 10 := Nat.pow_le_pow_right (by omega) E.r10
    omega
  have eD : ilogN x M = divN (ilogW M (rshN y r) * y) M := by unfold ilogN; rw [E.el]
  have hD := divN_near (a := ilogW M (rshN y r) * y) (b := M) (by have := P.M0; omega)
  rw [← eD] at hD
  generalize ilogN x M = D at *
  obtain ⟨M0, M1, hT, T2, sp, ln, eps⟩ := G
  have hM : 0 < M := by omega
  have pM : (2 : Int) ^ r * M ≤ 1024 * M := Int.mul_le_mul_of_nonneg_right p10 (by omega)
  have hK0 : 0 < (2 : Int) ^ r * M := Int.mul_pos pp hM
  have H := he3_all (M := M) (y := y) (ys := rshN y r) (p := 2 ^ r) (K := 2 ^ r * M) (T := T) (by omega) pp rfl hT (by omega) nr hys ⟨by omega, by omega⟩
  generalize ilogW M (rshN y r) = w at *
  clear nr hys ers eD
  generalize (2 : Int) ^ r = p at *
  generalize hKK : p * M = K at *
  obtain ⟨_, lo, hi, _⟩ := H
  rw [ln] at lo hi
  have e1 : T + 2 - 1 = T + 1 := by omega
  rw [e1] at lo hi
  have lr : ((clT 25).drop (T + 2)).length = 23 - T := by
    have : (clT 25).length = 25 := by decide +kernel
    rw [List.length_drop, this]; omega
  have hs : hv (clT 25) y K = hv (clT (T + 2)) y K * K ^ (23 - T) + y ^ (T + 2) * hv ((clT 25).drop (T + 2)) y K := by
    conv => lhs; rw [sp]
    rw [hv_append, ln, lr]
  have hb := hv_bound (d := y) (M := K) (by omega) ⟨by omega, by omega⟩ ((clT 25).drop (T + 2))
  rw [lr] at hb
  have ephi : phi y K = y * hv (clT 25) y K := by
    unfold phi
    show 0 * K ^ _ + y * hv (clT 25) y K = _
    rw [Int.zero_mul, Int.zero_add]
  rw [ephi, hs]
  have pn := apow (a := 256 * y) (B := K) ⟨by omega, by omega⟩ (T + 3)
  rw [Int.mul_pow] at pn
  have pw : (K : Int) ^ 24 = K ^ (T + 1) * K ^ (23 - T) := by rw [← Int.pow_add]; congr 1; omega
  have pw2 : (K : Int) ^ (T + 3) * K ^ (23 - T) = K ^ 24 * (K * K) := by
    have : (K : Int) * K = K ^ 2 := by rw [Int.pow_succ, Int.pow_succ, Int.pow_zero, Int.one_mul]
    rw [this, ← Int.pow_add, ← Int.pow_add]; congr 1; omega
  have eps0 := asum_nonneg ((clT 25).drop (T + 2))
  have tl := absmul pn hb
  have pN : (0 : Int) < 256 ^ (T + 3) := Int.pow_pos (by decide)
  have tail : -(Q25 * K ^ 24) ≤ y ^ (T + 3) * hv ((clT 25).drop (T + 2)) y K ∧ y ^ (T + 3) * hv ((clT 25).drop (T + 2)) y K ≤ Q25 * K ^ 24 := by
    have p24 : (0 : Int) < K ^ 24 := Int.pow_pos hK0
    have k0 : asum ((clT 25).drop (T + 2)) * K ≤ asum ((clT 25).drop (T + 2)) * (1024 * M) := mono2 pM eps0
    have k0' : asum ((clT 25).drop (T + 2)) * (1024 * M) = 1024 * (asum ((clT 25).drop (T + 2)) * M) := by grind
    have k1 : (K * K ^ 24) * (asum ((clT 25).drop (T + 2)) * K) ≤ (K * K ^ 24) * (256 ^ (T + 3) * Q25) := mono2 (by omega) (Int.mul_nonneg (by omega) (by omega))
    have e2 : K ^ (T + 3) * (asum ((clT 25).drop (T + 2)) * K ^ (23 - T)) = (K * K ^ 24) * (asum ((clT 25).drop (T + 2)) * K) := by
      have : K ^ (T + 3) * (asum ((clT 25).drop (T + 2)) * K ^ (23 - T)) = asum ((clT 25).drop (T + 2)) * (K ^ (T + 3) * K ^ (23 - T)) := by grind
      rw [this, pw2]; grind
    rw [e2] at tl
    generalize y ^ (T + 3) = dt at *
    generalize hv ((clT 25).drop (T + 2)) y K = v at *
    generalize (256 : Int) ^ (T + 3) = N at *
    generalize (K : Int) ^ 24 = m at *
    generalize (K * m) * (asum ((clT 25).drop (T + 2)) * K) = z at *
    have e3 : N * dt * (K * v) = (N * K) * (dt * v) := by grind
    have e4 : (K * m) * (N * Q25) = (N * K) * (Q25 * m) := by grind
    have NM : 0 < N * K := Int.mul_pos pN hK0
    rw [e3] at tl
    rw [e4] at k1
    constructor
    · refine Int.le_of_mul_le_mul_left (a := N * K) ?_ NM
      have e5 : (N * K) * -(Q25 * m) = -((N * K) * (Q25 * m)) := by grind
      rw [e5]; omega
    · refine Int.le_of_mul_le_mul_left (a := N * K) ?_ NM
      omega
  have eT : y * (hv (clT (T + 2)) y K * K ^ (23 - T) + y ^ (T + 2) * hv ((clT 25).drop (T + 2)) y K) = (y * hv (clT (T + 2)) y K) * K ^ (23 - T) + y ^ (T + 3) * hv ((clT 25).drop (T + 2)) y K := by
    have : y ^ (T + 3) = y ^ (T + 2) * y := Int.pow_succ ..
    rw [this]; grind
  rw [eT]
  generalize y ^ (T + 3) * hv ((clT 25).drop (T + 2)) y K = t at *
  clear eT tl pn hb eps hs sp pw2 eps0 lr ln hT pN ephi
  generalize hv (clT (T + 2)) y K = h at *
  rw [pw] at *
  have pp1 : (0 : Int) < K ^ (T + 1) := Int.pow_pos hK0
  have pr : (0 : Int) < K ^ (23 - T) := Int.pow_pos hK0
  generalize K ^ (T + 1) = A at *
  generalize K ^ (23 - T) = R at *
  have pQ : 0 < Q25 := by decide
  generalize Q25 = Q at *
  have QA : 0 < Q * A := Int.mul_pos pQ pp1
  have y4 : -(4 * M) ≤ y ∧ y ≤ 4 * M := ⟨by omega, by omega⟩
  have dm := absmul y4 ⟨lo, hi⟩
  have t1 : (Q * A) * (-M) ≤ (Q * A) * (2 * (w * y - M * D)) := mono2 hD.1 (by omega)
  have t2 : (Q * A) * (2 * (w * y - M * D)) ≤ (Q * A) * M := mono2 hD.2 (by omega)
  have X : M * (20000 * (D * (Q * A) - y * h)) = -(10000 * ((Q * A) * (2 * (w * y - M * D)))) + 2 * (y * (10000 * (w * (Q * A) - M * h))) := by grind
  have hY : -(130648 * (Q * A)) ≤ 20000 * (D * (Q * A) - y * h) ∧ 20000 * (D * (Q * A) - y * h) ≤ 130648 * (Q * A) := by
    generalize D * (Q * A) - y * h = Y at *
    have i3 : 4 * M * (15081 * (Q * A)) = 60324 * (M * (Q * A)) := by grind
    have i4 : (Q * A) * M = M * (Q * A) := Int.mul_comm _ _
    have i5 : (Q * A) * -M = -(M * (Q * A)) := by grind
    rw [i3] at dm
    rw [i4] at t2
    rw [i5] at t1
    generalize y * (10000 * (w * (Q * A) - M * h)) = a at *
    generalize (Q * A) * (2 * (w * y - M * D)) = b at *
    constructor
    · refine Int.le_of_mul_le_mul_left (a := M) ?_ hM
      have j1 : M * -(130648 * (Q * A)) = -(130648 * (M * (Q * A))) := by grind
      rw [j1, X]; omega
    · refine Int.le_of_mul_le_mul_left (a := M) ?_ hM
      have j1 : M * (130648 * (Q * A)) = 130648 * (M * (Q * A)) := by grind
      rw [j1, X]; omega
  have r1 : R * (-(130648 * (Q * A))) ≤ R * (20000 * (D * (Q * A) - y * h)) := mono2 hY.1 (by omega)
  have r2 : R * (20000 * (D * (Q * A) - y * h)) ≤ R * (130648 * (Q * A)) := mono2 hY.2 (by omega)
  have s1 : R * (-(130648 * (Q * A))) = -(130648 * (Q * (A * R))) := by grind
  have s2 : R * (130648 * (Q * A)) = 130648 * (Q * (A * R)) := by grind
  have s3 : R * (20000 * (D * (Q * A) - y * h)) = 20000 * (D * (Q * (A * R)) - y * h * R) := by grind
  rw [s1, s3] at r1
  rw [s2, s3] at r2
  have z0 : 0 ≤ Q * (A * R) := Int.mul_nonneg (by omega) (Int.mul_nonneg (by omega) (by omega))
  constructor <;> omega

end
section
@[irreducible] def GG : Int := 10 ^ 100
theorem GG_pos : 0 < GG := by unfold GG; decide +kernel
theorem GG_ten : 10 ^ 31 * (nn * 80) ≤ GG := by unfold GG; decide +kernel
theorem GG_K {K : Int} (h : K ≤ 1024 * 10 ^ 13) : 10 ^ 31 * (nn * K) ≤ GG := by
  have k : 10 ^ 31 * (nn * K) ≤ 10 ^ 31 * (nn * (1024 * 10 ^ 13)) := mono2 (mono2 h (by decide)) (by decide +kernel)
  have : 10 ^ 31 * (nn * (1024 * 10 ^ 13)) ≤ GG := by unfold GG; decide +kernel
  omega
theorem GG_big {K : Int} (h : K ≤ 1024 * 10 ^ 13) : 10 ^ 40 * K ≤ GG := by
  have k : (10 : Int) ^ 40 * K ≤ 10 ^ 40 * (1024 * 10 ^ 13) := mono2 h (by decide +kernel)
  have : (10 : Int) ^ 40 * (1024 * 10 ^ 13) ≤ GG := by unfold GG; decide +kernel
  omega
theorem f_small : ∀ r : Fin 11, 10 * ((8 * (r.val : Int)) * (8 * (r.val : Int))) ≤ 1000 * 2 ^ r.val ∧ 100 * (8 * (r.val : Int)) ≤ 1000 * 2 ^ r.val ∧ (2 : Int) ^ r.val ≤ 1024 := by decide +kernel
/-- V K >= G (D - 9) -/
theorem v_bound {G K V D ph : Int} (hG : 0 < G) (hK : 0 < K) (hK2 : K ≤ 1024 * 10 ^ 13) (hb : 10 ^ 29 * (G * ph - V * (Q25 * K ^ 25)) ≤ G * (Q25 * K ^ 25)) (hd : D * (Q25 * K ^ 24) - ph ≤ 8 * (Q25 * K ^ 24)) : G * (D - 9) ≤ V * K := by
  have p24 : 0 < Q25 * K ^ 24 := Int.mul_pos (by decide) (Int.pow_pos hK)
  have e25 : Q25 * K ^ 25 = (Q25 * K ^ 24) * K := by rw [Int.pow_succ]; grind
  rw [e25] at hb
  generalize Q25 * K ^ 24 = W at *
  have a1 : G * (D * W - ph) ≤ G * (8 * W) := mono2 hd (by omega)
  have a2 : (G * W) * K ≤ (G * W) * (1024 * 10 ^ 13) := mono2 hK2 (Int.mul_nonneg (by omega) (by omega))
  have c : (1024 : Int) * 10 ^ 13 ≤ 10 ^ 29 := by decide +kernel
  have a3 : (G * W) * (1024 * 10 ^ 13) ≤ (G * W) * 10 ^ 29 := mono2 c (Int.mul_nonneg (by omega) (by omega))
  refine Int.le_of_mul_le_mul_left (a := 10 ^ 29 * W) ?_ (Int.mul_pos (by decide +kernel) p24)
  have e1 : 10 ^ 29 * (G * ph - V * (W * K)) = 10 ^ 29 * (G * ph) - 10 ^ 29 * W * (V * K) := by grind
  have e2 : G * (W * K) = (G * W) * K := by grind
  have e3 : 10 ^ 29 * W * (G * (D - 9)) = 10 ^ 29 * (G * (D * W)) - 9 * ((G * W) * 10 ^ 29) := by grind
  have e4 : G * (D * W - ph) = G * (D * W) - G * ph := by grind
  have e5 : G * (8 * W) = 8 * (G * W) := by grind
  rw [e1, e2] at hb
  rw [e4, e5] at a1
  have a4 : (10 : Int) ^ 29 * (G * (D * W) - G * ph) ≤ 10 ^ 29 * (8 * (G * W)) := mono2 a1 (by decide +kernel)
  have e6 : (10 : Int) ^ 29 * (G * (D * W) - G * ph) = 10 ^ 29 * (G * (D * W)) - 10 ^ 29 * (G * ph) := by grind
  have e7 : (10 : Int) ^ 29 * (8 * (G * W)) = 8 * ((G * W) * 10 ^ 29) := by grind
  rw [e6, e7] at a4
  rw [e3]
  omega
theorem x_lo {x M : Int} {T : Nat} (P : ilPre x M) (G3' : G3 M T) : ∃ I J : Nat, GP GG x M I J ∧ GG * (ilogN x M - 90) ≤ M * ((I : Int) - J) := by
  obtain ⟨y, r, E⟩ := end3 P G3'.M0
  have hd := d_near P E G3'
  have M0 := G3'.M0; have M1 := G3'.M1
  have hts := ilT_stop E.j.R0 E.t
  have hR : ((r : Nat) : Int).toNat = r := by omega
  rw [hR] at hts
  have pp := pow2_pos r
  obtain ⟨f1, f2, f3⟩ := f_small ⟨r, by have := E.r10; omega⟩
  have f1 : 10 * ((8 * (r : Int)) * (8 * (r : Int))) ≤ 1000 * 2 ^ r := f1
  have f2 : 100 * (8 * (r : Int)) ≤ 1000 * 2 ^ r := f2
  have f3 : (2 : Int) ^ r ≤ 1024 := f3
  have kM : (2 : Int) ^ r * 1000 ≤ 2 ^ r * M := mono2 M0 (by omega)
  have kM2 : (2 : Int) ^ r * M ≤ 1024 * 10 ^ 13 := mul_lo (by omega) (by omega) f3 M1
  have F80 : 8 * (r : Int) ≤ 80 := by have := E.r10; omega
  have F0 : 0 ≤ 8 * (r : Int) := by omega
  have hlo := E.lo
  unfold LowF at hlo
  have epp : ((2 ^ r : Nat) : Int) = (2 : Int) ^ r := Int.natCast_pow 2 _
  generalize hp : (2 ^ r : Nat) = p at *
  rw [← epp] at hd hts kM kM2 f1 f2 f3 hlo pp
  clear epp
  generalize hF : 8 * (r : Int) = F at *
  generalize hK : (p : Int) * M = K at *
  have hK0 : 0 < K := by omega
  have hG := GG_pos
  have gK := GG_big kM2
  obtain ⟨i, j, g1, b1⟩ := ln_low (G := GG) (K := K) (d := y) hK0 (GG_K kM2) ⟨by omega, by omega⟩
  have vb := v_bound (V := (i : Int) - j) hG hK0 kM2 b1 hd.2
  -- the small ratio
  have f := Int.mul_ediv_add_emod (GG * F) (K - F)
  have f4 := Int.emod_nonneg (GG * F) (b := K - F) (by omega)
  have f5 := Int.emod_lt_of_pos (GG * F) (b := K - F) (by omega)
  have GF0 : 0 ≤ GG * F := Int.mul_nonneg (by omega) F0
  have t0 : 0 ≤ GG * F / (K - F) + 1 := by have := Int.ediv_nonneg GF0 (b := K - F) (by omega); omega
  obtain ⟨j2, hj2⟩ := Int.eq_ofNat_of_zero_le t0
  have hj2' : GG * F / (K - F) = j2 - 1 := by omega
  rw [hj2'] at f
  have ej : (K - F) * ((j2 : Int) - 1) = (K - F) * j2 - (K - F) := by grind
  rw [ej] at f
  generalize GG * F % (K - F) = rr at *
  have g2 : GP GG (K - F) (K - F + F) 0 j2 := GP.small hG (by omega) (by
    have : (j2 : Int) * (K - F) = (K - F) * j2 := Int.mul_comm _ _
    omega)
  have eKF : K - F + F = K := by omega
  rw [eKF] at g2
  have g3 := GP.mul hG (by omega) (by omega) g1 g2
  have g4 := GP.pow hG (Int.mul_nonneg (by omega) (by omega)) (Int.mul_nonneg (by omega) (by omega)) g3 p
  have g5 : GP GG x M (p * (i + 0)) (p * (j + j2)) := GP.mono hG (by omega) (Int.pow_pos (Int.mul_pos hK0 hK0)) g4 (by
    have : ((K + y) * (K - F)) ^ p * M = M * ((K + y) * (K - F)) ^ p := Int.mul_comm _ _
    omega)
  refine ⟨_, _, g5, ?_⟩
  -- j2 K <= G (F + 1)
  have jb : (j2 : Int) * K ≤ GG * (F + 1) := by
    refine Int.le_of_mul_le_mul_left (a := K - F) ?_ (by omega)
    have h1 : (K - F) * (j2 : Int) ≤ GG * F + (K - F) := by omega
    have h2 : K * ((K - F) * (j2 : Int)) ≤ K * (GG * F + (K - F)) := mono2 h1 (by omega)
    have h3 : GG * (10 * (F * F)) ≤ GG * K := mono2 (by omega) (by omega)
    have h4 : GG * (100 * F) ≤ GG * K := mono2 (by omega) (by omega)
    have h5 : K * (10 ^ 40 * K) ≤ K * GG := mono2 gK (by omega)
    have c40 : (1000 : Int) ≤ 10 ^ 40 := by decide +kernel
    have h6 : (K * K) * 1000 ≤ (K * K) * 10 ^ 40 := mono2 c40 (Int.mul_nonneg (by omega) (by omega))
    have e1 : (K - F) * ((j2 : Int) * K) = K * ((K - F) * (j2 : Int)) := by grind
    have e2 : K * (GG * F + (K - F)) = GG * F * K + K * K - K * F := by grind
    have e3 : (K - F) * (GG * (F + 1)) = GG * F * K + GG * K - GG * (F * F) - GG * F := by grind
    have e4 : GG * (10 * (F * F)) = 10 * (GG * (F * F)) := by grind
    have e5 : GG * (100 * F) = 100 * (GG * F) := by grind
    have e6 : K * (10 ^ 40 * K) = (K * K) * 10 ^ 40 := by grind
    have e7 : K * GG = GG * K := Int.mul_comm _ _
    have e8 : 0 ≤ K * F := Int.mul_nonneg (by omega) F0
    have e9 : 0 ≤ K * K := Int.mul_nonneg (by omega) (by omega)
    rw [e1, e3]
    omega
  have eI : M * (((p * (i + 0) : Nat) : Int) - ((p * (j + j2) : Nat) : Int)) = ((i : Int) - j) * K - j2 * K := by
    rw [← hK]
    have a : ((p * (i + 0) : Nat) : Int) = p * i := by simp
    have b : ((p * (j + j2) : Nat) : Int) = p * (j + j2) := by simp
    rw [a, b]; grind
  rw [eI]
  have k1 : GG * F ≤ GG * 80 := mono2 F80 (by omega)
  have e1 : GG * (F + 1) = GG * F + GG := by grind
  have e2 : GG * (ilogN x M - 90) = GG * (ilogN x M - 9) - 81 * GG := by grind
  rw [e2]
  omega
theorem x_hi {x M : Int} {T : Nat} (P : ilPre x M) (G3' : G3 M T) : ∃ I J : Nat, GP GG M x I J ∧ GG * (-ilogN x M - 90) ≤ M * ((I : Int) - J) := by
  obtain ⟨y, r, E⟩ := end3 P G3'.M0
  have hd := d_near P E G3'
  have M0 := G3'.M0; have M1 := G3'.M1
  have hts := ilT_stop E.j.R0 E.t
  have hR : ((r : Nat) : Int).toNat = r := by omega
  rw [hR] at hts
  have pp := pow2_pos r
  obtain ⟨f1, f2, f3⟩ := f_small ⟨r, by have := E.r10; omega⟩
  have f3 : (2 : Int) ^ r ≤ 1024 := f3
  have kM : (2 : Int) ^ r * 1000 ≤ 2 ^ r * M := mono2 M0 (by omega)
  have kM2 : (2 : Int) ^ r * M ≤ 1024 * 10 ^ 13 := mul_lo (by omega) (by omega) f3 M1
  have F80 : 8 * (r : Int) ≤ 80 := by have := E.r10; omega
  have F0 : 0 ≤ 8 * (r : Int) := by omega
  have hhi := E.hi
  unfold UppF at hhi
  have hlo := P.lo
  have epp : ((2 ^ r : Nat) : Int) = (2 : Int) ^ r := Int.natCast_pow 2 _
  clear f1 f2
  generalize hp : (2 ^ r : Nat) = p at *
  rw [← epp] at hd hts kM kM2 f3 hhi pp
  clear epp
  generalize hF : 8 * (r : Int) = F at *
  generalize hK : (p : Int) * M = K at *
  have hK0 : 0 < K := by omega
  have hG := GG_pos
  have gK := GG_big kM2
  obtain ⟨i, j, g1, b1⟩ := ln_high (G := GG) (K := K) (d := y) hK0 (GG_K kM2) ⟨by omega, by omega⟩
  have vb := v_bound (V := (i : Int) - j) (D := -ilogN x M) (ph := -phi y K) hG hK0 kM2 (by
    have : GG * -phi y K = -(GG * phi y K) := by grind
    rw [this]; exact b1) (by
    have : -ilogN x M * (Q25 * K ^ 24) = -(ilogN x M * (Q25 * K ^ 24)) := by grind
    rw [this]; omega)
  have f := Int.mul_ediv_add_emod (GG * F) K
  have f4 := Int.emod_nonneg (GG * F) (b := K) (by omega)
  have f5 := Int.emod_lt_of_pos (GG * F) (b := K) (by omega)
  have GF0 : 0 ≤ GG * F := Int.mul_nonneg (by omega) F0
  have t0 : 0 ≤ GG * F / K + 1 := by have := Int.ediv_nonneg GF0 (b := K) (by omega); omega
  obtain ⟨j2, hj2⟩ := Int.eq_ofNat_of_zero_le t0
  have hj2' : GG * F / K = j2 - 1 := by omega
  rw [hj2'] at f
  have ej : K * ((j2 : Int) - 1) = K * j2 - K := by grind
  rw [ej] at f
  generalize GG * F % K = rr at *
  have eKj : (j2 : Int) * K = K * j2 := Int.mul_comm _ _
  have g2 : GP GG K (K + F) 0 j2 := GP.small hG (by omega) (by omega)
  have g3 := GP.mul hG (by omega) (by omega) g1 g2
  have g4 := GP.pow hG (Int.mul_nonneg (by omega) (by omega)) (Int.mul_nonneg (by omega) (by omega)) g3 p
  have g5 : GP GG M x (p * (i + 0)) (p * (j + j2)) := GP.mono hG (by omega) (Int.pow_pos (Int.mul_pos (by omega) (by omega))) g4 (by
    have : (K * K) ^ p * x = x * (K * K) ^ p := Int.mul_comm _ _
    omega)
  refine ⟨_, _, g5, ?_⟩
  have c40 : (1000 : Int) ≤ 10 ^ 40 := by decide +kernel
  have h6 : K * 1000 ≤ K * 10 ^ 40 := mono2 c40 (by omega)
  have e6 : K * 10 ^ 40 = 10 ^ 40 * K := Int.mul_comm _ _
  have eI : M * (((p * (i + 0) : Nat) : Int) - ((p * (j + j2) : Nat) : Int)) = ((i : Int) - j) * K - j2 * K := by
    rw [← hK]
    have a : ((p * (i + 0) : Nat) : Int) = p * i := by simp
    have b : ((p * (j + j2) : Nat) : Int) = p * (j + j2) := by simp
    rw [a, b]; grind
  rw [eI]
  have k1 : GG * F ≤ GG * 80 := mono2 F80 (by omega)
  have e2 : GG * (-ilogN x M - 90) = GG * (-ilogN x M - 9) - 81 * GG := by grind
  rw [e2]
  omega

end
section
/-- from x to c: (2 x - 1) 10^l <= 2 c M <= (2 x + 1) 10^l -/
theorem c_lo {x M c B : Int} {T : Nat} (P : ilPre x M) (G3' : G3 M T) (hB : 0 < B) (h : (2 * x - 1) * B ≤ 2 * c * M) : ∃ I J : Nat, GP GG c B I J ∧ GG * (ilogN x M - 96) ≤ M * ((I : Int) - J) := by
  obtain ⟨I, J, g, hb⟩ := x_lo P G3'
  have M0 := G3'.M0; have M1 := G3'.M1
  have hlo := P.lo
  have hG := GG_pos
  have x0 : 0 < x := by omega
  have f := Int.mul_ediv_add_emod GG (2 * x - 1)
  have f4 := Int.emod_nonneg GG (b := 2 * x - 1) (by omega)
  have f5 := Int.emod_lt_of_pos GG (b := 2 * x - 1) (by omega)
  have t0 : 0 ≤ GG / (2 * x - 1) + 1 := by have := Int.ediv_nonneg (a := GG) (b := 2 * x - 1) (by omega) (by omega); omega
  obtain ⟨j2, hj2⟩ := Int.eq_ofNat_of_zero_le t0
  have hj2' : GG / (2 * x - 1) = j2 - 1 := by omega
  rw [hj2'] at f
  have ej : (2 * x - 1) * ((j2 : Int) - 1) = (2 * x - 1) * j2 - (2 * x - 1) := by grind
  rw [ej] at f
  generalize GG % (2 * x - 1) = rr at *
  have ec : (j2 : Int) * (2 * x - 1) = (2 * x - 1) * j2 := Int.mul_comm _ _
  have g2 : GP GG (2 * x - 1) (2 * x - 1 + 1) 0 j2 := GP.small hG (by omega) (by rw [Int.mul_one]; omega)
  have e1 : 2 * x - 1 + 1 = 2 * x := by omega
  rw [e1] at g2
  have g3 := GP.mul hG (by omega) (by omega) g g2
  have g4 : GP GG c B (I + 0) (J + j2) := GP.mono hG (by omega) (Int.mul_pos (by omega) (by omega)) g3 (by
    have k : x * ((2 * x - 1) * B) ≤ x * (2 * c * M) := mono2 h (by omega)
    have a1 : x * (2 * x - 1) * B = x * ((2 * x - 1) * B) := by grind
    have a2 : c * (M * (2 * x)) = x * (2 * c * M) := by grind
    omega)
  refine ⟨_, _, g4, ?_⟩
  -- M j2 <= 6 G
  have jb : M * (j2 : Int) ≤ 6 * GG := by
    have gM : 10 ^ 40 * M ≤ GG := by
      have : M ≤ 1024 * 10 ^ 13 := by
        have : (10 : Int) ^ 13 ≤ 1024 * 10 ^ 13 := by decide +kernel
        omega
      exact GG_big this
    have c40 : (1000 : Int) ≤ 10 ^ 40 := by decide +kernel
    have gM2 : M * 1000 ≤ M * 10 ^ 40 := mono2 c40 (by omega)
    have e2 : M * 10 ^ 40 = 10 ^ 40 * M := Int.mul_comm _ _
    have k1 : (j2 : Int) * (2 * M - 10) ≤ j2 * (10 * (2 * x - 1)) := mono2 (by omega) (by omega)
    have e3 : (j2 : Int) * (10 * (2 * x - 1)) = 10 * ((2 * x - 1) * j2) := by grind
    have e4 : (j2 : Int) * (2 * M - 10) = 2 * (M * j2) - 10 * j2 := by grind
    have k2 : (j2 : Int) * 1000 ≤ j2 * M := mono2 M0 (by omega)
    have e5 : (j2 : Int) * M = M * j2 := Int.mul_comm _ _
    have k3 : x ≤ 10 * M := P.hi
    omega
  have eI : M * (((I + 0 : Nat) : Int) - ((J + j2 : Nat) : Int)) = M * ((I : Int) - J) - M * j2 := by
    have a : ((I + 0 : Nat) : Int) = I := by simp
    have b : ((J + j2 : Nat) : Int) = J + j2 := by simp
    rw [a, b]; grind
  rw [eI]
  have e2 : GG * (ilogN x M - 96) = GG * (ilogN x M - 90) - 6 * GG := by grind
  rw [e2]
  omega
theorem c_hi {x M c B : Int} {T : Nat} (P : ilPre x M) (G3' : G3 M T) (hc : 0 ≤ c) (h : 2 * c * M ≤ (2 * x + 1) * B) : ∃ I J : Nat, GP GG B c I J ∧ GG * (-ilogN x M - 96) ≤ M * ((I : Int) - J) := by
  obtain ⟨I, J, g, hb⟩ := x_hi P G3'
  have M0 := G3'.M0; have M1 := G3'.M1
  have hlo := P.lo
  have hG := GG_pos
  have x0 : 0 < x := by omega
  have f := Int.mul_ediv_add_emod GG (2 * x)
  have f4 := Int.emod_nonneg GG (b := 2 * x) (by omega)
  have f5 := Int.emod_lt_of_pos GG (b := 2 * x) (by omega)
  have t0 : 0 ≤ GG / (2 * x) + 1 := by have := Int.ediv_nonneg (a := GG) (b := 2 * x) (by omega) (by omega); omega
  obtain ⟨j2, hj2⟩ := Int.eq_ofNat_of_zero_le t0
  have hj2' : GG / (2 * x) = j2 - 1 := by omega
  rw [hj2'] at f
  have ej : (2 * x) * ((j2 : Int) - 1) = (2 * x) * j2 - 2 * x := by grind
  rw [ej] at f
  generalize GG % (2 * x) = rr at *
  have ec : (j2 : Int) * (2 * x) = (2 * x) * j2 := Int.mul_comm _ _
  have g2 : GP GG (2 * x) (2 * x + 1) 0 j2 := GP.small hG (by omega) (by rw [Int.mul_one]; omega)
  have g3 := GP.mul hG (by omega) (by omega) g g2
  have g4 : GP GG B c (I + 0) (J + j2) := GP.mono hG hc (Int.mul_pos x0 (by omega)) g3 (by
    have k : x * (2 * c * M) ≤ x * ((2 * x + 1) * B) := mono2 h (by omega)
    have a1 : M * (2 * x) * c = x * (2 * c * M) := by grind
    have a2 : B * (x * (2 * x + 1)) = x * ((2 * x + 1) * B) := by grind
    omega)
  refine ⟨_, _, g4, ?_⟩
  have jb : M * (j2 : Int) ≤ 6 * GG := by
    have gM : 10 ^ 40 * M ≤ GG := by
      have : M ≤ 1024 * 10 ^ 13 := by
        have : (10 : Int) ^ 13 ≤ 1024 * 10 ^ 13 := by decide +kernel
        omega
      exact GG_big this
    have c40 : (1000 : Int) ≤ 10 ^ 40 := by decide +kernel
    have gM2 : M * 1000 ≤ M * 10 ^ 40 := mono2 c40 (by omega)
    have e2 : M * 10 ^ 40 = 10 ^ 40 * M := Int.mul_comm _ _
    have k1 : (j2 : Int) * (2 * M) ≤ j2 * (10 * (2 * x)) := mono2 (by omega) (by omega)
    have e3 : (j2 : Int) * (10 * (2 * x)) = 10 * ((2 * x) * j2) := by grind
    have e4 : (j2 : Int) * (2 * M) = 2 * (M * j2) := by grind
    have k3 : x ≤ 10 * M := P.hi
    omega
  have eI : M * (((I + 0 : Nat) : Int) - ((J + j2 : Nat) : Int)) = M * ((I : Int) - J) - M * j2 := by
    have a : ((I + 0 : Nat) : Int) = I := by simp
    have b : ((J + j2 : Nat) : Int) = J + j2 := by simp
    rw [a, b]; grind
  rw [eI]
  have e2 : GG * (-ilogN x M - 96) = GG * (-ilogN x M - 90) - 6 * GG := by grind
  rw [e2]
  omega
/-- the sum of the parts is above nought -/
theorem pos_sum {G M E LD t T pw B u w jd : Int} (hG : 0 < G) (hM : 0 < M) (hM1 : M ≤ 10 ^ 13) (hpw : 0 < pw) (h1 : G * (E - 96) ≤ M * u) (h2 : G * (-(t * L46) - T * 10 ^ 20) ≤ 10 ^ 46 * w)
    (h3 : M * (t * L46) ≤ 10 ^ 46 * (LD * t + T)) (h4 : pw * B + 2 * (LD * t) ≤ 2 * (pw * E)) (hT0 : 0 ≤ T) (hT : T ≤ 5 * pw) (hj : G * (pw * (203 - B)) ≤ 2 * (M * jd)) : 0 < pw * u + w + jd := by
  refine Int.not_le.mp fun hle => ?_
  have c46 : (0 : Int) < 10 ^ 46 := by decide +kernel
  have a0 : (2 * (10 ^ 46 * M)) * (pw * u + w + jd) ≤ (2 * (10 ^ 46 * M)) * 0 := mono2 hle (by
    have := Int.mul_pos c46 hM
    omega)
  have a1 : (2 * (10 ^ 46 * pw)) * (G * (E - 96)) ≤ (2 * (10 ^ 46 * pw)) * (M * u) := mono2 h1 (by
    have := Int.mul_pos c46 hpw
    omega)
  have a2 : (2 * M) * (G * (-(t * L46) - T * 10 ^ 20)) ≤ (2 * M) * (10 ^ 46 * w) := mono2 h2 (by omega)
  have a3 : (2 * G) * (M * (t * L46)) ≤ (2 * G) * (10 ^ 46 * (LD * t + T)) := mono2 h3 (by omega)
  have a4 : (10 ^ 46 * G) * (pw * B + 2 * (LD * t)) ≤ (10 ^ 46 * G) * (2 * (pw * E)) := mono2 h4 (by
    have := Int.mul_pos c46 hG
    omega)
  have a5 : (2 * (10 ^ 46 * G)) * T ≤ (2 * (10 ^ 46 * G)) * (5 * pw) := mono2 hT (by
    have := Int.mul_pos c46 hG
    omega)
  have a6 : (2 * (G * (M * 10 ^ 20))) * T ≤ (2 * (G * (M * 10 ^ 20))) * (5 * pw) := mono2 hT (by
    have : (0 : Int) < 10 ^ 20 := by decide
    have := Int.mul_pos hG (Int.mul_pos hM this)
    omega)
  have a7 : (10 * (G * pw) * 10 ^ 20) * M ≤ (10 * (G * pw) * 10 ^ 20) * 10 ^ 13 := mono2 hM1 (Int.mul_nonneg (by
    have := Int.mul_pos hG hpw
    omega) (by decide))
  have c1 : (10 : Int) * 10 ^ 20 * 10 ^ 13 < 10 ^ 46 := by decide +kernel
  have Gp := Int.mul_pos hG hpw
  have a8 : (G * pw) * (10 * 10 ^ 20 * 10 ^ 13) < (G * pw) * 10 ^ 46 := Int.mul_lt_mul_of_pos_left c1 Gp
  have a9 : (10 : Int) ^ 46 * (G * (pw * (203 - B))) ≤ 10 ^ 46 * (2 * (M * jd)) := mono2 hj (by omega)
  have e0 : (2 * (10 ^ 46 * M)) * (pw * u + w + jd) = (2 * (10 ^ 46 * pw)) * (M * u) + (2 * M) * (10 ^ 46 * w) + 10 ^ 46 * (2 * (M * jd)) := by grind
  have e1 : (2 * (10 ^ 46 * pw)) * (G * (E - 96)) = (10 ^ 46 * G) * (2 * (pw * E)) - 192 * ((G * pw) * 10 ^ 46) := by grind
  have e2 : (2 * M) * (G * (-(t * L46) - T * 10 ^ 20)) = -((2 * G) * (M * (t * L46))) - (2 * (G * (M * 10 ^ 20))) * T := by grind
  have e3 : (2 * G) * (10 ^ 46 * (LD * t + T)) = (10 ^ 46 * G) * (2 * (LD * t)) + (2 * (10 ^ 46 * G)) * T := by grind
  have e4 : (10 ^ 46 * G) * (pw * B + 2 * (LD * t)) = (10 ^ 46 * G) * (pw * B) + (10 ^ 46 * G) * (2 * (LD * t)) := by grind
  have e5 : (2 * (10 ^ 46 * G)) * (5 * pw) = 10 * ((G * pw) * 10 ^ 46) := by grind
  have e6 : (2 * (G * (M * 10 ^ 20))) * (5 * pw) = (10 * (G * pw) * 10 ^ 20) * M := by grind
  have e7 : (10 * (G * pw) * 10 ^ 20) * 10 ^ 13 = (G * pw) * (10 * 10 ^ 20 * 10 ^ 13) := by grind
  have e8 : (10 : Int) ^ 46 * (G * (pw * (203 - B))) = 203 * ((G * pw) * 10 ^ 46) - (10 ^ 46 * G) * (pw * B) := by grind
  rw [e0, Int.mul_zero] at a0
  rw [e1] at a1
  rw [e2] at a2
  rw [e3] at a3
  rw [e4] at a4
  rw [e5] at a5
  rw [e6] at a6
  rw [e7] at a7
  rw [e8] at a9
  omega
/-- the figures of the logarithm of ten -/
structure T3 (M LD : Int) : Prop where
  t0 : 10 ^ 46 * LD ≤ M * L46
  t1 : M * L46 ≤ 10 ^ 46 * (LD + 1)
  l0 : 2302 * M ≤ 1000 * LD
  l1 : 1000 * LD ≤ 2303 * M
theorem t3_tab : ∀ k : Fin 11, 10 ^ 46 * log10D ((k.val + 3 : Nat) : Int) ≤ 10 ^ (k.val + 3) * L46 ∧ 10 ^ (k.val + 3) * L46 ≤ 10 ^ 46 * (log10D ((k.val + 3 : Nat) : Int) + 1) ∧ 2302 * 10 ^ (k.val + 3) ≤ 1000 * log10D ((k.val + 3 : Nat) : Int) ∧ 1000 * log10D ((k.val + 3 : Nat) : Int) ≤ 2303 * 10 ^ (k.val + 3) := by decide +kernel
theorem t3 {q : Int} (h0 : 3 ≤ q) (h1 : q ≤ 13) : T3 (10 ^ q.toNat) (log10D q) := by
  obtain ⟨m, hm⟩ := Int.eq_ofNat_of_zero_le (by omega : 0 ≤ q - 3)
  have h := t3_tab ⟨m, by omega⟩
  have e2 : q.toNat = m + 3 := by omega
  have e4 : q = ((m + 3 : Nat) : Int) := by omega
  rw [e2]
  have e5 : log10D q = log10D ((m + 3 : Nat) : Int) := by rw [← e4]
  rw [e5]
  obtain ⟨a1, a2, a3, a4⟩ := h
  exact ⟨a1, a2, a3, a4⟩
theorem T3.mul {M LD t : Int} (h : T3 M LD) : M * (t * L46) ≤ 10 ^ 46 * (LD * t + t.natAbs) ∧ 10 ^ 46 * (LD * t - t.natAbs) ≤ M * (t * L46) := by
  obtain ⟨t0, t1, _, _⟩ := h
  have c46 : (0 : Int) < 10 ^ 46 := by decide +kernel
  have e0 : M * (t * L46) = t * (M * L46) := by grind
  rw [e0]
  rcases Int.le_total 0 t with c | c
  · have a1 : t * (M * L46) ≤ t * (10 ^ 46 * (LD + 1)) := mono2 t1 c
    have a2 : t * (10 ^ 46 * LD) ≤ t * (M * L46) := mono2 t0 c
    have ea : (t.natAbs : Int) = t := by omega
    rw [ea]
    have e1 : t * (10 ^ 46 * (LD + 1)) = 10 ^ 46 * (LD * t + t) := by grind
    have e2 : t * (10 ^ 46 * LD) = 10 ^ 46 * (LD * t - t) + 10 ^ 46 * t := by grind
    have : 0 ≤ 10 ^ 46 * t := Int.mul_nonneg (by omega) c
    omega
  · have a1 : (-t) * (M * L46) ≤ (-t) * (10 ^ 46 * (LD + 1)) := mono2 t1 (by omega)
    have a2 : (-t) * (10 ^ 46 * LD) ≤ (-t) * (M * L46) := mono2 t0 (by omega)
    have ea : (t.natAbs : Int) = -t := by omega
    rw [ea]
    have e1 : (-t) * (10 ^ 46 * (LD + 1)) = -(10 ^ 46 * (LD * t - -t)) := by grind
    have e2 : (-t) * (10 ^ 46 * LD) = -(10 ^ 46 * (LD * t + -t)) - 10 ^ 46 * t := by grind
    have e3 : (-t) * (M * L46) = -(t * (M * L46)) := by grind
    have : 10 ^ 46 * t ≤ 0 := Int.mul_nonpos_of_nonneg_of_nonpos (by omega) c
    omega

end
section
theorem one_pow' : ∀ (n : Nat), (1 : Int) ^ n = 1
  | 0 => by rw [Int.pow_zero]
  | n + 1 => by rw [Int.pow_succ, one_pow' n, Int.mul_one]
theorem e_tens {G t L z T t1 t2 : Int} (hT : T = t1 + t2) (ht : t = t1 - t2) : G * (-(t * L) - T * z) = t2 * (G * (L - z)) + t1 * (G * -(L + z)) := by
  subst hT; subst ht; grind
theorem e_sum {w t1 t2 a b : Int} : w * (t2 * a + t1 * b) = t2 * (w * a) + t1 * (w * b) := by grind
/-- the powers compared -/
theorem key {c B M LD D t a' b' Bc : Int} {pw I J jd : Nat} (hc : 0 < c) (hB : 0 < B) (ha : 0 < a') (hb' : 0 < b') (hM : 0 < M) (hM1 : M ≤ 10 ^ 13) (hpw : 0 < pw) (g : GP GG c B I J) (hb : GG * (D - 96) ≤ M * ((I : Int) - J)) (T : T3 M LD)
    (ht : (t.natAbs : Int) ≤ 5 * pw) (gd : GP GG a' b' jd 0) (hj : GG * ((pw : Int) * (203 - Bc)) ≤ 2 * (M * jd)) (h4 : (pw : Int) * Bc + 2 * (LD * t) ≤ 2 * (pw * D)) : B ^ pw * 10 ^ t.toNat * b' < c ^ pw * 10 ^ (-t).toNat * a' := by
  have hG := GG_pos
  obtain ⟨ai, aj, ga, ba⟩ := ten_lo GG_ten
  obtain ⟨bi, bj, gb, bb⟩ := ten_hi GG_ten
  have g1 := GP.pow hG (by omega) (by omega) g pw
  have g2 := GP.pow hG (by decide) (by decide) ga (-t).toNat
  have g3 := GP.pow hG (by decide) (by decide) gb t.toNat
  rw [one_pow'] at g2 g3
  have cp : 0 < c ^ pw := Int.pow_pos hc
  have Bp : 0 < B ^ pw := Int.pow_pos hB
  have p1 := ten_pos (-t).toNat
  have p2 := ten_pos t.toNat
  have g12 := GP.mul hG (by omega) (by omega) g1 g2
  have g123 := GP.mul hG (by omega) (by omega) g12 g3
  have gall := GP.mul hG (Int.mul_nonneg (by omega) (by omega)) (by omega) g123 gd
  rw [Int.mul_one, Int.mul_one] at gall
  refine GP.gt hG (Int.mul_pos (Int.mul_pos Bp p2) hb') gall ?_
  -- the exponents
  have tA : ((t.natAbs : Nat) : Int) = (t.toNat : Int) + ((-t).toNat : Int) := by omega
  have tt : t = (t.toNat : Int) - ((-t).toNat : Int) := by omega
  have h3 := (T.mul (t := t)).1
  generalize hn1 : t.toNat = t1 at *
  generalize hn2 : (-t).toNat = t2 at *
  have h2 : GG * (-(t * L46) - ((t.natAbs : Nat) : Int) * 10 ^ 20) ≤ 10 ^ 46 * ((t2 : Int) * ((ai : Int) - aj) + t1 * ((bi : Int) - bj)) := by
    have k1 : (t2 : Int) * (GG * (L46 - 10 ^ 20)) ≤ t2 * (10 ^ 46 * ((ai : Int) - aj)) := mono2 ba (by omega)
    have k2 : (t1 : Int) * (GG * -(L46 + 10 ^ 20)) ≤ t1 * (10 ^ 46 * ((bi : Int) - bj)) := mono2 bb (by omega)
    have e1 : GG * (-(t * L46) - ((t.natAbs : Nat) : Int) * 10 ^ 20) = (t2 : Int) * (GG * (L46 - 10 ^ 20)) + (t1 : Int) * (GG * -(L46 + 10 ^ 20)) := e_tens tA tt
    have e2 : 10 ^ 46 * ((t2 : Int) * ((ai : Int) - aj) + t1 * ((bi : Int) - bj)) = t2 * (10 ^ 46 * ((ai : Int) - aj)) + t1 * (10 ^ 46 * ((bi : Int) - bj)) := e_sum
    rw [e1, e2]
    exact Int.add_le_add k1 k2
  have ps := pos_sum (G := GG) (M := M) (E := D) (LD := LD) (t := t) (T := ((t.natAbs : Nat) : Int)) (pw := (pw : Int)) (B := Bc) (u := (I : Int) - J) (w := (t2 : Int) * ((ai : Int) - aj) + t1 * ((bi : Int) - bj)) (jd := (jd : Int)) hG hM hM1 (by omega) hb h2 h3 h4 (by omega) ht hj
  have e : (((pw * I + t2 * ai + t1 * bi + jd : Nat) : Int) - ((pw * J + t2 * aj + t1 * bj + 0 : Nat) : Int)) = (pw : Int) * ((I : Int) - J) + ((t2 : Int) * ((ai : Int) - aj) + t1 * ((bi : Int) - bj)) + jd := by
    simp only [Int.natCast_add, Int.natCast_mul]
    have : ((0 : Nat) : Int) = 0 := rfl
    rw [this]
    grind
  omega
/-- the scaled coefficient -/
theorem cx_rel {c e q : Int} (hc : 0 < c) (hq : 0 ≤ q) : (2 * dl_c c e q - 1) * 10 ^ (dl_f c e - e).toNat ≤ 2 * c * 10 ^ q.toNat ∧ 2 * c * 10 ^ q.toNat ≤ (2 * dl_c c e q + 1) * 10 ^ (dl_f c e - e).toNat := by
  have hn := ndig_pos hc
  have hl : 0 ≤ dl_f c e - e := by
    unfold dl_f; split <;> omega
  have hk : dl_k c e q = q - (dl_f c e - e) := by unfold dl_k; omega
  generalize hll : dl_f c e - e = l at *
  unfold dl_c
  rw [hk]
  have pl := ten_pos l.toNat
  split
  · next c1 =>
    have e1 : (10 : Int) ^ q.toNat = 10 ^ (q - l).toNat * 10 ^ l.toNat := by rw [← Int.pow_add]; congr 1; omega
    rw [e1]
    generalize (10 : Int) ^ l.toNat = a at *
    generalize (10 : Int) ^ (q - l).toNat = b at *
    have e2 : 2 * c * (b * a) = 2 * (c * b) * a := by grind
    have e3 : (2 * (c * b) - 1) * a = 2 * (c * b) * a - a := by grind
    have e4 : (2 * (c * b) + 1) * a = 2 * (c * b) * a + a := by grind
    omega
  · next c1 =>
    have e1 : (10 : Int) ^ l.toNat = 10 ^ q.toNat * 10 ^ (-(q - l)).toNat := by rw [← Int.pow_add]; congr 1; omega
    rw [e1]
    have pm := ten_pos q.toNat
    have n := divN_near (a := c) (ten_pos (-(q - l)).toNat)
    generalize (10 : Int) ^ (-(q - l)).toNat = b at *
    generalize (10 : Int) ^ q.toNat = a at *
    generalize divN c b = x at *
    have k1 : a * ((2 * x - 1) * b) ≤ a * (2 * c) := mono2 (by
      have : (2 * x - 1) * b = 2 * (b * x) - b := by grind
      omega) (by omega)
    have k2 : a * (2 * c) ≤ a * ((2 * x + 1) * b) := mono2 (by
      have : (2 * x + 1) * b = 2 * (b * x) + b := by grind
      omega) (by omega)
    have e2 : 2 * c * a = a * (2 * c) := by grind
    have e3 : (2 * x - 1) * (a * b) = a * ((2 * x - 1) * b) := by grind
    have e4 : (2 * x + 1) * (a * b) = a * ((2 * x + 1) * b) := by grind
    omega
/-- from told to D -/
theorem told_lo {f M D LD dd told h hu pw τ Bc : Int} (hM : 0 < M) (hL : 0 < LD) (hpw : 0 ≤ pw) (hm : 100 * (hu * pw) = M) (h1 : -100 ≤ 2 * (f * M + dd - 100 * told)) (h2 : -LD ≤ 2 * (D * M - LD * dd)) (hB : Bc * M ≤ LD * (200 * τ - 101)) (ht : h * hu + τ ≤ told) : pw * Bc + 2 * (LD * (h - f * pw)) ≤ 2 * (pw * D) := by
  have a1 : pw * (200 * (h * hu + τ) - 100) ≤ pw * (2 * (f * M + dd)) := mono2 (by omega) hpw
  have a2 : pw * (2 * (LD * dd) - LD) ≤ pw * (2 * (D * M)) := mono2 (by omega) hpw
  have a3 : LD * (pw * (200 * (h * hu + τ) - 100)) ≤ LD * (pw * (2 * (f * M + dd))) := mono2 a1 (by omega)
  have a4 : pw * (Bc * M) ≤ pw * (LD * (200 * τ - 101)) := mono2 hB hpw
  refine Int.le_of_mul_le_mul_left (a := M) ?_ hM
  have e1 : LD * (pw * (200 * (h * hu + τ) - 100)) = 2 * (M * (LD * h)) + pw * (LD * (200 * τ - 101)) + pw * LD := by rw [← hm]; grind
  have e2 : LD * (pw * (2 * (f * M + dd))) = 2 * (M * (LD * (f * pw))) + 2 * (pw * (LD * dd)) := by grind
  have e3 : pw * (2 * (LD * dd) - LD) = 2 * (pw * (LD * dd)) - pw * LD := by grind
  have e4 : M * (pw * Bc + 2 * (LD * (h - f * pw))) = pw * (Bc * M) + 2 * (M * (LD * h)) - 2 * (M * (LD * (f * pw))) := by grind
  have e5 : M * (2 * (pw * D)) = pw * (2 * (D * M)) := by grind
  rw [e4, e5]
  omega
theorem told_hi {f M D LD dd told h hu pw τ Bc : Int} (hM : 0 < M) (hL : 0 < LD) (hpw : 0 ≤ pw) (hm : 100 * (hu * pw) = M) (h1 : 2 * (f * M + dd - 100 * told) ≤ 100) (h2 : 2 * (D * M - LD * dd) ≤ LD) (hB : Bc * M ≤ LD * (200 * τ - 101)) (ht : told ≤ h * hu - τ) : pw * Bc + 2 * (LD * -(h - f * pw)) ≤ 2 * (pw * -D) := by
  have a1 : pw * (2 * (f * M + dd)) ≤ pw * (200 * (h * hu - τ) + 100) := mono2 (by omega) hpw
  have a2 : pw * (2 * (D * M)) ≤ pw * (2 * (LD * dd) + LD) := mono2 (by omega) hpw
  have a3 : LD * (pw * (2 * (f * M + dd))) ≤ LD * (pw * (200 * (h * hu - τ) + 100)) := mono2 a1 (by omega)
  have a4 : pw * (Bc * M) ≤ pw * (LD * (200 * τ - 101)) := mono2 hB hpw
  refine Int.le_of_mul_le_mul_left (a := M) ?_ hM
  have e1 : LD * (pw * (200 * (h * hu - τ) + 100)) = 2 * (M * (LD * h)) - pw * (LD * (200 * τ - 101)) - pw * LD := by rw [← hm]; grind
  have e2 : LD * (pw * (2 * (f * M + dd))) = 2 * (M * (LD * (f * pw))) + 2 * (pw * (LD * dd)) := by grind
  have e3 : pw * (2 * (LD * dd) + LD) = 2 * (pw * (LD * dd)) + pw * LD := by grind
  have e4 : M * (pw * Bc + 2 * (LD * -(h - f * pw))) = pw * (Bc * M) - 2 * (M * (LD * h)) + 2 * (M * (LD * (f * pw))) := by grind
  have e5 : M * (2 * (pw * -D)) = -(pw * (2 * (D * M))) := by grind
  rw [e4, e5]
  omega

end
section
/-! the powers of c = 2, 5, 8, .. beside the powers of ten -/
def nextA (v : Nat) : Nat := let f := v >>> 64 + 1; f + (5 - f % 3) % 3
def chk (pw ρ : Nat) : Nat → Nat → Nat → Bool
  | 0, _, _ => true
  | n + 1, T, v => Nat.ble (T * 2000001) (nextA v ^ pw * 2000000) && (Nat.beq (nextA v) 2 || Nat.ble ((nextA v - 3) ^ pw * 2000001) (T * 2000000)) && chk pw ρ n (T * 10) ((v * ρ) >>> 64)
def Ok3 (pw T : Nat) : Prop := ∃ a, a % 3 = 2 ∧ T * 2000001 ≤ a ^ pw * 2000000 ∧ (a = 2 ∨ (a - 3) ^ pw * 2000001 ≤ T * 2000000)
def topOk (pw top : Nat) : Bool := Nat.ble (1199999 ^ pw * 2000001) (10 ^ top * 2000000)
theorem top_le {pw top : Nat} (h : topOk pw top = true) : 1199999 ^ pw * 2000001 ≤ 10 ^ top * 2000000 := Nat.le_of_ble_eq_true h
theorem nextA_mod (v : Nat) : nextA v % 3 = 2 := by
  unfold nextA
  generalize v >>> 64 + 1 = f
  show (f + (5 - f % 3) % 3) % 3 = 2
  omega
theorem chk_ok {pw ρ : Nat} : ∀ (n T v : Nat), chk pw ρ n T v = true → ∀ i, i < n → Ok3 pw (T * 10 ^ i)
  | 0, _, _, _, i, hi => by omega
  | n + 1, T, v, h, i, hi => by
    unfold chk at h
    rw [Bool.and_eq_true, Bool.and_eq_true, Bool.or_eq_true] at h
    obtain ⟨⟨h1, h2⟩, h3⟩ := h
    cases i with
    | zero =>
      rw [Nat.pow_zero, Nat.mul_one]
      refine ⟨nextA v, nextA_mod v, Nat.le_of_ble_eq_true h1, ?_⟩
      rcases h2 with h2 | h2
      · exact .inl (Nat.eq_of_beq_eq_true h2)
      · exact .inr (Nat.le_of_ble_eq_true h2)
    | succ i =>
      have := chk_ok n (T * 10) _ h3 i (by omega)
      rw [Nat.pow_succ]
      have e : T * (10 ^ i * 10) = T * 10 * 10 ^ i := by rw [Nat.mul_comm (10 ^ i) 10, Nat.mul_assoc]
      rw [e]; exact this
def AllOk (pw lo hi : Nat) : Prop := ∀ H, lo ≤ H → H < hi → Ok3 pw (10 ^ H)
theorem AllOk.of {pw ρ n lo hi v : Nat} (h : chk pw ρ n (10 ^ lo) v = true) (e : lo + n = hi) : AllOk pw lo hi := by
  intro H h1 h2
  have q := chk_ok _ _ _ h (H - lo) (by omega)
  rw [← Nat.pow_add, show lo + (H - lo) = H by omega] at q; exact q
theorem AllOk.join {pw a b c : Nat} (h1 : AllOk pw a b) (h2 : AllOk pw b c) : AllOk pw a c := fun H x y => by
  by_cases k : H < b
  · exact h1 H x k
  · exact h2 H (by omega) y
theorem chk0_0 : chk 2 58333726687135158848 13 (10 ^ 0) 18446744073709551616 = true := by decide +kernel
theorem ok3_0 {H : Nat} (h : H < 13) : Ok3 2 (10 ^ H) := by
  exact (AllOk.of (hi := 13) chk0_0 rfl) H (Nat.zero_le _) h
theorem top3_0 : topOk 2 13 = true := by decide +kernel
theorem chk1_0 : chk 20 20697587272487495365 122 (10 ^ 0) 18446744073709551616 = true := by decide +kernel
theorem ok3_1 {H : Nat} (h : H < 122) : Ok3 20 (10 ^ H) := by
  exact (AllOk.of (hi := 122) chk1_0 rfl) H (Nat.zero_le _) h
theorem top3_1 : topOk 20 122 = true := by decide +kernel
theorem chk2_0 : chk 200 18660347302955125543 320 (10 ^ 0) 18446744073709551616 = true := by decide +kernel
theorem chk2_320 : chk 200 18660347302955125543 320 (10 ^ 320) 734378108910900312627 = true := by decide +kernel
theorem chk2_640 : chk 200 18660347302955125543 320 (10 ^ 640) 29236119105494656992030 = true := by decide +kernel
theorem chk2_960 : chk 200 18660347302955125543 257 (10 ^ 960) 1163910865505352089330088 = true := by decide +kernel
theorem ok3_2 {H : Nat} (h : H < 1217) : Ok3 200 (10 ^ H) := by
  exact ((((AllOk.of (hi := 320) chk2_0 rfl).join (AllOk.of (hi := 640) chk2_320 rfl)).join (AllOk.of (hi := 960) chk2_640 rfl)).join (AllOk.of (hi := 1217) chk2_960 rfl)) H (Nat.zero_le _) h
theorem top3_2 : topOk 200 1217 = true := by decide +kernel
theorem chk3_0 : chk 2000 18467993902706445244 320 (10 ^ 0) 18446744073709551616 = true := by decide +kernel
theorem chk3_320 : chk 2000 18467993902706445244 320 (10 ^ 320) 26663657524911531244 = true := by decide +kernel
theorem chk3_640 : chk 2000 18467993902706445244 320 (10 ^ 640) 38540711020056048709 = true := by decide +kernel
theorem chk3_960 : chk 2000 18467993902706445244 320 (10 ^ 960) 55708276501214857112 = true := by decide +kernel
theorem chk3_1280 : chk 2000 18467993902706445244 320 (10 ^ 1280) 80522958414566743870 = true := by decide +kernel
theorem chk3_1600 : chk 2000 18467993902706445244 320 (10 ^ 1600) 116391086550535208933 = true := by decide +kernel
theorem chk3_1920 : chk 2000 18467993902706445244 320 (10 ^ 1920) 168236305460475019378 = true := by decide +kernel
theorem chk3_2240 : chk 2000 18467993902706445244 320 (10 ^ 2240) 243175446795930844850 = true := by decide +kernel
theorem chk3_2560 : chk 2000 18467993902706445244 320 (10 ^ 2560) 351495462067748773307 = true := by decide +kernel
theorem chk3_2880 : chk 2000 18467993902706445244 320 (10 ^ 2880) 508065520109440646782 = true := by decide +kernel
theorem chk3_3200 : chk 2000 18467993902706445244 320 (10 ^ 3200) 734378108910900312627 = true := by decide +kernel
theorem chk3_3520 : chk 2000 18467993902706445244 320 (10 ^ 3520) 1061499325384999533974 = true := by decide +kernel
theorem chk3_3840 : chk 2000 18467993902706445244 320 (10 ^ 3840) 1534333341531450438539 = true := by decide +kernel
theorem chk3_4160 : chk 2000 18467993902706445244 320 (10 ^ 4160) 2217786433431052621570 = true := by decide +kernel
theorem chk3_4480 : chk 2000 18467993902706445244 320 (10 ^ 4480) 3205676713902008928465 = true := by decide +kernel
theorem chk3_4800 : chk 2000 18467993902706445244 320 (10 ^ 4800) 4633612614428078043356 = true := by decide +kernel
theorem chk3_5120 : chk 2000 18467993902706445244 320 (10 ^ 5120) 6697607955124358937265 = true := by decide +kernel
theorem chk3_5440 : chk 2000 18467993902706445244 320 (10 ^ 5440) 9680988907201053741537 = true := by decide +kernel
theorem chk3_5760 : chk 2000 18467993902706445244 320 (10 ^ 5760) 13993286386618558432509 = true := by decide +kernel
theorem chk3_6080 : chk 2000 18467993902706445244 320 (10 ^ 6080) 20226452666656037476533 = true := by decide +kernel
theorem chk3_6400 : chk 2000 18467993902706445244 320 (10 ^ 6400) 29236119105494656992030 = true := by decide +kernel
theorem chk3_6720 : chk 2000 18467993902706445244 320 (10 ^ 6720) 42259049297346828321683 = true := by decide +kernel
theorem chk3_7040 : chk 2000 18467993902706445244 320 (10 ^ 7040) 61082910528297848638483 = true := by decide +kernel
theorem chk3_7360 : chk 2000 18467993902706445244 320 (10 ^ 7360) 88291668190516844299410 = true := by decide +kernel
theorem chk3_7680 : chk 2000 18467993902706445244 320 (10 ^ 7680) 127620288628076167982898 = true := by decide +kernel
theorem chk3_8000 : chk 2000 18467993902706445244 320 (10 ^ 8000) 184467440737095516160000 = true := by decide +kernel
theorem chk3_8320 : chk 2000 18467993902706445244 320 (10 ^ 8320) 266636575249115312447731 = true := by decide +kernel
theorem chk3_8640 : chk 2000 18467993902706445244 320 (10 ^ 8640) 385407110200560487093430 = true := by decide +kernel
theorem chk3_8960 : chk 2000 18467993902706445244 320 (10 ^ 8960) 557082765012148571128022 = true := by decide +kernel
theorem chk3_9280 : chk 2000 18467993902706445244 320 (10 ^ 9280) 805229584145667438702540 = true := by decide +kernel
theorem chk3_9600 : chk 2000 18467993902706445244 320 (10 ^ 9600) 1163910865505352089330088 = true := by decide +kernel
theorem chk3_9920 : chk 2000 18467993902706445244 320 (10 ^ 9920) 1682363054604750193786726 = true := by decide +kernel
theorem chk3_10240 : chk 2000 18467993902706445244 320 (10 ^ 10240) 2431754467959308448501310 = true := by decide +kernel
theorem chk3_10560 : chk 2000 18467993902706445244 320 (10 ^ 10560) 3514954620677487733073941 = true := by decide +kernel
theorem chk3_10880 : chk 2000 18467993902706445244 320 (10 ^ 10880) 5080655201094406467826242 = true := by decide +kernel
theorem chk3_11200 : chk 2000 18467993902706445244 320 (10 ^ 11200) 7343781089109003126275367 = true := by decide +kernel
theorem chk3_11520 : chk 2000 18467993902706445244 320 (10 ^ 11520) 10614993253849995339741293 = true := by decide +kernel
theorem chk3_11840 : chk 2000 18467993902706445244 320 (10 ^ 11840) 15343333415314504385390515 = true := by decide +kernel
theorem ok3_3 {H : Nat} (h : H < 12160) : Ok3 2000 (10 ^ H) := by
  exact ((((((((((((((((((((((((((((((((((((((AllOk.of (hi := 320) chk3_0 rfl).join (AllOk.of (hi := 640) chk3_320 rfl)).join (AllOk.of (hi := 960) chk3_640 rfl)).join (AllOk.of (hi := 1280) chk3_960 rfl)).join (AllOk.of (hi := 1600) chk3_1280 rfl)).join (AllOk.of (hi := 1920) chk3_1600 rfl)).join (AllOk.of (hi := 2240) chk3_1920 rfl)).join (AllOk.of (hi := 2560) chk3_2240 rfl)).join (AllOk.of (hi := 2880) chk3_2560 rfl)).join (AllOk.of (hi := 3200) chk3_2880 rfl)).join (AllOk.of (hi := 3520) chk3_3200 rfl)).join (AllOk.of (hi := 3840) chk3_3520 rfl)).join (AllOk.of (hi := 4160) chk3_3840 rfl)).join (AllOk.of (hi := 4480) chk3_4160 rfl)).join (AllOk.of (hi := 4800) chk3_4480 rfl)).join (AllOk.of (hi := 5120) chk3_4800 rfl)).join (AllOk.of (hi := 5440) chk3_5120 rfl)).join (AllOk.of (hi := 5760) chk3_5440 rfl)).join (AllOk.of (hi := 6080) chk3_5760 rfl)).join (AllOk.of (hi := 6400) chk3_6080 rfl)).join (AllOk.of (hi := 6720) chk3_6400 rfl)).join (AllOk.of (hi := 7040) chk3_6720 rfl)).join (AllOk.of (hi := 7360) chk3_7040 rfl)).join (AllOk.of (hi := 7680) chk3_7360 rfl)).join (AllOk.of (hi := 8000) chk3_7680 rfl)).join (AllOk.of (hi := 8320) chk3_8000 rfl)).join (AllOk.of (hi := 8640) chk3_8320 rfl)).join (AllOk.of (hi := 8960) chk3_8640 rfl)).join (AllOk.of (hi := 9280) chk3_8960 rfl)).join (AllOk.of (hi := 9600) chk3_9280 rfl)).join (AllOk.of (hi := 9920) chk3_9600 rfl)).join (AllOk.of (hi := 10240) chk3_9920 rfl)).join (AllOk.of (hi := 10560) chk3_10240 rfl)).join (AllOk.of (hi := 10880) chk3_10560 rfl)).join (AllOk.of (hi := 11200) chk3_10880 rfl)).join (AllOk.of (hi := 11520) chk3_11200 rfl)).join (AllOk.of (hi := 11840) chk3_11520 rfl)).join (AllOk.of (hi := 12160) chk3_11840 rfl)) H (Nat.zero_le _) h
theorem top3_3 : topOk 2000 12160 = true := by decide +kernel
theorem near3 {pw top : Nat} (hok : ∀ {H : Nat}, H < top → Ok3 pw (10 ^ H)) (ht : topOk pw top = true) {c H : Nat} (hc : c % 3 = 2) (c1 : c ≤ 1199999) : c ^ pw * 2000001 ≤ 10 ^ H * 2000000 ∨ 10 ^ H * 2000001 ≤ c ^ pw * 2000000 := by
  by_cases h : H < top
  · obtain ⟨a, a1, a2, a3⟩ := hok h
    by_cases hca : a ≤ c
    · right
      have := Nat.pow_le_pow_left hca pw
      exact Nat.le_trans a2 (Nat.mul_le_mul_right _ this)
    · left
      rcases a3 with a3 | a3
      · exfalso; clear a1 a2 ht hok; omega
      · have k : c ≤ a - 3 := by clear a2 a3 ht hok; omega
        have := Nat.pow_le_pow_left k pw
        exact Nat.le_trans (Nat.mul_le_mul_right _ this) a3
  · left
    have t : 1199999 ^ pw * 2000001 ≤ 10 ^ top * 2000000 := top_le ht
    have k1 := Nat.pow_le_pow_left c1 pw
    have k2 : (10 : Nat) ^ top ≤ 10 ^ H := Nat.pow_le_pow_right (by decide) (by omega)
    exact Nat.le_trans (Nat.mul_le_mul_right _ k1) (Nat.le_trans t (Nat.mul_le_mul_right _ k2))
/-- all four powers -/
theorem near_all {s c H : Nat} (hs : s ≤ 3) (hc : c % 3 = 2) (c1 : c ≤ 1199999) : c ^ (2 * 10 ^ s) * 2000001 ≤ 10 ^ H * 2000000 ∨ 10 ^ H * 2000001 ≤ c ^ (2 * 10 ^ s) * 2000000 := by
  match s, hs with
  | 0, _ => exact near3 (pw := 2) ok3_0 top3_0 hc c1
  | 1, _ => exact near3 (pw := 20) ok3_1 top3_1 hc c1
  | 2, _ => exact near3 (pw := 200) ok3_2 top3_2 hc c1
  | 3, _ => exact near3 (pw := 2000) ok3_3 top3_3 hc c1

end
section
/-- a drawn number and a number of places -/
structure L3 (c e s places : Int) : Prop where
  c0 : 2 ≤ c
  c1 : c ≤ 1199999
  e0 : -11 ≤ e
  e1 : e ≤ 4
  s0 : 0 ≤ s
  s1 : s ≤ 3
  p0 : s + 1 ≤ places
  p1 : places ≤ 11
def pw3 (s : Int) : Nat := 2 * 10 ^ s.toNat
def hu3 (s places : Int) : Int := 5 * 10 ^ (places - s - 1).toNat
theorem pw3_cast (s : Int) : (pw3 s : Int) = 2 * 10 ^ s.toNat := by
  unfold pw3
  have e1 : ((10 ^ s.toNat : Nat) : Int) = (10 : Int) ^ s.toNat := Int.natCast_pow 10 _
  rw [Int.natCast_mul, e1]; rfl
theorem pw3_pos (s : Int) : 2 ≤ pw3 s := by
  have : 0 < 10 ^ s.toNat := Nat.pow_pos (by decide)
  unfold pw3; omega
theorem hu3_pos (s places : Int) : 0 < hu3 s places := by
  have := ten_pos (places - s - 1).toNat
  unfold hu3; omega
theorem L3.hm {c e s places : Int} (h : L3 c e s places) : 100 * (hu3 s places * (pw3 s : Int)) = 10 ^ (places + 2).toNat := by
  have s0 := h.s0; have p0 := h.p0
  rw [pw3_cast]
  unfold hu3
  have e1 : (10 : Int) ^ (places + 2).toNat = 10 ^ (places - s - 1).toNat * 10 ^ s.toNat * 1000 := by
    have : (places + 2).toNat = (places - s - 1).toNat + s.toNat + 3 := by omega
    rw [this, Int.pow_add, Int.pow_add]; rfl
  rw [e1]; grind
theorem L3.told {c e s places : Int} (h : L3 c e s places) : dlog10N c e places = divN (dl_f c e * 10 ^ (places + 2).toNat + dD (dl_c c e (places + 2)) places) 100 := by
  have s0 := h.s0; have p0 := h.p0
  exact dlog10_val (by omega) rfl rfl
theorem L3.pre {c e s places : Int} (h : L3 c e s places) : ilPre (dl_c c e (places + 2)) (10 ^ (places + 2).toNat) := by
  have s0 := h.s0; have p0 := h.p0; have p1 := h.p1; have c0 := h.c0
  exact dl_pre (by omega) (by omega) (by omega)
/-- D is no more than some units -/
theorem L3.D {c e s places : Int} (h : L3 c e s places) : -(8 * 10 ^ (places + 2).toNat) ≤ ilogN (dl_c c e (places + 2)) (10 ^ (places + 2).toNat) ∧ ilogN (dl_c c e (places + 2)) (10 ^ (places + 2).toNat) ≤ 8 * 10 ^ (places + 2).toNat := by
  have s0 := h.s0; have p0 := h.p0; have p1 := h.p1
  have P := h.pre
  have M0 : (1000 : Int) ≤ 10 ^ (places + 2).toNat := ten_le (a := 3) (by omega)
  obtain ⟨y, R, hF, ht, el⟩ := ilLp_facts P
  obtain ⟨y', r, E⟩ := end3 P M0
  rw [E.el] at el
  have ey : y' = y := congrArg Prod.fst el
  have er : ((r : Nat) : Int) = R := congrArg Prod.snd el
  have hts := ilT_stop E.j.R0 E.t
  have hR : ((r : Nat) : Int).toNat = r := by omega
  rw [hR, ey] at hts
  have hw := ilogW_bound P hF ht
  have eD : ilogN (dl_c c e (places + 2)) (10 ^ (places + 2).toNat) = divN (ilogW (10 ^ (places + 2).toNat) (rshN y R) * y) (10 ^ (places + 2).toNat) := by unfold ilogN; rw [E.el, ey, er]
  rw [eD]
  have p10 : (2 : Int) ^ r ≤ 1024 := (f_small ⟨r, by have := E.r10; omega⟩).2.2
  generalize ilogW (10 ^ (places + 2).toNat) (rshN y R) = w at *
  generalize (10 : Int) ^ (places + 2).toNat = M at *
  have pM : (2 : Int) ^ r * M ≤ 1024 * M := Int.mul_le_mul_of_nonneg_right p10 (by omega)
  have a := absmul hw (b := y) (B := 4 * M) ⟨by omega, by omega⟩
  have e1 : 2 * M * (4 * M) = M * (8 * M) := by grind
  rw [e1] at a
  refine ⟨divN_ge (by omega) ?_, divN_le (by omega) a.2⟩
  have : M * -(8 * M) = -(M * (8 * M)) := by grind
  omega
theorem L3.nears {c e s places : Int} (h : L3 c e s places) : (-100 ≤ 2 * (dl_f c e * 10 ^ (places + 2).toNat + dD (dl_c c e (places + 2)) places - 100 * dlog10N c e places) ∧ 2 * (dl_f c e * 10 ^ (places + 2).toNat + dD (dl_c c e (places + 2)) places - 100 * dlog10N c e places) ≤ 100) ∧
    (-(log10D (places + 2)) ≤ 2 * (ilogN (dl_c c e (places + 2)) (10 ^ (places + 2).toNat) * 10 ^ (places + 2).toNat - log10D (places + 2) * dD (dl_c c e (places + 2)) places) ∧ 2 * (ilogN (dl_c c e (places + 2)) (10 ^ (places + 2).toNat) * 10 ^ (places + 2).toNat - log10D (places + 2) * dD (dl_c c e (places + 2)) places) ≤ log10D (places + 2)) := by
  have s0 := h.s0; have p0 := h.p0; have p1 := h.p1
  rw [h.told]
  refine ⟨divN_near (by decide), ?_⟩
  unfold dD
  exact divN_near (log10D_pos (by omega) (by omega)).1
/-- what the count of the decades says -/
structure N3 (c e s places h : Int) : Prop where
  l : L3 c e s places
  lo : (h - 2) * hu3 s places ≤ dlog10N c e places
  hi : dlog10N c e places ≤ (h + 2) * hu3 s places
theorem t_bounds {M LD D pw t : Int} (hM : 1000 ≤ M) (hL : 2302 * M ≤ 1000 * LD) (hp : 2 ≤ pw) (hD : D ≤ 8 * M) (h : pw * -233 + 2 * (LD * t) ≤ 2 * (pw * D)) : t ≤ 4 * pw := by
  refine Int.not_lt.mp fun hlt => ?_
  have k1 : pw * D ≤ pw * (8 * M) := mono2 hD (by omega)
  have k2 : LD * (4 * pw + 1) ≤ LD * t := mono2 (by omega) (by omega)
  have k3 : pw * (2302 * M) ≤ pw * (1000 * LD) := mono2 hL (by omega)
  have k4 : pw * 1000 ≤ pw * M := mono2 hM (by omega)
  have e1 : pw * (8 * M) = 8 * (pw * M) := by grind
  have e2 : LD * (4 * pw + 1) = 4 * (pw * LD) + LD := by grind
  have e3 : pw * -233 = -(233 * pw) := by grind
  have e4 : pw * (2302 * M) = 2302 * (pw * M) := by grind
  have e5 : pw * (1000 * LD) = 1000 * (pw * LD) := by grind
  omega
theorem L3.ts {c e s places : Int} (h : L3 c e s places) : 1000 ≤ (10 : Int) ^ (places + 2).toNat ∧ (10 : Int) ^ (places + 2).toNat ≤ 10 ^ 13 ∧ T3 (10 ^ (places + 2).toNat) (log10D (places + 2)) ∧ 2302 ≤ log10D (places + 2) := by
  have s0 := h.s0; have p0 := h.p0; have p1 := h.p1
  have T := t3 (q := places + 2) (by omega) (by omega)
  have m0 : (10 : Int) ^ 3 ≤ 10 ^ (places + 2).toNat := ten_le (by omega)
  have e3 : (10 : Int) ^ 3 = 1000 := by decide
  have l0 := T.l0
  exact ⟨by omega, ten_le (by omega), T, by omega⟩
theorem N3.lo0 {c e s places h : Int} (n : N3 c e s places h) {k : Int} (hk : k * hu3 s places ≤ dlog10N c e places) : (pw3 s : Int) * -233 + 2 * (log10D (places + 2) * (k - dl_f c e * (pw3 s : Int))) ≤ 2 * ((pw3 s : Int) * ilogN (dl_c c e (places + 2)) (10 ^ (places + 2).toNat)) := by
  obtain ⟨m0, m1, T, l0⟩ := n.l.ts
  obtain ⟨⟨a1, a2⟩, a3, a4⟩ := n.l.nears
  have t1 := T.l1
  refine told_lo (τ := 0) (by omega) (by omega) (by omega) n.l.hm a1 a3 (by omega) (by omega)
theorem N3.hi0 {c e s places h : Int} (n : N3 c e s places h) {k : Int} (hk : dlog10N c e places ≤ k * hu3 s places) : (pw3 s : Int) * -233 + 2 * (log10D (places + 2) * -(k - dl_f c e * (pw3 s : Int))) ≤ 2 * ((pw3 s : Int) * -ilogN (dl_c c e (places + 2)) (10 ^ (places + 2).toNat)) := by
  obtain ⟨m0, m1, T, l0⟩ := n.l.ts
  obtain ⟨⟨a1, a2⟩, a3, a4⟩ := n.l.nears
  have t1 := T.l1
  refine told_hi (τ := 0) (by omega) (by omega) (by omega) n.l.hm a2 a4 (by omega) (by omega)
theorem N3.tb {c e s places h : Int} (n : N3 c e s places h) : (((h - dl_f c e * (pw3 s : Int)).natAbs : Nat) : Int) ≤ 5 * (pw3 s : Int) := by
  obtain ⟨m0, m1, T, l0⟩ := n.l.ts
  obtain ⟨d0, d1⟩ := n.l.D
  have p2 := pw3_pos s
  have u := t_bounds m0 T.l0 (by omega) d1 (n.lo0 n.lo)
  have v := t_bounds m0 T.l0 (by omega) (by omega : -ilogN (dl_c c e (places + 2)) (10 ^ (places + 2).toNat) ≤ _) (n.hi0 n.hi)
  omega
theorem N3.gs {c e s places h : Int} (n : N3 c e s places h) : (∃ I J : Nat, GP GG c (10 ^ (dl_f c e - e).toNat) I J ∧ GG * (ilogN (dl_c c e (places + 2)) (10 ^ (places + 2).toNat) - 96) ≤ 10 ^ (places + 2).toNat * ((I : Int) - J)) ∧
    (∃ I J : Nat, GP GG (10 ^ (dl_f c e - e).toNat) c I J ∧ GG * (-ilogN (dl_c c e (places + 2)) (10 ^ (places + 2).toNat) - 96) ≤ 10 ^ (places + 2).toNat * ((I : Int) - J)) := by
  have s0 := n.l.s0; have p0 := n.l.p0; have p1 := n.l.p1; have c0 := n.l.c0
  obtain ⟨T, G⟩ := g3 (q := places + 2) (by omega) (by omega)
  obtain ⟨r1, r2⟩ := cx_rel (c := c) (e := e) (q := places + 2) (by omega) (by omega)
  exact ⟨c_lo n.l.pre G (ten_pos _) r1, c_hi n.l.pre G (by omega) r2⟩
/-- told above a half unit: the power is above -/
theorem N3.up {c e s places h : Int} (n : N3 c e s places h) (ht : h * hu3 s places + 1 ≤ dlog10N c e places) : (10 ^ (dl_f c e - e).toNat) ^ pw3 s * 10 ^ (h - dl_f c e * (pw3 s : Int)).toNat < c ^ pw3 s * 10 ^ (-(h - dl_f c e * (pw3 s : Int))).toNat := by
  obtain ⟨m0, m1, T, l0⟩ := n.l.ts
  obtain ⟨⟨a1, a2⟩, a3, a4⟩ := n.l.nears
  obtain ⟨⟨I, J, g, hb⟩, _⟩ := n.gs
  have c0 := n.l.c0
  have p2 := pw3_pos s
  have t0 := T.l0
  have h4 := told_lo (τ := 1) (Bc := 227) (by omega) (by omega) (by omega) n.l.hm a1 a3 (by omega) ht
  have k := key (a' := 1) (b' := 1) (jd := 0) (by omega) (ten_pos _) (by decide) (by decide) (by omega) m1 (by omega) g hb T n.tb GP.one (by
    have e : GG * ((pw3 s : Int) * (203 - 227)) = -(24 * (GG * (pw3 s : Int))) := by grind
    have : 0 ≤ GG * (pw3 s : Int) := Int.mul_nonneg (Int.le_of_lt GG_pos) (by omega)
    rw [e]
    have : ((0 : Nat) : Int) = 0 := rfl
    rw [this]; omega) h4
  rw [Int.mul_one, Int.mul_one] at k
  exact k
theorem N3.dn {c e s places h : Int} (n : N3 c e s places h) (ht : dlog10N c e places ≤ h * hu3 s places - 1) : c ^ pw3 s * 10 ^ (-(h - dl_f c e * (pw3 s : Int))).toNat < (10 ^ (dl_f c e - e).toNat) ^ pw3 s * 10 ^ (h - dl_f c e * (pw3 s : Int)).toNat := by
  obtain ⟨m0, m1, T, l0⟩ := n.l.ts
  obtain ⟨⟨a1, a2⟩, a3, a4⟩ := n.l.nears
  obtain ⟨_, I, J, g, hb⟩ := n.gs
  have c0 := n.l.c0
  have p2 := pw3_pos s
  have t0 := T.l0
  have h4 := told_hi (τ := 1) (Bc := 227) (by omega) (by omega) (by omega) n.l.hm a2 a4 (by omega) ht
  have tb := n.tb
  have k := key (a' := 1) (b' := 1) (jd := 0) (ten_pos _) (by omega) (by decide) (by decide) (by omega) m1 (by omega) g hb T (t := -(h - dl_f c e * (pw3 s : Int))) (by omega) GP.one (by
    have e : GG * ((pw3 s : Int) * (203 - 227)) = -(24 * (GG * (pw3 s : Int))) := by grind
    have : 0 ≤ GG * (pw3 s : Int) := Int.mul_nonneg (Int.le_of_lt GG_pos) (by omega)
    rw [e]
    have : ((0 : Nat) : Int) = 0 := rfl
    rw [this]; omega) h4
  rw [Int.mul_one, Int.mul_one] at k
  have e : - -(h - dl_f c e * (pw3 s : Int)) = h - dl_f c e * (pw3 s : Int) := by omega
  rw [e] at k
  exact k
/-- at a multiple of a half unit: the power is as near -/
theorem jd_ok {M pw : Int} (hp : 0 ≤ pw) (hM : 1000000000 * pw ≤ 2 * M) : ∃ jd : Nat, GP GG 2000001 2000000 jd 0 ∧ GG * (pw * (203 - -233)) ≤ 2 * (M * jd) := by
  have hG := GG_pos
  have f := Int.mul_ediv_add_emod (GG + 1) 2000001
  have f4 := Int.emod_nonneg (GG + 1) (b := 2000001) (by omega)
  have f5 := Int.emod_lt_of_pos (GG + 1) (b := 2000001) (by omega)
  have t0 : 0 ≤ (GG + 1) / 2000001 := Int.ediv_nonneg (by omega) (by omega)
  obtain ⟨jd, hj⟩ := Int.eq_ofNat_of_zero_le t0
  refine ⟨jd, GP.large (a := 2000000) (b := 1) hG (by decide) (by rw [Int.mul_one]; show (jd : Int) * 2000001 ≤ _; omega), ?_⟩
  have k1 : (jd : Int) * (1000000000 * pw) ≤ jd * (2 * M) := mono2 hM (by omega)
  have big : (1000000000000 : Int) ≤ GG := by unfold GG; decide +kernel
  have k2 : pw * (436 * GG) ≤ pw * (1000000000 * jd) := mono2 (by omega) hp
  have e1 : GG * (pw * (203 - -233)) = pw * (436 * GG) := by grind
  have e2 : pw * (1000000000 * (jd : Int)) = jd * (1000000000 * pw) := by grind
  have e3 : (jd : Int) * (2 * M) = 2 * (M * jd) := by grind
  omega
theorem L3.wide {c e s places : Int} (h : L3 c e s places) (hp : s + 7 ≤ places) : 1000000000 * (pw3 s : Int) ≤ 2 * 10 ^ (places + 2).toNat := by
  have s0 := h.s0
  rw [pw3_cast]
  have k : (10 : Int) ^ (s.toNat + 9) ≤ 10 ^ (places + 2).toNat := ten_le (by omega)
  rw [Int.pow_add] at k
  have e : (10 : Int) ^ 9 = 1000000000 := by decide
  rw [e] at k
  omega
theorem N3.up0 {c e s places h : Int} (n : N3 c e s places h) (hp : s + 7 ≤ places) (ht : h * hu3 s places ≤ dlog10N c e places) : (10 ^ (dl_f c e - e).toNat) ^ pw3 s * 10 ^ (h - dl_f c e * (pw3 s : Int)).toNat * 2000000 < c ^ pw3 s * 10 ^ (-(h - dl_f c e * (pw3 s : Int))).toNat * 2000001 := by
  obtain ⟨m0, m1, T, l0⟩ := n.l.ts
  obtain ⟨⟨I, J, g, hb⟩, _⟩ := n.gs
  have c0 := n.l.c0
  have p2 := pw3_pos s
  obtain ⟨jd, gd, hj⟩ := jd_ok (pw := (pw3 s : Int)) (by omega) (n.l.wide hp)
  exact key (by omega) (ten_pos _) (by decide) (by decide) (by omega) m1 (by omega) g hb T n.tb gd hj (n.lo0 ht)
theorem N3.dn0 {c e s places h : Int} (n : N3 c e s places h) (hp : s + 7 ≤ places) (ht : dlog10N c e places ≤ h * hu3 s places) : c ^ pw3 s * 10 ^ (-(h - dl_f c e * (pw3 s : Int))).toNat * 2000000 < (10 ^ (dl_f c e - e).toNat) ^ pw3 s * 10 ^ (h - dl_f c e * (pw3 s : Int)).toNat * 2000001 := by
  obtain ⟨m0, m1, T, l0⟩ := n.l.ts
  obtain ⟨_, I, J, g, hb⟩ := n.gs
  have c0 := n.l.c0
  have p2 := pw3_pos s
  have tb := n.tb
  obtain ⟨jd, gd, hj⟩ := jd_ok (pw := (pw3 s : Int)) (by omega) (n.l.wide hp)
  have k := key (ten_pos _) (by omega) (by decide) (by decide) (by omega) m1 (by omega) g hb T (t := -(h - dl_f c e * (pw3 s : Int))) (by omega) gd hj (n.hi0 ht)
  have e : - -(h - dl_f c e * (pw3 s : Int)) = h - dl_f c e * (pw3 s : Int) := by omega
  rw [e] at k
  exact k

end
section
theorem dl_le {c e : Int} (hc : 0 < c) : 0 ≤ dl_f c e - e := by
  have hn := ndig_pos hc
  unfold dl_f; split <;> omega
theorem exp_eq {f e h : Int} {pw : Nat} (hl : 0 ≤ f - e) (hH : 0 ≤ h - e * (pw : Int)) : ((10 : Int) ^ (f - e).toNat) ^ pw * 10 ^ (h - f * (pw : Int)).toNat = 10 ^ (h - e * (pw : Int)).toNat * 10 ^ (-(h - f * (pw : Int))).toNat := by
  obtain ⟨l, hl'⟩ := Int.eq_ofNat_of_zero_le hl
  have ef : f = e + l := by omega
  have e1 : h - f * (pw : Int) = (h - e * (pw : Int)) - (l : Int) * pw := by rw [ef]; grind
  rw [e1, hl']
  generalize h - e * (pw : Int) = H at *
  have e2 : ((l : Int)).toNat = l := by omega
  rw [e2, ← Int.pow_mul, ← Int.pow_add, ← Int.pow_add]
  congr 1
  have : ((l * pw : Nat) : Int) = (l : Int) * pw := by simp
  omega
theorem exp_neg {f e h : Int} {pw : Nat} (hl : 0 ≤ f - e) (hH : h - e * (pw : Int) < 0) : ((10 : Int) ^ (f - e).toNat) ^ pw * 10 ^ (h - f * (pw : Int)).toNat * 10 ^ (-(h - e * (pw : Int))).toNat = 10 ^ (-(h - f * (pw : Int))).toNat := by
  obtain ⟨l, hl'⟩ := Int.eq_ofNat_of_zero_le hl
  have ef : f = e + l := by omega
  have e1 : h - f * (pw : Int) = (h - e * (pw : Int)) - (l : Int) * pw := by rw [ef]; grind
  rw [e1, hl']
  generalize h - e * (pw : Int) = H at *
  have e2 : ((l : Int)).toNat = l := by omega
  rw [e2, ← Int.pow_mul, ← Int.pow_add, ← Int.pow_add]
  congr 1
  have : ((l * pw : Nat) : Int) = (l : Int) * pw := by simp
  have : 0 ≤ (l : Int) * pw := Int.mul_nonneg (by omega) (by omega)
  omega
theorem N3.gt {c e s places h : Int} (n : N3 c e s places h) (ht : h * hu3 s places + 1 ≤ dlog10N c e places) (hH : 0 ≤ h - e * (pw3 s : Int)) : 10 ^ (h - e * (pw3 s : Int)).toNat < c ^ pw3 s := by
  have c0 := n.l.c0
  have k := n.up ht
  rw [exp_eq (dl_le (by omega)) hH] at k
  exact Int.lt_of_mul_lt_mul_right k (Int.le_of_lt (ten_pos _))
theorem cpow_pos {c : Int} (hc : 2 ≤ c) (s : Int) : 4 ≤ c ^ pw3 s := by
  have p2 := pw3_pos s
  obtain ⟨m, hm⟩ : ∃ m, pw3 s = m + 2 := ⟨pw3 s - 2, by omega⟩
  rw [hm, Int.pow_add]
  have a : 1 ≤ c ^ m := by
    have : 0 < c ^ m := Int.pow_pos (by omega)
    omega
  have b : 2 * 2 ≤ c ^ 2 := by
    have : c ^ 2 = c * c := by rw [Int.pow_succ, Int.pow_succ, Int.pow_zero, Int.one_mul]
    rw [this]
    exact mul_lo (by decide) (by decide) hc hc
  have := mul_lo (a := 1) (b := 4) (c := c ^ m) (d := c ^ 2) (by decide) (by decide) a (by omega)
  omega
theorem N3.lt {c e s places h : Int} (n : N3 c e s places h) (ht : dlog10N c e places ≤ h * hu3 s places - 1) : 0 ≤ h - e * (pw3 s : Int) ∧ c ^ pw3 s < 10 ^ (h - e * (pw3 s : Int)).toNat := by
  have c0 := n.l.c0
  have k := n.dn ht
  have p4 := cpow_pos c0 s
  by_cases hH : 0 ≤ h - e * (pw3 s : Int)
  · rw [exp_eq (dl_le (by omega)) hH] at k
    exact ⟨hH, Int.lt_of_mul_lt_mul_right k (Int.le_of_lt (ten_pos _))⟩
  · exfalso
    have en := exp_neg (f := dl_f c e) (e := e) (h := h) (pw := pw3 s) (dl_le (by omega)) (by omega)
    have p1 := ten_pos (-(h - e * (pw3 s : Int))).toNat
    have p2 := ten_pos (-(h - dl_f c e * (pw3 s : Int))).toNat
    have k2 := Int.mul_lt_mul_of_pos_right k p1
    rw [en] at k2
    generalize (10 : Int) ^ (-(h - e * (pw3 s : Int))).toNat = a at *
    generalize (10 : Int) ^ (-(h - dl_f c e * (pw3 s : Int))).toNat = b at *
    have k3 : b * (4 * 1) ≤ b * (c ^ pw3 s * a) := mono2 (mul_lo (by decide) (by decide) p4 (by omega)) (by omega)
    have e1 : c ^ pw3 s * b * a = b * (c ^ pw3 s * a) := by grind
    omega
/-- so many places tell no multiple of a half unit -/
theorem L3.stop {c e s places : Int} (l : L3 c e s places) (hc : c % 3 = 2) (hp : s + 7 ≤ places) : ¬ (dlog10N c e places).fmod (hu3 s places) = 0 := by
  intro hz
  have hh := hu3_pos s places
  have hd := Int.mul_fdiv_add_fmod (dlog10N c e places) (hu3 s places)
  rw [hz, Int.add_zero] at hd
  generalize hk : (dlog10N c e places).fdiv (hu3 s places) = h at *
  have ht : dlog10N c e places = h * hu3 s places := by rw [← hd]; exact Int.mul_comm _ _
  have n : N3 c e s places h := ⟨l, by
    have : (h - 2) * hu3 s places = h * hu3 s places - 2 * hu3 s places := by grind
    omega, by
    have : (h + 2) * hu3 s places = h * hu3 s places + 2 * hu3 s places := by grind
    omega⟩
  have u := n.up0 hp (by omega)
  have d := n.dn0 hp (by omega)
  have c0 := l.c0; have c1 := l.c1; have s0 := l.s0; have s1 := l.s1
  have p4 := cpow_pos c0 s
  have p2 := ten_pos (-(h - dl_f c e * (pw3 s : Int))).toNat
  by_cases hH : 0 ≤ h - e * (pw3 s : Int)
  · rw [exp_eq (dl_le (by omega)) hH] at u d
    have u2 : 10 ^ (h - e * (pw3 s : Int)).toNat * 2000000 < c ^ pw3 s * 2000001 := by
      refine Int.lt_of_mul_lt_mul_right (a := 10 ^ (-(h - dl_f c e * (pw3 s : Int))).toNat) ?_ (by omega)
      generalize (10 : Int) ^ (-(h - dl_f c e * (pw3 s : Int))).toNat = b at *
      grind
    have d2 : c ^ pw3 s * 2000000 < 10 ^ (h - e * (pw3 s : Int)).toNat * 2000001 := by
      refine Int.lt_of_mul_lt_mul_right (a := 10 ^ (-(h - dl_f c e * (pw3 s : Int))).toNat) ?_ (by omega)
      generalize (10 : Int) ^ (-(h - dl_f c e * (pw3 s : Int))).toNat = b at *
      grind
    obtain ⟨cn, hcn⟩ := Int.eq_ofNat_of_zero_le (by omega : 0 ≤ c)
    have q := near_all (s := s.toNat) (c := cn) (H := (h - e * (pw3 s : Int)).toNat) (by omega) (by omega) (by omega)
    have ep : 2 * 10 ^ s.toNat = pw3 s := rfl
    rw [ep] at q
    rw [hcn] at u2 d2
    generalize (h - e * (pw3 s : Int)).toNat = H at *
    generalize pw3 s = pw at *
    have w1 : ((cn ^ pw : Nat) : Int) = (cn : Int) ^ pw := Int.natCast_pow cn pw
    have w2 : ((10 ^ H : Nat) : Int) = (10 : Int) ^ H := Int.natCast_pow 10 H
    rw [← w1, ← w2] at u2 d2
    generalize cn ^ pw = A at *
    generalize 10 ^ H = B at *
    omega
  · have en := exp_neg (f := dl_f c e) (e := e) (h := h) (pw := pw3 s) (dl_le (by omega)) (by omega)
    have p1 := ten_pos (-(h - e * (pw3 s : Int))).toNat
    have k2 := Int.mul_lt_mul_of_pos_right d p1
    have e0 : ((10 : Int) ^ (dl_f c e - e).toNat) ^ pw3 s * 10 ^ (h - dl_f c e * (pw3 s : Int)).toNat * 2000001 * 10 ^ (-(h - e * (pw3 s : Int))).toNat = ((10 ^ (dl_f c e - e).toNat) ^ pw3 s * 10 ^ (h - dl_f c e * (pw3 s : Int)).toNat * 10 ^ (-(h - e * (pw3 s : Int))).toNat) * 2000001 := by
      generalize ((10 : Int) ^ (dl_f c e - e).toNat) ^ pw3 s * 10 ^ (h - dl_f c e * (pw3 s : Int)).toNat = x
      grind
    rw [e0, en] at k2
    generalize (10 : Int) ^ (-(h - e * (pw3 s : Int))).toNat = a at *
    generalize (10 : Int) ^ (-(h - dl_f c e * (pw3 s : Int))).toNat = b at *
    have k3 : b * (4 * 1) ≤ b * (c ^ pw3 s * a) := mono2 (mul_lo (by decide) (by decide) p4 (by omega)) (by omega)
    have e1 : c ^ pw3 s * b * 2000000 * a = 2000000 * (b * (c ^ pw3 s * a)) := by grind
    omega
/-- the end of a run -/
theorem L3.fin {c e s places : Int} (l : L3 c e s places) (hz : ¬ (dlog10N c e places).fmod (hu3 s places) = 0) {r g : Int} (hr : r = (2 * dlog10N c e places + 2 * hu3 s places).fdiv (2 * (2 * hu3 s places))) (hg : g = 2 * r - e * (pw3 s : Int)) :
    0 ≤ g ∧ g ≤ 20000 ∧ 10 ^ g.toNat < 10 * c ^ pw3 s ∧ 10 * c ^ pw3 s < 10 ^ (g + 2).toNat := by
  have hh := hu3_pos s places
  have hd := Int.mul_fdiv_add_fmod (2 * dlog10N c e places + 2 * hu3 s places) (2 * (2 * hu3 s places))
  have f1 := fmod_lo (2 * dlog10N c e places + 2 * hu3 s places) (n := 2 * (2 * hu3 s places)) (by omega)
  have f2 := fmod_hi (2 * dlog10N c e places + 2 * hu3 s places) (n := 2 * (2 * hu3 s places)) (by omega)
  rw [← hr] at hd
  generalize (2 * dlog10N c e places + 2 * hu3 s places).fmod (2 * (2 * hu3 s places)) = w at *
  have e0 : 2 * (2 * hu3 s places) * r = 4 * (r * hu3 s places) := by grind
  rw [e0] at hd
  have m1 : (2 * r - 1) * hu3 s places = 2 * (r * hu3 s places) - hu3 s places := by grind
  have m2 : (2 * r + 1) * hu3 s places = 2 * (r * hu3 s places) + hu3 s places := by grind
  have m3 : (2 * r - 1 + 2) * hu3 s places = 2 * (r * hu3 s places) + hu3 s places := by grind
  have m4 : (2 * r + 1 - 2) * hu3 s places = 2 * (r * hu3 s places) - hu3 s places := by grind
  have m5 : (2 * r - 1 - 2) * hu3 s places = 2 * (r * hu3 s places) - 3 * hu3 s places := by grind
  have m6 : (2 * r + 1 + 2) * hu3 s places = 2 * (r * hu3 s places) + 3 * hu3 s places := by grind
  have lo : (2 * r - 1) * hu3 s places + 1 ≤ dlog10N c e places := by
    have : (2 * r - 1) * hu3 s places ≠ dlog10N c e places := fun h => hz (by rw [← h]; exact Int.mul_fmod_left _ _)
    omega
  have hi : dlog10N c e places ≤ (2 * r + 1) * hu3 s places - 1 := by omega
  have n1 : N3 c e s places (2 * r - 1) := ⟨l, by omega, by omega⟩
  have n2 : N3 c e s places (2 * r + 1) := ⟨l, by omega, by omega⟩
  obtain ⟨u1, u2⟩ := n2.lt hi
  have c0 := l.c0; have c1 := l.c1
  have p4 := cpow_pos c0 s
  have eg : 2 * r + 1 - e * (pw3 s : Int) = g + 1 := by omega
  have eg1 : 2 * r - 1 - e * (pw3 s : Int) = g - 1 := by omega
  rw [eg] at u1 u2
  have g0 : 0 ≤ g := by
    refine Int.not_lt.mp fun hlt => ?_
    have : g + 1 = 0 := by omega
    rw [this] at u2
    have : (10 : Int) ^ (0 : Int).toNat = 1 := rfl
    omega
  have up : 10 ^ g.toNat < 10 * c ^ pw3 s := by
    by_cases hg1 : 1 ≤ g
    · have k := n1.gt lo (by omega)
      rw [eg1] at k
      have : g.toNat = (g - 1).toNat + 1 := by omega
      rw [this, Int.pow_succ]
      omega
    · have : g = 0 := by omega
      subst this
      have : (10 : Int) ^ (0 : Int).toNat = 1 := rfl
      omega
  refine ⟨g0, ?_, up, ?_⟩
  · refine Int.not_lt.mp fun hlt => ?_
    have k1 : c ^ pw3 s ≤ (10 ^ 7) ^ pw3 s := ipow_le (by omega) (by
      have : (10 : Int) ^ 7 = 10000000 := by decide
      omega) _
    rw [← Int.pow_mul] at k1
    have pb : pw3 s ≤ 2000 := by
      have s1 := l.s1; have s0 := l.s0
      have : 10 ^ s.toNat ≤ 10 ^ 3 := Nat.pow_le_pow_right (by decide) (by omega)
      unfold pw3; omega
    have k2 : (10 : Int) ^ (7 * pw3 s) ≤ 10 ^ 14000 := ten_le (by omega)
    have k3 : (10 : Int) ^ 14001 ≤ 10 ^ g.toNat := ten_le (by omega)
    have e1 : (10 : Int) ^ 14001 = 10 ^ 14000 * 10 := Int.pow_succ ..
    rw [e1] at k3
    generalize (10 : Int) ^ 14000 = z at *
    omega
  · have : (g + 2).toNat = (g + 1).toNat + 1 := by omega
    rw [this, Int.pow_succ]
    omega

end
section
abbrev Tell (n : Nat) (w : World) (mean : ExcName → Option Value) (mg mb : Str → Option Value) (f : Addr) (pre : Prop) (vs : List Value) (R : Tok → Value) : Prop :=
  ∀ (news : List (Addr × Obj)) (dp un : Nat) (gd : Option (List Code)) (cn : Str) (cs : Scope) (a : Addr) (ccd : Value) (cl : List (Str × Addr)) (outer : List Env) (A₀ : Around) (base h₀ : Heap) (L : Addr) (m : Str → Option Value) (s : Shared) (Q E : Value → Shared → Prop),
    Below A₀ base outer h₀ → Fr h₀ L s.heap m → (hd.heap_39 w.params).In h₀ → News h₀ L s.heap news → Top hd.view_39 (looseW hd.view_39 [Str.ofString "_ilog", Str.ofString "_log10_digits"]) mean mg mb h₀ → cs.kind = .function →
    pre → dp + n < recursionLimit → un + 8 * n < cLine →
    (∀ (t : Tok) (h' : Heap) (tk' : Nat), Fr h₀ L h' m → News h₀ L h' news → Q (R t) { s with heap := h', toks := tk' }) →
    wpAny (model Challenge.rw_dm0270_03.row.prog w) (ktrTop dp un gd cn cs L a ccd cl outer) (call (.ref f) vs) Q E s


set_option maxRecDepth 100000 in
set_option maxHeartbeats 8000000 in
theorem t_div (w : World) (mean) (mg mb) (a b : Int) (ta tb : Tok) : Tell 1 w mean mg mb 35 (0 < b ∧ b ≤ Big) [.int a ta, .int b tb] (fun t => .int (divN a b) t) := by
  unfold Tell; k_fill
  intro news dp un gd cn cs aa ccd cl outer A₀ base h₀ L m s Q E B F X N T hk hpre hd hu hret
  obtain ⟨hb0, hb1⟩ := hpre
  have hb2 := log2_big (Int.le_of_lt hb0) hb1
  refine wpAny_call ?_
  k_dflt cell_enter
  k_with_none
  k_with "! call builtin:divmod" => (k_here; (with_reducible show wpAny _ _ (call (Value.builtin _) [Value.int _ _, Value.int _ _]) _ _ _); k_dflt (refine' divmod_N ?k1 ?k2 ?k3 ?_ ?k5; (case k1 => k_asm); (case k2 => k_asm); (case k3 => omega); (case k5 => exact Or.inl (PyProof.noPylong_of_log2 (by assumption))); k_whole); intro h' F' N')
  k_steps
  all_goals cb_end hret
set_option maxRecDepth 100000 in
set_option maxHeartbeats 8000000 in
theorem t_rsh (w : World) (mean) (mg mb) (x sh : Int) (ta tb : Tok) : Tell 1 w mean mg mb 28 (0 ≤ sh ∧ sh ≤ 100) [.int x ta, .int sh tb] (fun t => .int (rshN x sh) t) := by
  unfold Tell; k_fill
  intro news dp un gd cn cs aa ccd cl outer A₀ base h₀ L m s Q E B F X N T hk hpre hd hu hret
  obtain ⟨hb0, hb1⟩ := hpre
  refine wpAny_call ?_
  k_dflt cell_enter
  k_with_none
  k_with "! call builtin:divmod" => (k_here; (with_reducible show wpAny _ _ (call (Value.builtin _) [Value.int _ _, Value.int _ _]) _ _ _); k_dflt (refine' divmod_N ?k1 ?k2 ?k3 ?_ ?k5; (case k1 => k_asm); (case k2 => k_asm); (case k3 => omega); (case k5 => exact Or.inl (PyProof.noPylong_of_log2 (by assumption))); k_whole); intro h' F' N')
  k_steps
  all_goals cb_end hret
set_option maxRecDepth 100000 in
set_option maxHeartbeats 8000000 in
theorem t_sqrt (w : World) (mean) (mg mb) (n a : Int) (ta tb : Tok) : Tell 1 w mean mg mb 21 (0 < n ∧ n ≤ Big ∧ 0 < a ∧ a ≤ Big) [.int n ta, .int a tb] (fun t => .int (sqrtN n) t) := by
  unfold Tell; k_fill
  intro news dp un gd cn cs aa ccd cl outer A₀ base h₀ L m s Q E B F X N T hk hpre hd hu hret
  obtain ⟨hn0, hn1, ha0, ha1⟩ := hpre
  refine wpAny_call ?_
  k_dflt cell_enter
  k_with_none
  k_with "! call builtin:divmod" => (k_here; (with_reducible show wpAny _ _ (call (Value.builtin _) [Value.int _ _, Value.int _ _]) _ _ _); k_dflt (refine' divmod_N ?k1 ?k2 ?k3 ?_ ?k5; (case k1 => k_asm); (case k2 => k_asm); (case k3 => omega); (case k5 => exact Or.inl (PyProof.noPylong_of_log2 (by assumption))); k_whole); intro h' F' N')
  k_with "! binaryOp FloorDiv int int" => (k_here; (with_reducible refine floordiv_int ?kbe ?_ (Or.inl (PyProof.noPylong_of_log2 (log2_big ?kb1 ?kb2)))); (case kbe => omega); (case kb1 => omega); (case kb2 => omega))
  k_with "exec While Compare cons nil" => k_while (fun _ a b => (0 < a ∧ a ≤ Big) ∧ sqP n a b) (fun _ a b => sqM n a b) "a" "b"
  k_with "state" => (first | exact ⟨⟨by assumption, by assumption⟩, by assumption, by assumption, Or.inl rfl⟩ | (rename (sqP _ _ _) => hI; have h9 := sqP_next hn0 hn1 hI; exact ⟨⟨h9.1, h9.2.1⟩, h9⟩))
  k_with "measure" => (rename (sqP _ _ _) => hI; have h9 := sqM_next hn0 hn1 hI (by assumption); exact h9)
  k_with "tree" => (rename (sqP _ _ _) => hI; exact sq_end hn0 hn1 hI (by first | assumption | omega))
  k_steps
  all_goals cb_end hret

end
section
set_option maxRecDepth 100000 in
set_option maxHeartbeats 8000000 in
theorem t_ilog (w : World) (mean) (mg mb) (x M : Int) (ta tb : Tok) : Tell 2 w mean mg mb 43 (ilPre x M) [.int x ta, .int M tb] (fun t => .int (ilogN x M) t) := by
  unfold Tell; k_fill
  intro news dp un gd cn cs aa ccd cl outer A₀ base h₀ L m s Q E B F X N T hk hpre hd hu hret
  have hM0 := hpre.M0
  have hMB := hpre.MBig
  have hMb := hpre.Mbits
  have hMl := log2_M hpre
  have hT1 : 0 < -(-10 * ((Str.ofString (toString M)).length : Int)).fdiv (3 * 8) := (ilTT_pos hpre).1
  have hT2 : -(-10 * ((Str.ofString (toString M)).length : Int)).fdiv (3 * 8) ≤ 1000 := (ilTT_pos hpre).2
  have hBig := big_ge
  refine wpAny_call ?_
  k_dflt (refine' code_def ?k1 ?k2 ?k3 ?k4 ?k5 ?kA ?kF ?kK ?k6 ?k7 ?k8 ?k9 ?kB ?_ ?c2 ?c3 ?c4 ?c5; (case kA => exact rfl); (case kF => exact rfl); (case kK => assumption); (case k1 => k_asm); (case k2 => k_asm); (case k3 => k_asm); (case k4 => k_asm); (case k5 => k_asm); (case k6 => k_is); (case k7 => k_is); (case k8 => ktr_room); (case k9 => (refine' kp_binds ?kx ?ke; (case kx => k_in); (case ke => exact fun _ => rfl))); (case c5 => decide); (case kB => exact locs rfl); (case c2 => exact rfl); (case c3 => exact rfl); (case c4 => exact rfl); k_whole; intro g' L' h' FG' F' N' B' X' T'; (try dsimp only); (try k_lift B'); (try k_fold))
  k_with_none
  k_with "! call ref" => (k_here; (with_reducible show wpAny _ _ (call (Value.ref 35) [Value.int _ _, Value.int _ _]) _ _ _); k_dflt (refine' t_div _ _ _ _ _ _ _ _ _ _ _ _ _ _ _ _ _ _ _ _ _ _ _ _ _ _ ?k1 ?k2 ?k3 ?k4 ?k5 ?kK ?kp ?kd ?ku ?_; (case k1 => k_asm); (case k2 => k_asm); (case k3 => k_asm); (case k4 => k_asm); (case k5 => k_asm); (case kK => first | exact rfl | assumption); (case kp => first | exact ⟨by assumption, by assumption⟩ | exact ⟨by omega, by omega⟩ | k_extra "pre"); (case kd => ktr_room); (case ku => ktr_units)); intro t9 h9 tk9 F9 N9; (try dsimp only); (try k_fold))
  k_with "! call ref" => (k_here; (with_reducible show wpAny _ _ (call (Value.ref 28) [Value.int _ _, Value.int _ _]) _ _ _); k_dflt (refine' t_rsh _ _ _ _ _ _ _ _ _ _ _ _ _ _ _ _ _ _ _ _ _ _ _ _ _ _ ?k1 ?k2 ?k3 ?k4 ?k5 ?kK ?kp ?kd ?ku ?_; (case k1 => k_asm); (case k2 => k_asm); (case k3 => k_asm); (case k4 => k_asm); (case k5 => k_asm); (case kK => first | exact rfl | assumption); (case kp => exact ⟨by omega, by omega⟩); (case kd => ktr_room); (case ku => ktr_units)); intro t9 h9 tk9 F9 N9; (try dsimp only); (try k_fold))
  k_with "! call ref" => (k_here; (with_reducible show wpAny _ _ (call (Value.ref 21) [Value.int _ _, Value.int _ _]) _ _ _); k_dflt (refine' t_sqrt _ _ _ _ _ _ _ _ _ _ _ _ _ _ _ _ _ _ _ _ _ _ _ _ _ _ ?k1 ?k2 ?k3 ?k4 ?k5 ?kK ?kp ?kd ?ku ?_; (case k1 => k_asm); (case k2 => k_asm); (case k3 => k_asm); (case k4 => k_asm); (case k5 => k_asm); (case kK => first | exact rfl | assumption); (case kp => first | exact ⟨by assumption, by assumption, by omega, by assumption⟩ | k_extra "pre"); (case kd => ktr_room); (case ku => ktr_units)); intro t9 h9 tk9 F9 N9; (try dsimp only); (try k_fold))
  k_with "! binaryOp LShift int int" => (k_here; (with_reducible refine lshift_int ?kb1 ?kb2 ?_); (case kb1 => omega); (case kb2 => first | exact shl_abs (by assumption) (by omega) | exact shl_300 (by assumption) (by omega) | exact shl_600 (by assumption) (by assumption) (by omega) | exact shl_300 (intBits_natAbs_le (by assumption)) (by omega)))
  k_with "! binaryOp RShift int int" => (k_here; (with_reducible refine rshift_int ?kb1 ?_); (case kb1 => omega))
  k_with "! call type:str" => (k_here; (with_reducible show wpAny _ _ (call (Value.type "str") [Value.int _ _]) _ _ _); (refine P.str_of_int ?ks1 ?_); (case ks1 => assumption))
  k_with "! call builtin:len" => (k_here; (with_reducible show wpAny _ _ (call (Value.builtin "len") [Value.str _ _]) _ _ _); (refine SBL.len ?ks1 ?_); (case ks1 => (have h9 := int_text_len_1921 (by assumption); omega)))
  k_with "mul" => exact mul_300 (by assumption) (by assumption)
  k_with "exec While BoolOp cons nil" => k_while (fun _ y R => ilF x M y R ∧ (0 ≤ R ∧ R ≤ 25) ∧ intBits y ≤ 300 ∧ (0 < M * (M + rshN y R) ∧ M * (M + rshN y R) ≤ Big) ∧ (0 < M + sqrtN (M * (M + rshN y R)) ∧ M + sqrtN (M * (M + rshN y R)) ≤ Big) ∧ intBits (M + rshN y R) ≤ 300 ∧ intBits (rshN y R) ≤ 300) (fun _ y R => (30 - R).toNat) "y" "R"
  k_with "pyIter ref" => k_state_given ["yshift", "T"] (fun ys T pre w => w = pre.foldl (horn M ys) (divN M T) ∧ (-(2 * M) ≤ w ∧ w ≤ 2 * M) ∧ intBits w ≤ 300) "w"
  k_with "state" => (first | exact ((ilJL.start hpre).full hpre).conj | (rename (ilF _ _ _ _) => hI; first | (have t9 := ilT_t1 hI (by omega) (by assumption); exact ((hI.jl.next hpre t9).full hpre).conj) | (have t9 := ilT_t2 hI (by omega) (by assumption); exact ((hI.jl.next hpre t9).full hpre).conj) | exact horn_start hpre hT1 _ | (have t9 := ilT_f1 hI (by omega) (by assumption); exact horn_state hpre rfl hI t9 (by omega) ⟨by assumption, ⟨by assumption, by assumption⟩, by assumption⟩) | (have t9 := ilT_f2 hI (by omega) (by assumption); exact horn_state hpre rfl hI t9 (by omega) ⟨by assumption, ⟨by assumption, by assumption⟩, by assumption⟩)))
  k_with "tree" => (rename (ilF _ _ _ _) => hI; first | (have t9 := ilT_f1 hI (by omega) (by assumption); exact ilog_end hI t9 (by assumption)) | (have t9 := ilT_f2 hI (by omega) (by assumption); exact ilog_end hI t9 (by assumption)))
  k_steps
  all_goals cb_end hret

end
section
set_option maxRecDepth 100000 in
set_option maxHeartbeats 8000000 in
theorem t_dig (w : World) (mean) (mg mb) (p : Int) (tp : Tok) : Tell 2 w mean mg mb 82 (0 ≤ p ∧ p ≤ 46) [.int p tp] (fun t => .int (log10D p) t) := by
  unfold Tell; k_fill
  intro news dp un gd cn cs aa ccd cl outer A₀ base h₀ L m s Q E B F X N T hk hpre hd hu hret
  obtain ⟨hp0, hp1⟩ := hpre
  k_with_none
  k_with "! call type:int" => (k_here; (with_reducible show wpAny _ _ (call (Value.type "int") [Value.str (Txt.slice _ none (some (_ + 1))) _]) _ _ _); (refine KIN.call_text (And.left (dig_text ?kd1 ?kd2)) (And.right (dig_text ?kd3 ?kd4)) ?_); (case kd1 => omega); (case kd2 => omega); (case kd3 => omega); (case kd4 => omega))
  refine wpAny_call ?_
  k_dflt (refine' method_call ?ho ?_; (case ho => (refine (Frag.In.keeps X F.keep) _ _ ?_; k_is)))
  k_dflt cell_enter
  k_steps
  all_goals cb_end hret

end
section
theorem callWith_MK {M : Model} {A : Around} {E : Value → Shared → Prop} {s : Shared} {K : Frag} {env : Env} {pos : Pos} {first : List Value} {Q : Value → Shared → Prop} {h₀ : Heap} {q g : Addr} {self : Value} {e : Expr} {rest : List Expr} (_X : K.In h₀) (hl : K.lookup q = some (methodObj (.ref g) self)) (hf : fnIn K g = true)
    (h : wpAny M A (spliced (backTo pos (starEach (e :: rest) env))) (fun vs s₁ => K.In s₁.heap ∧ wpAny M A (call (.ref q) (first ++ vs)) Q E s₁) E s)
    (he : starEach (e :: rest) env = (false, eval e env) :: starEach rest env := by rfl) (hplain : (backTo pos (starEach rest env)).any (·.1) = false := by rfl) :
    wpAny M A (callWith pos (.ref q) first (backTo pos (starEach (e :: rest) env)) []) Q E s := by
  rw [he] at h ⊢
  exact callWith_of (by show ((false || (backTo pos (starEach rest env)).any (·.1)) || false) = false; rw [hplain]; rfl) (fun h X => keeps_M hf h ⟨X _ _ hl, X⟩) (PySem.Calls.evalArgs_plain h)
set_option maxRecDepth 100000 in
set_option maxHeartbeats 8000000 in
theorem t_dl10 (w : World) (mean) (mg mb) (c e p : Int) (tc te tp : Tok) : Tell 3 w mean mg mb 50 (0 < c ∧ c.natAbs.log2 < 1920 ∧ intBits e ≤ 4000000 ∧ 0 ≤ p ∧ p ≤ 44) [.int c tc, .int e te, .int p tp] (fun t => .int (dlog10N c e p) t) := by
  unfold Tell; k_fill
  intro news dp un gd cn cs aa ccd cl outer A₀ base h₀ L m s Q E B F X N T hk hpre hd hu hret
  obtain ⟨hc0, hcl, heb, hp0, hp1⟩ := hpre
  have hl1 : ndig c ≤ 1921 := by
    have := int_text_len_1921 hcl
    unfold ndig; omega
  have hkb := dl_kbound (e := e) (q := p + 2) hc0 hl1 (by omega) (by omega)
  have hBig := big_ge
  have hcb : intBits c ≤ 5000000 := bits_log2 hcl
  have hkk : (e + (p + 2) - (e + ((Str.ofString (toString c)).length : Int) - if decide (1 ≤ e + ((Str.ofString (toString c)).length : Int)) = true then 1 else 0)) = dl_k c e (p + 2) := rfl
  have hff : (e + ((Str.ofString (toString c)).length : Int) - if decide (1 ≤ e + ((Str.ofString (toString c)).length : Int)) = true then 1 else 0) = dl_f c e := rfl
  refine wpAny_call ?_
  k_dflt cell_enter
  k_with_none
  k_with "! callWith ref" => (k_here; (with_reducible show wpAny _ _ (callWith _ (Value.ref 82) _ _ _) _ _ _); k_dflt (refine' callWith_MK ?k1 ?k2 ?k3 ?_; (case k1 => k_asm); (case k2 => k_is); (case k3 => k_is); k_whole))
  k_with "! call ref" => (k_here; (with_reducible show wpAny _ _ (call (Value.ref 35) [Value.int _ _, Value.int _ _]) _ _ _); k_dflt (refine' t_div _ _ _ _ _ _ _ _ _ _ _ _ _ _ _ _ _ _ _ _ _ _ _ _ _ _ ?k1 ?k2 ?k3 ?k4 ?k5 ?kK ?kp ?kd ?ku ?_; (case k1 => k_asm); (case k2 => k_asm); (case k3 => k_asm); (case k4 => k_asm); (case k5 => k_asm); (case kK => first | exact rfl | assumption); (case kp => first | exact ⟨by assumption, by assumption⟩ | exact ⟨by omega, by omega⟩ | k_extra "pre"); (case kd => ktr_room); (case ku => ktr_units)); intro t9 h9 tk9 F9 N9; (try dsimp only); (try k_fold))
  k_with "! call ref" => (k_here; (with_reducible show wpAny _ _ (call (Value.ref 43) [Value.int _ _, Value.int _ _]) _ _ _); k_dflt (refine' t_ilog _ _ _ _ _ _ _ _ _ _ _ _ _ _ _ _ _ _ _ _ _ _ _ _ _ _ ?k1 ?k2 ?k3 ?k4 ?k5 ?kK ?kp ?kd ?ku ?_; (case k1 => k_asm); (case k2 => k_asm); (case k3 => k_asm); (case k4 => k_asm); (case k5 => k_asm); (case kK => first | exact rfl | assumption); (case kp => first | assumption | k_extra "pre"); (case kd => ktr_room); (case ku => ktr_units)); intro t9 h9 tk9 F9 N9; (try dsimp only); (try k_fold))
  k_with "! call ref" => (k_here; (with_reducible show wpAny _ _ (call (Value.ref 82) [Value.int _ _]) _ _ _); k_dflt (refine' t_dig _ _ _ _ _ _ _ _ _ _ _ _ _ _ _ _ _ _ _ _ _ _ _ _ ?k1 ?k2 ?k3 ?k4 ?k5 ?kK ?kp ?kd ?ku ?_; (case k1 => k_asm); (case k2 => k_asm); (case k3 => k_asm); (case k4 => k_asm); (case k5 => k_asm); (case kK => first | exact rfl | assumption); (case kp => exact ⟨by omega, by omega⟩); (case kd => ktr_room); (case ku => ktr_units)); intro t9 h9 tk9 F9 N9; (try dsimp only); (try k_fold))
  k_with "! binaryOp Pow int int" => (k_here; (with_reducible refine pow_int_small ?kb1 ?kb2 ?kb3 ?_); (case kb1 => k_extra "pow0"); (case kb2 => k_extra "pow1"); (case kb3 => decide))
  k_with "! call type:str" => (k_here; (with_reducible show wpAny _ _ (call (Value.type "str") [Value.int _ _]) _ _ _); (refine P.str_of_int ?ks1 ?_); (case ks1 => assumption))
  k_with "! call builtin:len" => (k_here; (with_reducible show wpAny _ _ (call (Value.builtin "len") [Value.str _ _]) _ _ _); (refine SBL.len ?ks1 ?_); (case ks1 => (have h9 := int_text_len_1921 (by assumption); omega)))
  k_with "pow0" => (first | omega | assumption | exact neg_nonneg_of (by assumption))
  k_with "pow1" => (first | omega | (rw [hkk]; exact Int.le_trans hkb.1 (by decide)) | (rw [hkk]; exact neg_le_of hkb.2))
  k_with "mul" => (first | (rw [hkk]; exact mul_ten hcb (toNat_le_of hkb.1)) | exact mul_ten (ilog_bits1 hc0 (by omega) (by omega) hkk (by assumption)) (by omega) | exact mul_ten (ilog_bits2 hc0 (by omega) (by omega) hkk (by assumption)) (by omega) | (rw [hff]; exact mul_ten (dl_fbits heb hl1 hc0) (by omega)))
  k_with "pre" => (first | (rw [hkk]; exact ⟨ten_pos _, ten_big (toNat_neg_of hkb.2)⟩) | exact log10D_pos (by omega) (by omega) | (rw [hkk]; exact dl_pre1 hc0 (by omega) (by omega) (by rw [← hkk]; assumption)) | (rw [hkk]; exact dl_pre2 hc0 (by omega) (by omega) (by rw [← hkk]; assumption)))
  k_with "tree" => (rw [hkk, hff]; first | exact dl_val1 (by omega) (by rw [← hkk]; assumption) | exact dl_val2 (by omega) (by rw [← hkk]; assumption))
  k_steps
  all_goals cb_end hret

end
section
theorem ints_at : ∀ {vs : List Value} {ms : List Int} {i : Nat} {v : Value}, IntsAre vs ms → vs[i]? = some v → ∃ n t, v = .int n t ∧ n ∈ ms
  | _, _, i, v, .nil, h => by simp at h
  | _, _, 0, v, .cons n t r, h => by simp at h; exact ⟨n, t, h.symm, by simp⟩
  | _, _, i + 1, v, .cons n t r, h => by
    obtain ⟨m, u, e, hm⟩ := ints_at r (i := i) (v := v) (by simpa using h)
    exact ⟨m, u, e, by simp [hm]⟩
theorem num_any {vs : List Value} {ms : List Int} {i : Nat} {v : Value} (hI : IntsAre vs ms) (h : vs[i]? = some v) : ∃ n t, v = .int n t := by
  obtain ⟨n, t, e, hm⟩ := ints_at hI h
  exact ⟨n, t, e⟩
theorem num_one {a : Int} {u : Tok} {i : Nat} {v : Value} (h : ([Value.int a u] : List Value)[i]? = some v) : ∃ n t, v = .int n t := by
  match i, h with
  | 0, h => simp at h; exact ⟨_, _, h.symm⟩
  | k + 1, h => simp at h
theorem two_casesP {a1 a2 : Int} {t1 t2 : Tok} {i : Nat} {v : Value} {P : Int → Prop} (h : [Value.int a1 t1, .int a2 t2][i]? = some v) (p1 : P a1) (p2 : P a2) : ∃ y t, v = .int y t ∧ P y := by
  match i, h with
  | 0, h => simp at h; exact ⟨_, _, h.symm, p1⟩
  | 1, h => simp at h; exact ⟨_, _, h.symm, p2⟩
  | k + 2, h => simp at h
theorem len3 {ns : List Int} (h : decide (ns = []) = false) (h2 : 0 < -(ns.length : Int) ∨ (ns.length : Int) ≤ 0) : False := by
  have h3 := of_decide_eq_false h
  have := List.length_pos_iff.mpr h3
  omega
/-- what holds of c, of e, of places -/
def C3 (c : Int) : Prop := 2 ≤ c ∧ c ≤ 1199999 ∧ c % 3 = 2
theorem c3_ok (n : Int) : C3 (3 * (if n < 0 then -n else n).fmod 400000 + 2) := by
  have h0 := fmod_lo (if n < 0 then -n else n) (n := 400000) (by decide)
  have h1 := fmod_hi (if n < 0 then -n else n) (n := 400000) (by decide)
  unfold C3
  omega
def E3 (e : Int) : Prop := -11 ≤ e ∧ e ≤ 4
theorem e3a (n : Int) : E3 (n.fmod 5) := by
  have h0 := fmod_lo n (n := 5) (by decide)
  have h1 := fmod_hi n (n := 5) (by decide)
  unfold E3; omega
theorem e3b (n : Int) : E3 (-7 - n.fmod 5) := by
  have h0 := fmod_lo n (n := 5) (by decide)
  have h1 := fmod_hi n (n := 5) (by decide)
  unfold E3; omega
def Q3 (s places : Int) : Prop := (s + 1 ≤ places ∧ places ≤ s + 8) ∧ (places - s) % 3 ≠ 0
theorem q3lo {s p : Int} (h : Q3 s p) : s + 1 ≤ p := h.1.1
theorem q3hi {s p : Int} (h : Q3 s p) : p ≤ s + 8 := h.1.2
theorem q3a (s : Int) : Q3 s (s + 1) := by unfold Q3; omega
theorem q3b (s : Int) : Q3 s (s + 2) := by unfold Q3; omega
/-- between the turns of the search for places -/
structure W3 (c e s places told : Int) : Prop where
  t : told = dlog10N c e places
  q : Q3 s places
  c : C3 c
  e : E3 e
  s0 : 0 ≤ s
  s1 : s ≤ 3
theorem s_ok (x : Int) : 0 ≤ x.fmod 4 ∧ x.fmod 4 ≤ 3 := by
  have h0 := fmod_lo x (n := 4) (by decide)
  have h1 := fmod_hi x (n := 4) (by decide)
  omega
theorem W3.l {c e s places told : Int} (w : W3 c e s places told) : L3 c e s places := by
  have a := w.q; have b := w.c; have d := w.e; have s0 := w.s0; have s1 := w.s1
  unfold Q3 at a; unfold C3 at b; unfold E3 at d
  exact ⟨by omega, by omega, by omega, by omega, s0, s1, by omega, by omega⟩
theorem pre_any {c e p : Int} (b : C3 c) (d : E3 e) (p0 : 0 ≤ p) (p1 : p ≤ 44) : 0 < c ∧ c.natAbs.log2 < 1920 ∧ intBits e ≤ 4000000 ∧ 0 ≤ p ∧ p ≤ 44 := by
  unfold C3 at b; unfold E3 at d
  have c2 : c ≤ 10 ^ 200 := Int.le_trans (b := 10 ^ 7) (by
    have : (10 : Int) ^ 7 = 10000000 := by decide
    omega) (ten_le (by decide))
  exact ⟨by omega, log2_200 (by omega) c2, Nat.le_trans (bits_sm (by omega) (by omega)) (by decide), p0, p1⟩
theorem pre_first {c e x p : Int} (b : C3 c) (d : E3 e) (q : Q3 (x.fmod 4) p) : 0 < c ∧ c.natAbs.log2 < 1920 ∧ intBits e ≤ 4000000 ∧ 0 ≤ p ∧ p ≤ 44 := by
  have s := s_ok x
  unfold Q3 at q
  exact pre_any b d (by omega) (by omega)
theorem W3.room {c e s places told : Int} (w : W3 c e s places told) (hz : told.fmod (5 * 10 ^ (places - s - 1).toNat) = 0) : Q3 s (places + 3) := by
  have a := w.q
  have hn : ¬ s + 7 ≤ places := fun hp => w.l.stop w.c.2.2 hp (by rw [← w.t]; exact hz)
  unfold Q3 at *
  omega
theorem W3.pre {c e s places told : Int} (w : W3 c e s places told) (hz : told.fmod (5 * 10 ^ (places - s - 1).toNat) = 0) : 0 < c ∧ c.natAbs.log2 < 1920 ∧ intBits e ≤ 4000000 ∧ 0 ≤ places + 3 ∧ places + 3 ≤ 44 := by
  have a := w.room hz; have s0 := w.s0; have s1 := w.s1
  unfold Q3 at a
  exact pre_any w.c w.e (by omega) (by omega)
theorem W3.start {c e x places : Int} (b : C3 c) (d : E3 e) (q : Q3 (x.fmod 4) places) : (x.fmod 4 + 1 ≤ places ∧ places ≤ x.fmod 4 + 8) ∧ W3 c e (x.fmod 4) places (dlog10N c e places) :=
  ⟨q.1, rfl, q, b, d, (s_ok x).1, (s_ok x).2⟩
theorem W3.next {c e s places told : Int} (w : W3 c e s places told) (hz : told.fmod (5 * 10 ^ (places - s - 1).toNat) = 0) : (s + 1 ≤ places + 3 ∧ places + 3 ≤ s + 8) ∧ W3 c e s (places + 3) (dlog10N c e (places + 3)) :=
  ⟨(w.room hz).1, rfl, w.room hz, w.c, w.e, w.s0, w.s1⟩
theorem W3.meas {c e s places told : Int} (w : W3 c e s places told) : (20 - (places + 3)).toNat < (20 - places).toNat := by
  have a := w.q; have s0 := w.s0; have s1 := w.s1
  unfold Q3 at a
  omega
theorem two_hu {s places : Int} (h : s + 1 ≤ places) : 2 * hu3 s places = 10 ^ (places - s).toNat := by
  unfold hu3
  have : (places - s).toNat = (places - s - 1).toNat + 1 := by omega
  rw [this, Int.pow_succ]; omega
theorem pw_nat (s : Int) : (2 * 10 ^ s.toNat : Int).toNat = pw3 s := by
  rw [← pw3_cast]; omega
theorem W3.fin {c e s places told : Int} (w : W3 c e s places told) (hz : ¬ told.fmod (5 * 10 ^ (places - s - 1).toNat) = 0) {g : Int} (hg : g = 2 * (2 * told + 10 ^ (places - s).toNat).fdiv (2 * 10 ^ (places - s).toNat) - e * (2 * 10 ^ s.toNat)) :
    0 ≤ g ∧ g ≤ 20000 ∧ 10 ^ g.toNat < 10 * c ^ (2 * 10 ^ s.toNat : Int).toNat ∧ 10 * c ^ (2 * 10 ^ s.toNat : Int).toNat < 10 ^ (g + 2).toNat := by
  have ht := w.t
  rw [ht] at hz hg
  rw [pw_nat]
  refine w.l.fin hz (r := (2 * dlog10N c e places + 10 ^ (places - s).toNat).fdiv (2 * 10 ^ (places - s).toNat)) ?_ ?_
  · rw [two_hu w.l.p0]
  · rw [pw3_cast]; exact hg
theorem C3.bits {c : Int} (h : C3 c) : intBits c ≤ 64 := by unfold C3 at h; exact intBits_le_64 (by omega) (by omega)
theorem cp_ok {c s : Int} (b : C3 c) (s0 : 0 ≤ s) (s1 : s ≤ 3) : (intBits c : Int) * (2 * 10 ^ s.toNat) ≤ 2 ^ 27 := by
  have h := C3.bits b
  have k : (10 : Int) ^ s.toNat ≤ 10 ^ 3 := ten_le (by omega)
  have e3 : (10 : Int) ^ 3 = 1000 := by decide
  have p := ten_pos s.toNat
  have m := mul_lo (a := (intBits c : Int)) (b := 2 * 10 ^ s.toNat) (c := 64) (d := 2000) (by omega) (by omega) (by omega) (by omega)
  have e : (2 : Int) ^ 27 = 134217728 := by decide
  omega
theorem W3.cp1 {c e s places told : Int} (w : W3 c e s places told) : (intBits c : Int) * (2 * 10 ^ s.toNat) ≤ 2 ^ 27 := cp_ok w.c w.s0 w.s1
theorem cp0 (s : Int) : (0 : Int) ≤ 2 * 10 ^ s.toNat := by have := ten_pos s.toNat; omega
theorem E3.bits {e : Int} (h : E3 e) : intBits e ≤ 64 := by unfold E3 at h; exact intBits_le_64 (by omega) (by omega)
theorem five_ne (k : Nat) : (5 * 10 ^ k : Int) ≠ 0 := by have := ten_pos k; omega
theorem unit_fd (k : Nat) : (0 : Int) < 2 * 10 ^ k := by have := ten_pos k; omega
theorem unit_big {places s : Int} (h : places ≤ s + 8) : (2 * 10 ^ (places - s).toNat : Int) ≤ Big := by
  have k : (10 : Int) ^ (places - s).toNat ≤ 10 ^ 8 := ten_le (by omega)
  have e : (10 : Int) ^ 8 = 100000000 := by decide
  have b : (10 : Int) ^ 9 ≤ Big := ten_big (by decide)
  have e9 : (10 : Int) ^ 9 = 1000000000 := by decide
  omega
theorem lt_no {prog : Program} {w : World} {A : Around} {E : Value → Shared → Prop} {s : Shared} {a b : Int} {t u : Tok} {Q : Value → Shared → Prop} (h : ¬ a < b) (hq : Q (.bool false) s) : wpAny (model prog w) A (compareOp .Lt (.int a t) (.int b u)) Q E s :=
  lt_int (by rw [decide_eq_false h]; exact hq)
theorem lt_yes {prog : Program} {w : World} {A : Around} {E : Value → Shared → Prop} {s : Shared} {a b : Int} {t u : Tok} {Q : Value → Shared → Prop} (h : a < b) (hq : Q (.bool true) s) : wpAny (model prog w) A (compareOp .Lt (.int a t) (.int b u)) Q E s :=
  lt_int (by rw [decide_eq_true h]; exact hq)
theorem W3.f0 {c e s places told : Int} (w : W3 c e s places told) (hz : ¬ told.fmod (5 * 10 ^ (places - s - 1).toNat) = 0) : ¬ 2 * (2 * told + 10 ^ (places - s).toNat).fdiv (2 * 10 ^ (places - s).toNat) - e * (2 * 10 ^ s.toNat) < 0 := by
  have := (w.fin hz rfl).1; omega
theorem W3.f1 {c e s places told : Int} (w : W3 c e s places told) (hz : ¬ told.fmod (5 * 10 ^ (places - s - 1).toNat) = 0) : 0 ≤ 2 * (2 * told + 10 ^ (places - s).toNat).fdiv (2 * 10 ^ (places - s).toNat) - e * (2 * 10 ^ s.toNat) ∧ 2 * (2 * told + 10 ^ (places - s).toNat).fdiv (2 * 10 ^ (places - s).toNat) - e * (2 * 10 ^ s.toNat) ≤ 1000000 ∧ 0 ≤ 2 * (2 * told + 10 ^ (places - s).toNat).fdiv (2 * 10 ^ (places - s).toNat) - e * (2 * 10 ^ s.toNat) + 2 ∧ 2 * (2 * told + 10 ^ (places - s).toNat).fdiv (2 * 10 ^ (places - s).toNat) - e * (2 * 10 ^ s.toNat) + 2 ≤ 1000000 := by
  have h := w.fin hz rfl
  have h0 := h.1; have h1 := h.2.1
  omega
set_option maxRecDepth 100000 in
set_option maxHeartbeats 8000000 in
theorem foo : PySem.Challenge.rw_dm0270_03.Holds := hd (by
  k_go0
  (rename Heap.CodeRec _ _ _ => hX9; clear hX9)
  (rename (Dflts ..) => hX9; clear hX9)
  dsimp only
  (with_reducible change wpAny _ _ _ _ _ _)
  k_fold
  k_with_none
  k_with "! call ref" => (k_here; (with_reducible show wpAny _ _ (call (Value.ref 50) [Value.int _ _, Value.int _ _, Value.int _ _]) _ _ _); k_dflt (refine' t_dl10 _ _ _ _ _ _ _ _ _ _ _ _ _ _ _ _ _ _ _ _ _ _ _ _ _ _ _ _ ?k1 ?k2 ?k3 ?k4 ?k5 ?kK ?kp ?kd ?ku ?_; (case k1 => k_asm); (case k2 => k_asm); (case k3 => k_asm); (case k4 => k_asm); (case k5 => k_asm); (case kK => first | exact rfl | assumption); (case kp => k_extra "pre"); (case kd => ktr_room); (case ku => ktr_units)); intro t9 h9 tk9 F9 N9; (try dsimp only); (try k_fold))
  k_with "! binaryOp Pow int int" => (k_here; (with_reducible refine pow_int_small ?kb1 ?kb2 ?kb3 ?_); (case kb1 => first | omega | k_extra "pow0"); (case kb2 => first | omega | k_extra "pow1"); (case kb3 => decide))
  k_with "! binaryOp Pow int int" => (k_here; (with_reducible refine pow_int ?kb1 ?kb2 ?_); (case kb1 => k_extra "cp0"); (case kb2 => k_extra "cp1"))
  k_with "! execs cons" => (k_here; dsimp only)
  k_with "! execs nil" => (k_here; dsimp only)
  k_with "! UnrEndW" => (k_here; (fail_if_success plain_pass); k_dflt (walk_at "UnrEndW"))
  k_with "! eval Slice" => (k_here; dsimp only)
  k_with "! exec Assign" => (k_here; dsimp only)
  k_with "! storeName" => (k_here; dsimp only)
  k_with "! exec For Name Name cons nil" => (k_here; (rename Fr _ _ _ _ => lF'); (with_unfolding_all refine' For_turns lF' ?_; k_whole))
  k_with "! exec For Name Tuple cons nil" => (k_here; (rename Fr _ _ _ _ => lF'); (with_unfolding_all refine' For_turns lF' ?_; k_whole))
  k_with "! pyIter ref" => (k_here; (with_reducible show wpAny _ _ (pyIter (Value.ref _)) (fun it s₂ => TurnsAt _ _ _ _ _ (PySem.Expr.Name (PySem.Str.ofString "number") _) _ _ _ it s₂) _ _); k_dflt (refine' list_zero [PySem.Str.ofString "number", PySem.Str.ofString "c", PySem.Str.ofString "e", PySem.Str.ofString "places", PySem.Str.ofString "told", PySem.Str.ofString "unit", PySem.Str.ofString "r", PySem.Str.ofString "g"] ?hh ?F ?N ?hm ?hc ?hd ?_ ?_; (case hh => exact rfl); (case F => k_asm); (case N => k_asm); (case hm => k_mem); (case hc => exact rfl); (case hd => exact rfl)); (all_goals (first | (intro I9 l9 i9 v9 u9 h9 tk9 o9 c9 hv9 F9 N9; k_dflt (first | (have q9 := num_one hv9) | (have q9 := num_any (by assumption) hv9)); (obtain ⟨n9, t9, e9⟩ := q9); subst e9; clear hv9; (try k_lt l9); (have hc3 := c3_ok n9); (try k_fold)) | ((intro u9 h9 tk9 F9 N9); (fail_if_success (with_reducible intro q9))))))
  k_with "! pyIter ref" => (k_here; (with_reducible show wpAny _ _ (pyIter (Value.ref _)) (fun it s₂ => TurnsAt _ _ _ _ _ (PySem.Expr.Name (PySem.Str.ofString "e") _) _ _ _ it s₂) _ _); k_dflt (refine' tup_zero (vs := [_, _]) [PySem.Str.ofString "e", PySem.Str.ofString "places", PySem.Str.ofString "told", PySem.Str.ofString "unit", PySem.Str.ofString "r", PySem.Str.ofString "g"] ?hh ?F ?N ?hm ?hc ?hd ?_ ?_; (case hh => exact rfl); (case F => k_asm); (case N => k_asm); (case hm => k_mem); (case hc => exact rfl); (case hd => exact rfl)); (all_goals (first | (intro I9 l9 i9 v9 u9 h9 tk9 o9 c9 hv9 F9 N9; k_dflt (have q9 := two_casesP (P := E3) hv9 (e3a _) (e3b _)); (obtain ⟨y9, t9, e9, hE9⟩ := q9); subst e9; clear hv9; (try k_lt l9); (try k_fold)) | ((intro u9 h9 tk9 F9 N9); (fail_if_success (with_reducible intro q9))))))
  k_with "! pyIter ref" => (k_here; (with_reducible show wpAny _ _ (pyIter (Value.ref _)) (fun it s₂ => TurnsAt _ _ _ _ _ (PySem.Expr.Name (PySem.Str.ofString "places") _) _ _ _ it s₂) _ _); k_dflt (refine' tup_zero (vs := [_, _]) [PySem.Str.ofString "places", PySem.Str.ofString "told", PySem.Str.ofString "unit", PySem.Str.ofString "r", PySem.Str.ofString "g"] ?hh ?F ?N ?hm ?hc ?hd ?_ ?_; (case hh => exact rfl); (case F => k_asm); (case N => k_asm); (case hm => k_mem); (case hc => exact rfl); (case hd => exact rfl)); (all_goals (first | (intro I9 l9 i9 v9 u9 h9 tk9 o9 c9 hv9 F9 N9; k_dflt (have q9 := two_casesP (P := Q3 _) hv9 (q3a _) (q3b _)); (obtain ⟨y9, t9, e9, hQ9⟩ := q9); subst e9; clear hv9; (have hq90 := q3lo hQ9); (have hq91 := q3hi hQ9); (try k_lt l9); (try k_fold)) | ((intro u9 h9 tk9 F9 N9); (fail_if_success (with_reducible intro q9))))))
  k_with "! TurnEnd0" => ((dsimp only [TurnEnd0]); exact ⟨_, _, _, rfl, by k_asm, cb_drop (by k_asm) (by first | exact fun p hp => hp | exact fun p hp => List.mem_cons_of_mem _ hp | kcj_all), by (intro y h2; (simp only [List.contains_cons, List.contains_nil, Bool.or_false, Bool.or_eq_false_iff, beq_eq_false_iff_ne, ne_eq] at h2); (simp [h2]))⟩)
  k_with "! binaryOp Mod int int" => (k_here; (with_reducible refine mod_int' ?kbe ?_); (case kbe => exact five_ne _))
  k_with "! binaryOp FloorDiv int int" => (k_here; (with_reducible refine floordiv_int ?kbe ?_ (Or.inl (PyProof.noPylong_of_log2 (log2_big ?kb1 ?kb2)))); (case kbe => exact Int.ne_of_gt (unit_fd _)); (case kb1 => exact Int.le_of_lt (unit_fd _)); (case kb2 => exact unit_big (by assumption)))
  k_with "! compareOp Lt int int" => (k_here; k_dflt (refine lt_no ?kne ?_; (case kne => k_extra "ltn")))
  k_with "! compareOp Lt int int" => (k_here; k_dflt (refine lt_yes ?kne ?_; (case kne => k_extra "lty")))
  k_with "mul" => (first | exact IntMulOk.of_left (E3.bits (by assumption)) | exact IntMulOk.of_left (intBits_le_64 (by omega) (by omega)))
  k_with "pre" => (first | exact W3.pre (by assumption) (by assumption) | exact pre_first (by assumption) (by assumption) (by assumption))
  k_with "exec While Compare cons nil" => k_while_given ["c", "e", "s"] (fun c e s _ places told => (s + 1 ≤ places ∧ places ≤ s + 8) ∧ W3 c e s places told) (fun c e s _ places told => (20 - places).toNat) "places" "told"
  k_with "state" => (first | exact W3.start (by assumption) (by assumption) (by assumption) | exact W3.next (by assumption) (by assumption))
  k_with "measure" => exact W3.meas (by assumption)
  k_with "pow0" => (first | exact (W3.f1 (by assumption) (by assumption)).1 | exact (W3.f1 (by assumption) (by assumption)).2.2.1)
  k_with "pow1" => (first | exact (W3.f1 (by assumption) (by assumption)).2.1 | exact (W3.f1 (by assumption) (by assumption)).2.2.2)
  k_with "cp0" => exact cp0 _
  k_with "cp1" => exact W3.cp1 (by assumption)
  k_with "ltn" => exact W3.f0 (by assumption) (by assumption)
  k_with "lty" => (first | exact (W3.fin (by assumption) (by assumption) rfl).2.2.1 | exact (W3.fin (by assumption) (by assumption) rfl).2.2.2)
  k_steps
  all_goals exact (len3 (by assumption) (by assumption)).elim)

end
end Mine
theorem PySem.Challenge.cw_dm0270_03_holds : PySem.Challenge.rw_dm0270_03.Holds := by
  exact Mine.foo
