import PyProof.Rows.All
import Wide.All
import OpenK.AllK
import Wide.FinOn
import PySem.Challenge.RW_dm0270_08
open PySem PySem.W PyProof.Rows PySem.Calls
open PySem.Builtin.Int (intBits)
set_option Elab.async false
set_option linter.unusedVariables false
set_option rowWalk.seconds 0
namespace Mine
set_option maxRecDepth 100000 in
set_option maxHeartbeats 8000000 in
open_top hd for PySem.Challenge.rw_dm0270_08
local macro_rules | `(tactic| walk_at $s:str) => do let t := Lean.Syntax.mkStrLit ("! " ++ s.getString); `(tactic| k_extra $t)
local macro_rules | `(tactic| mul_fits) => `(tactic| k_extra "mul")
section
def divN (a b : Int) : Int := a.fdiv b + (if decide (b < 2 * a.fmod b + Builtin.bitAnd (a.fdiv b) 1) = true then 1 else 0)
def rshN (x sh : Int) : Int := x.fdiv (2 ^ sh.toNat) + (if decide (1 * 2 ^ sh.toNat < 2 * Builtin.bitAnd x (1 * 2 ^ sh.toNat - 1) + Builtin.bitAnd (x.fdiv (2 ^ sh.toNat)) 1) = true then 1 else 0)
def isq : Nat → Nat → Nat
  | 0, _ => 0
  | k + 1, n => if n = 0 then 0 else
      let r := 2 * isq k (n / 4)
      if (r + 1) * (r + 1) ≤ n then r + 1 else r
@[irreducible] def sqrtN (n : Int) : Int :=
  let r : Int := isq 10000 n.toNat
  if r * r + r < n then r + 1 else r
def nxt (n a : Int) : Int := (a - (-n).fdiv a).fdiv 2
def IsSq (n s : Int) : Prop := 0 < s ∧ s * s - s < n ∧ n ≤ s * s + s

theorem isq_spec : ∀ (k n : Nat), n < 4 ^ k → isq k n * isq k n ≤ n ∧ n < (isq k n + 1) * (isq k n + 1)
  | 0, n, h => by simp at h; subst h; simp [isq]
  | k + 1, n, h => by
    unfold isq
    split
    · next h0 => subst h0; simp
    · have ih := isq_spec k (n / 4) (by rw [Nat.pow_succ] at h; omega)
      generalize isq k (n / 4) = r at ih
      obtain ⟨h1, h2⟩ := ih
      dsimp only
      have e1 : (2 * r) * (2 * r) = 4 * (r * r) := by grind
      have e2 : (2 * r + 1) * (2 * r + 1) = 4 * (r * r) + 4 * r + 1 := by grind
      have e3 : (2 * r + 1 + 1) * (2 * r + 1 + 1) = 4 * ((r + 1) * (r + 1)) := by grind
      split
      · next h3 => exact ⟨h3, by rw [e3]; omega⟩
      · next h3 => exact ⟨by rw [e1]; omega, by omega⟩

@[irreducible] def Big : Int := 2 ^ 8000
theorem big_toNat {n : Int} (h : n ≤ Big) : n.toNat < 4 ^ 10000 := by
  have h1 : (2 ^ 8000 : Nat) < 4 ^ 10000 := by decide +kernel
  have h2 : n.toNat ≤ 2 ^ 8000 := by
    unfold Big at h
    refine Int.toNat_le.mpr ?_
    have e : ((2 ^ 8000 : Nat) : Int) = (2 : Int) ^ 8000 := Int.natCast_pow 2 8000
    rw [e]; exact h
  exact Nat.lt_of_le_of_lt h2 h1
theorem log2_big {n : Int} (h0 : 0 ≤ n) (h : n ≤ Big) : n.natAbs.log2 < 9000 := by
  by_cases hz : n.natAbs = 0
  · rw [hz]; decide +kernel
  · refine (Nat.log2_lt hz).mpr ?_
    have h1 : (2 ^ 8000 : Nat) < 2 ^ 9000 := by decide +kernel
    refine Nat.lt_of_le_of_lt ?_ h1
    unfold Big at h
    have e : ((2 ^ 8000 : Nat) : Int) = (2 : Int) ^ 8000 := Int.natCast_pow 2 8000
    rw [← e] at h
    generalize (2 ^ 8000 : Nat) = k at h ⊢
    omega
theorem sqrtN_spec {n : Int} (h0 : 0 < n) (h1 : n ≤ Big) : IsSq n (sqrtN n) := by
  have hk := isq_spec 10000 n.toNat (big_toNat h1)
  unfold sqrtN IsSq
  clear h1
  generalize isq 10000 n.toNat = r at hk
  obtain ⟨h2, h3⟩ := hk
  have en : (n.toNat : Int) = n := by omega
  have h2' : (r : Int) * r ≤ n := by rw [← en]; exact_mod_cast h2
  have h3' : n < ((r : Int) + 1) * (r + 1) := by rw [← en]; exact_mod_cast h3
  dsimp only
  have e : ((r : Int) + 1) * (r + 1) = r * r + 2 * r + 1 := by grind
  rw [e] at h3'
  clear h2 h3
  split
  · next h4 =>
    clear en h2' 
    generalize (r : Int) = q at *
    generalize n.toNat = zz at *
    exact ⟨by omega, by grind, by grind⟩
  · next h4 =>
    have hr0 : 0 ≤ (r : Int) := by omega
    generalize (r : Int) = q at *
    have hq : 0 < q := by
      refine Int.not_le.mp fun h => ?_
      have hq : q = 0 := by omega
      subst hq
      omega
    exact ⟨hq, by grind, by grind⟩

theorem ceil_spec {n a : Int} (ha : 0 < a) : n ≤ (-(-n).fdiv a) * a ∧ (-(-n).fdiv a) * a < n + a := by
  have h := Int.mul_fdiv_add_fmod (-n) a
  have h1 := fmod_lo (-n) ha
  have h2 := fmod_hi (-n) ha
  have e : (-(-n).fdiv a) * a = - (a * (-n).fdiv a) := by grind
  rw [e]; omega
theorem fdiv2 (x : Int) : 2 * x.fdiv 2 ≤ x ∧ x < 2 * x.fdiv 2 + 2 := by
  have h := Int.mul_fdiv_add_fmod x 2
  have h1 := fmod_lo x (n := 2) (by omega)
  have h2 := fmod_hi x (n := 2) (by omega)
  omega
theorem nxt_ge {n a s : Int} (ha : 0 < a) (hn : 0 < n) (hs : IsSq n s) : s ≤ nxt n a := by
  obtain ⟨s0, s1, s2⟩ := hs
  unfold nxt
  have hc := ceil_spec (n := n) ha
  have h2 := fdiv2 (a - (-n).fdiv a)
  generalize (-n).fdiv a = d at *
  suffices h : 2 * s ≤ a - d by omega
  refine Int.not_lt.mp fun hlt => ?_
  have hd : 0 < -d := by
    refine Int.not_le.mp fun h => ?_
    have : -d * a ≤ 0 := Int.mul_nonpos_of_nonpos_of_nonneg h (by omega)
    omega
  have h4 : (a - d) * (a - d) ≤ (2 * s - 1) * (2 * s - 1) := Int.mul_le_mul (by omega) (by omega) (by omega) (by omega)
  have h5 : 0 ≤ (a + d) * (a + d) := by
    rcases Int.le_total 0 (a + d) with h | h
    · exact Int.mul_nonneg h h
    · exact Int.mul_nonneg_of_nonpos_of_nonpos h h
  grind
theorem nxt_lt {n a s : Int} (hs : IsSq n s) (h : s < a) : nxt n a < a := by
  obtain ⟨s0, s1, s2⟩ := hs
  unfold nxt
  have ha : 0 < a := by omega
  have hc := ceil_spec (n := n) ha
  have h2 := fdiv2 (a - (-n).fdiv a)
  generalize (-n).fdiv a = d at *
  suffices h : -d < a by omega
  refine Int.not_le.mp fun hle => ?_
  have h3 : a * a ≤ -d * a := Int.mul_le_mul_of_nonneg_right hle (by omega)
  have h4 : (s + 1) * (s + 1) ≤ a * a := Int.mul_le_mul (by omega) (by omega) (by omega) (by omega)
  have h5 : s * s + s ≤ a * a - a := by
    have : (s + 1) * s ≤ a * (a - 1) := Int.mul_le_mul (by omega) (by omega) (by omega) (by omega)
    grind
  omega
theorem nxt_eq {n s : Int} (hs : IsSq n s) : nxt n s = s := by
  obtain ⟨s0, s1, s2⟩ := hs
  unfold nxt
  have hc := ceil_spec (n := n) s0
  have h2 := fdiv2 (s - (-n).fdiv s)
  generalize (-n).fdiv s = d at *
  have h3 : s ≤ -d := by
    refine Int.not_lt.mp fun h => ?_
    have : -d * s ≤ (s - 1) * s := Int.mul_le_mul_of_nonneg_right (by omega) (by omega)
    grind
  have h4 : -d ≤ s + 1 := by
    refine Int.not_lt.mp fun h => ?_
    have : (s + 2) * s ≤ -d * s := Int.mul_le_mul_of_nonneg_right (by omega) (by omega)
    grind
  omega
theorem nxt_le {n a : Int} (ha : 0 < a) (hn : 0 < n) : nxt n a ≤ n ∨ nxt n a ≤ a := by
  unfold nxt
  have hc := ceil_spec (n := n) ha
  have h2 := fdiv2 (a - (-n).fdiv a)
  generalize (-n).fdiv a = d at *
  have hd : -d ≤ n := by
    refine Int.not_lt.mp fun h => ?_
    have h3 : (n + 1) * a ≤ -d * a := Int.mul_le_mul_of_nonneg_right (by omega) (by omega)
    have h4 : n * 1 ≤ n * a := Int.mul_le_mul_of_nonneg_left (by omega) (by omega)
    have h5 : n * 1 * 1 ≤ n * a := by omega
    grind
  omega

end
section
def sqP (n a b : Int) : Prop := 0 < a ∧ a ≤ Big ∧ (b = 0 ∨ (0 < b ∧ a = nxt n b))
def sqM (n a b : Int) : Nat := if a < sqrtN n then (n + 2).toNat else if a = sqrtN n ∧ b = sqrtN n then 0 else (a - sqrtN n + 1).toNat
theorem sqP_next {n a b : Int} (h0 : 0 < n) (h1 : n ≤ Big) (h : sqP n a b) : sqP n (nxt n a) a := by
  obtain ⟨ha, hb, _⟩ := h
  have hs := sqrtN_spec h0 h1
  have hg := nxt_ge ha h0 hs
  have hl := nxt_le ha h0
  have := hs.1
  exact ⟨by omega, by omega, Or.inr ⟨ha, rfl⟩⟩
theorem isSq_le {n s : Int} (h : IsSq n s) : s ≤ n := by
  obtain ⟨h1, h2, h3⟩ := h
  refine Int.not_lt.mp fun h => ?_
  have : (s - 1) * 1 ≤ (s - 1) * s := Int.mul_le_mul_of_nonneg_left (by omega) (by omega)
  grind
theorem sqM_next {n a b : Int} (h0 : 0 < n) (h1 : n ≤ Big) (h : sqP n a b) (hne : ¬ a = b) : sqM n (nxt n a) a < sqM n a b := by
  obtain ⟨ha, hb, _⟩ := h
  have hs := sqrtN_spec h0 h1
  have hsn := isSq_le hs
  have hg := nxt_ge ha h0 hs
  have hl := nxt_le ha h0
  have hs0 := hs.1
  unfold sqM
  by_cases c1 : a < sqrtN n
  · rw [if_pos c1, if_neg (by omega)]
    split
    · omega
    · omega
  · rw [if_neg c1, if_neg (by omega)]
    by_cases c2 : a = sqrtN n
    · have e : nxt n a = sqrtN n := by rw [c2]; exact nxt_eq hs
      rw [if_pos ⟨e, c2⟩, if_neg (by omega)]
      omega
    · have hlt := nxt_lt hs (a := a) (by omega)
      rw [if_neg (by omega), if_neg (by omega)]
      omega
theorem sq_end {n a b : Int} (h0 : 0 < n) (h1 : n ≤ Big) (h : sqP n a b) (he : a = b) : a = sqrtN n := by
  obtain ⟨ha, hb, hc⟩ := h
  have hs := sqrtN_spec h0 h1
  subst he
  rcases hc with hc | ⟨_, hc⟩
  · omega
  · have hg := nxt_ge ha h0 hs
    rcases Int.lt_trichotomy a (sqrtN n) with c | c | c
    · omega
    · exact c
    · have := nxt_lt hs c; omega

end
section
theorem divN_near {a b : Int} (hb : 0 < b) : -b ≤ 2 * (a - b * divN a b) ∧ 2 * (a - b * divN a b) ≤ b := by
  unfold divN
  have h := Int.mul_fdiv_add_fmod a b
  have h1 := fmod_lo a hb
  have h2 := fmod_hi a hb
  rw [bitAnd_m1]
  have h3 : 0 ≤ a.fdiv b % 2 ∧ a.fdiv b % 2 < 2 := by omega
  generalize a.fdiv b % 2 = e at *
  generalize a.fdiv b = q at *
  generalize a.fmod b = r at *
  have e1 : b * (q + 1) = b * q + b := by grind
  have e2 : b * (q + 0) = b * q := by grind
  split <;> rename_i hc <;> simp only [decide_eq_true_eq] at hc
  · rw [e1]; omega
  · rw [e2]; omega
/-- at a tie the quotient is even -/
theorem divN_even {a b : Int} (hb : 0 < b) (ht : 2 * (a - b * divN a b) = b ∨ 2 * (a - b * divN a b) = -b) : divN a b % 2 = 0 := by
  unfold divN at *
  have h := Int.mul_fdiv_add_fmod a b
  have h1 := fmod_lo a hb
  have h2 := fmod_hi a hb
  rw [bitAnd_m1] at *
  generalize a.fdiv b = q at *
  generalize a.fmod b = r at *
  have e1 : b * (q + 1) = b * q + b := by grind
  have e2 : b * (q + 0) = b * q := by grind
  split at ht <;> rename_i hc
  · rw [if_pos hc]
    simp only [decide_eq_true_eq] at hc
    rw [e1] at ht; omega
  · rw [if_neg hc]
    simp only [decide_eq_true_eq] at hc
    rw [e2] at ht; omega
theorem divN_le {a b c : Int} (hb : 0 < b) (h : a ≤ b * c) : divN a b ≤ c := by
  have hn := divN_near (a := a) hb
  generalize divN a b = q at *
  refine Int.not_lt.mp fun hlt => ?_
  have : b * (c + 1) ≤ b * q := Int.mul_le_mul_of_nonneg_left (by omega) (by omega)
  have e : b * (c + 1) = b * c + b := by grind
  omega
theorem divN_ge {a b c : Int} (hb : 0 < b) (h : b * c ≤ a) : c ≤ divN a b := by
  have hn := divN_near (a := a) hb
  generalize divN a b = q at *
  refine Int.not_lt.mp fun hlt => ?_
  have : b * q ≤ b * (c - 1) := Int.mul_le_mul_of_nonneg_left (by omega) (by omega)
  have e : b * (c - 1) = b * c - b := by grind
  omega
theorem pow2_pos (k : Nat) : (0 : Int) < 2 ^ k := kbt_pos k
theorem rshN_div (x sh : Int) : rshN x sh = divN x (2 ^ sh.toNat) := by
  unfold rshN divN
  rw [Int.one_mul, kbt_maskF]
/-- the while's test -/
def ilT (M y R : Int) : Bool := if R ≤ 8 then decide (M ≤ (y.natAbs : Int) * 2 ^ (8 - R).toNat) else decide (M ≤ (y.natAbs : Int).fdiv (2 ^ (R - 8).toNat))
def ilS (M y R : Int) : Int := divN (M * y * 2) (M + sqrtN (M * (M + rshN y R)))
def ilLp : Nat → Int → Int → Int → Int × Int
  | 0, _, y, R => (y, R)
  | k + 1, M, y, R => if ilT M y R = true then ilLp k M (ilS M y R) (R + 1) else (y, R)
/-- what holds between the turns -/
structure ilJ (x M y R : Int) : Prop where
  R0 : 0 ≤ R
  R1 : R ≤ 25
  up : M ≤ x → 0 ≤ y ∧ y ≤ x - M
  dn : x < M → y ≤ 0 ∧ -y ≤ 2 ^ R.toNat * (M - x) ∧ 5 ^ R.toNat * (1 - y) ≤ 8 ^ R.toNat * (M - x + 1)
structure ilPre (x M : Int) : Prop where
  M0 : 100 ≤ M
  M1 : M ≤ 2 ^ 250
  lo : M ≤ 10 * x
  hi : x ≤ 10 * M
theorem ilJ.start {x M : Int} (_h : ilPre x M) : ilJ x M (x - M) 0 := by
  refine ⟨by omega, by omega, fun h => by omega, fun h => ⟨by omega, ?_, ?_⟩⟩
  · show -(x - M) ≤ 2 ^ 0 * (M - x); omega
  · show 5 ^ 0 * (1 - (x - M)) ≤ 8 ^ 0 * (M - x + 1); omega
theorem rsh_ge {y R c : Int} (h : 2 ^ R.toNat * c ≤ y) : c ≤ rshN y R := by
  rw [rshN_div]; exact divN_ge (pow2_pos _) h
theorem rsh_le {y R c : Int} (h : y ≤ 2 ^ R.toNat * c) : rshN y R ≤ c := by
  rw [rshN_div]; exact divN_le (pow2_pos _) h
theorem ilJ.rsh {x M y R : Int} (P : ilPre x M) (h : ilJ x M y R) : M ≤ 10 * (M + rshN y R) ∧ M + rshN y R ≤ 10 * M ∧ (M ≤ x → 0 ≤ rshN y R) ∧ (x < M → rshN y R ≤ 0) := by
  have h1 := P.lo; have h2 := P.hi; have h0 := P.M0
  have hp := pow2_pos R.toNat
  by_cases c : M ≤ x
  · obtain ⟨u1, u2⟩ := h.up c
    have g1 : (0 : Int) ≤ rshN y R := rsh_ge (by rw [Int.mul_zero]; exact u1)
    have g2 : rshN y R ≤ x - M := rsh_le (by
      have : 1 * (x - M) ≤ 2 ^ R.toNat * (x - M) := Int.mul_le_mul_of_nonneg_right (by omega) (by omega)
      omega)
    exact ⟨by omega, by omega, fun _ => g1, fun _ => by omega⟩
  · obtain ⟨d1, d2, d3⟩ := h.dn (by omega)
    have g1 : -(M - x) ≤ rshN y R := rsh_ge (by
      have : (2 : Int) ^ R.toNat * -(M - x) = -(2 ^ R.toNat * (M - x)) := by grind
      omega)
    have g2 : rshN y R ≤ 0 := rsh_le (by rw [Int.mul_zero]; exact d1)
    exact ⟨by omega, by omega, fun _ => by omega, fun _ => g2⟩
theorem mul_lo {a b c d : Int} (ha : 0 ≤ a) (hb : 0 ≤ b) (h1 : a ≤ c) (h2 : b ≤ d) : a * b ≤ c * d := Int.mul_le_mul h1 h2 hb (Int.le_trans ha h1)
theorem big_250 {n : Int} (h : n ≤ 2 ^ 1000) : n ≤ Big := by
  refine Int.le_trans h ?_
  unfold Big
  have e1 : ((2 ^ 1000 : Nat) : Int) = (2 : Int) ^ 1000 := Int.natCast_pow 2 1000
  have e2 : ((2 ^ 8000 : Nat) : Int) = (2 : Int) ^ 8000 := Int.natCast_pow 2 8000
  rw [← e1, ← e2]
  have : (2 ^ 1000 : Nat) ≤ 2 ^ 8000 := by decide +kernel
  exact Int.ofNat_le.mpr this
theorem mulpow {a b : Int} {m n : Nat} (ha : 0 ≤ a) (hb : 0 ≤ b) (h1 : a ≤ 2 ^ m) (h2 : b ≤ 2 ^ n) : a * b ≤ 2 ^ (m + n) := by
  rw [Int.pow_add]; exact mul_lo ha hb h1 h2
/-- the square root's argument -/
theorem ilJ.arg {x M y R : Int} (P : ilPre x M) (h : ilJ x M y R) : 0 < M * (M + rshN y R) ∧ M * (M + rshN y R) ≤ Big ∧ IsSq (M * (M + rshN y R)) (sqrtN (M * (M + rshN y R))) := by
  obtain ⟨r1, r2, _, _⟩ := h.rsh P
  have h0 := P.M0
  have p1 : 0 < M * (M + rshN y R) := Int.mul_pos (by omega) (by omega)
  have p2 : M * (M + rshN y R) ≤ Big := by
    refine big_250 (Int.le_trans (mulpow (m := 250) (n := 254) (by omega) (by omega) P.M1 ?_) ?_)
    · have := P.M1
      have e : (2 : Int) ^ 254 = 2 ^ 250 * 16 := by decide +kernel
      rw [e]; omega
    · decide +kernel
  exact ⟨p1, p2, sqrtN_spec p1 p2⟩
theorem ilJ.root {x M y R : Int} (P : ilPre x M) (h : ilJ x M y R) : (M ≤ x → M ≤ sqrtN (M * (M + rshN y R))) ∧ M ≤ 4 * sqrtN (M * (M + rshN y R)) ∧ sqrtN (M * (M + rshN y R)) ≤ 4 * M := by
  obtain ⟨r1, r2, r3, r4⟩ := h.rsh P
  obtain ⟨a1, a2, s0, s1, s2⟩ := h.arg P
  have h0 := P.M0
  generalize rshN y R = r at *
  generalize sqrtN (M * (M + r)) = s at *
  refine ⟨fun c => ?_, ?_, ?_⟩
  · refine Int.not_lt.mp fun hlt => ?_
    have k1 : s * s ≤ (M - 1) * (M - 1) := mul_lo (by omega) (by omega) (by omega) (by omega)
    have k2 : M * M ≤ M * (M + r) := Int.mul_le_mul_of_nonneg_left (by have := r3 c; omega) (by omega)
    grind
  · refine Int.not_lt.mp fun hlt => ?_
    have k1 : (4 * s) * (4 * s) ≤ (M - 1) * (M - 1) := mul_lo (by omega) (by omega) (by omega) (by omega)
    have k2 : M * M ≤ M * (10 * (M + r)) := Int.mul_le_mul_of_nonneg_left (by omega) (by omega)
    have k3 : 100 * M ≤ M * M := Int.mul_le_mul_of_nonneg_right (by omega) (by omega)
    grind
  · refine Int.not_lt.mp fun hlt => ?_
    have k1 : (4 * M + 1) * (4 * M) ≤ s * (s - 1) := mul_lo (by omega) (by omega) (by omega) (by omega)
    have k2 : M * (M + r) ≤ M * (10 * M) := Int.mul_le_mul_of_nonneg_left (by omega) (by omega)
    have k3 : 0 ≤ M * M := Int.mul_nonneg (by omega) (by omega)
    grind

end
section
theorem fdiv_ge {a b c : Int} (hb : 0 < b) (h : c ≤ a.fdiv b) : b * c ≤ a := by
  have h1 := Int.mul_fdiv_add_fmod a b
  have h2 := fmod_lo a hb
  have : b * c ≤ b * a.fdiv b := Int.mul_le_mul_of_nonneg_left h (by omega)
  omega
theorem fdiv_lt {a b c : Int} (hb : 0 < b) (h : a.fdiv b < c) : a < b * c := by
  have h1 := Int.mul_fdiv_add_fmod a b
  have h2 := fmod_hi a hb
  have : b * (a.fdiv b + 1) ≤ b * c := Int.mul_le_mul_of_nonneg_left (by omega) (by omega)
  have e : b * (a.fdiv b + 1) = b * a.fdiv b + b := by grind
  omega
theorem ilT_lt {x M y R : Int} (P : ilPre x M) (h : ilJ x M y R) (t : ilT M y R = true) : R ≤ 24 := by
  refine Int.not_lt.mp fun hlt => ?_
  have hR : R = 25 := by have := h.R1; omega
  subst hR
  have h0 := P.M0; have h1 := P.lo; have h2 := P.hi
  unfold ilT at t
  rw [if_neg (by omega)] at t
  have t1 := fdiv_ge (b := 2 ^ (25 - 8 : Int).toNat) (pow2_pos _) (of_decide_eq_true t)
  have e1 : (2 : Int) ^ (25 - 8 : Int).toNat = 131072 := by decide +kernel
  rw [e1] at t1
  have e5 : (5 : Int) ^ (25 : Int).toNat = 298023223876953125 := by decide +kernel
  have e8 : (8 : Int) ^ (25 : Int).toNat = 37778931862957161709568 := by decide +kernel
  by_cases c : M ≤ x
  · obtain ⟨u1, u2⟩ := h.up c; omega
  · obtain ⟨d1, d2, d3⟩ := h.dn (by omega)
    rw [e5, e8] at d3
    omega
theorem ilJ.next {x M y R : Int} (P : ilPre x M) (h : ilJ x M y R) (t : ilT M y R = true) : ilJ x M (ilS M y R) (R + 1) := by
  have hR := ilT_lt P h t
  have h0 := P.M0; have hR0 := h.R0
  obtain ⟨s1, s2, s3⟩ := h.root P
  unfold ilS
  generalize sqrtN (M * (M + rshN y R)) = s at *
  have hD : 0 < M + s := by omega
  have hn := divN_near (a := M * y * 2) hD
  have eT : (R + 1).toNat = R.toNat + 1 := by omega
  refine ⟨by omega, by omega, fun c => ?_, fun c => ?_⟩
  · obtain ⟨u1, u2⟩ := h.up c
    have k1 : 0 ≤ M * y := Int.mul_nonneg (by omega) u1
    have k2 : 0 ≤ (s - M) * y := Int.mul_nonneg (by have := s1 c; omega) u1
    have g1 : 0 ≤ divN (M * y * 2) (M + s) := divN_ge hD (by omega)
    have g2 : divN (M * y * 2) (M + s) ≤ y := divN_le hD (by grind)
    exact ⟨g1, by omega⟩
  · obtain ⟨d1, d2, d3⟩ := h.dn c
    have k0 : 0 ≤ M * (-y) := Int.mul_nonneg (by omega) (by omega)
    have k1 : 0 ≤ s * (-y) := Int.mul_nonneg (by omega) (by omega)
    have g1 : divN (M * y * 2) (M + s) ≤ 0 := divN_le hD (by grind)
    have g2 : 2 * y ≤ divN (M * y * 2) (M + s) := divN_ge hD (by grind)
    have k2 : 0 ≤ (4 * (M + s) - 5 * M) * (-y) := Int.mul_nonneg (by omega) (by omega)
    generalize hv : divN (M * y * 2) (M + s) = v at *
    have g3 : 5 * (1 - v) ≤ 8 * (1 - y) := by
      refine Int.not_lt.mp fun hlt => ?_
      have k3 : (M + s) * (10 * v) ≤ (M + s) * (16 * y - 7) := Int.mul_le_mul_of_nonneg_left (by omega) (by omega)
      grind
    rw [eT]
    refine ⟨g1, ?_, ?_⟩
    · rw [Int.pow_succ]
      have : (2 : Int) ^ R.toNat * 2 * (M - x) = 2 * (2 ^ R.toNat * (M - x)) := by grind
      omega
    · have p5 : (0 : Int) < 5 ^ R.toNat := Int.pow_pos (by omega)
      have k4 : 5 ^ R.toNat * (5 * (1 - v)) ≤ 5 ^ R.toNat * (8 * (1 - y)) := Int.mul_le_mul_of_nonneg_left g3 (by omega)
      rw [Int.pow_succ, Int.pow_succ]
      have e1 : (5 : Int) ^ R.toNat * 5 * (1 - v) = 5 ^ R.toNat * (5 * (1 - v)) := by grind
      have e2 : (5 : Int) ^ R.toNat * (8 * (1 - y)) = 8 * (5 ^ R.toNat * (1 - y)) := by grind
      have e3 : (8 : Int) ^ R.toNat * 8 * (M - x + 1) = 8 * (8 ^ R.toNat * (M - x + 1)) := by grind
      omega
/-- the sizes -/
theorem bits_of_le {x : Int} {m : Nat} (h1 : -(2 ^ m : Int) < x) (h2 : x < 2 ^ m) : intBits x ≤ m := by
  rw [intBits_le_iff]
  have e : ((2 ^ m : Nat) : Int) = (2 : Int) ^ m := Int.natCast_pow 2 m
  rw [← e] at h1 h2
  generalize (2 ^ m : Nat) = k at *
  omega
theorem pow_le_25 {R : Int} (h1 : R ≤ 25) : (2 : Int) ^ R.toNat ≤ 2 ^ 25 := by
  have h : R.toNat ≤ 25 := by omega
  have e1 : ((2 ^ R.toNat : Nat) : Int) = (2 : Int) ^ R.toNat := Int.natCast_pow 2 _
  have e2 : ((2 ^ 25 : Nat) : Int) = (2 : Int) ^ 25 := Int.natCast_pow 2 _
  rw [← e1, ← e2]
  exact Int.ofNat_le.mpr (Nat.pow_le_pow_right (by omega) h)
theorem ilJ.abs {x M y R : Int} (P : ilPre x M) (h : ilJ x M y R) : -(33554432 * (9 * M)) ≤ y ∧ y ≤ 33554432 * (9 * M) := by
  have h0 := P.M0; have h1 := P.lo; have h2 := P.hi
  by_cases c : M ≤ x
  · obtain ⟨u1, u2⟩ := h.up c; omega
  · obtain ⟨d1, d2, d3⟩ := h.dn (by omega)
    have k := pow_le_25 h.R1
    have e : (2 : Int) ^ 25 = 33554432 := by decide +kernel
    rw [e] at k
    have k2 : 2 ^ R.toNat * (M - x) ≤ 33554432 * (M - x) := Int.mul_le_mul_of_nonneg_right k (by omega)
    omega
theorem ilPre.Mbits {x M : Int} (P : ilPre x M) : intBits M ≤ 300 := by
  have h0 := P.M0; have h1 := P.M1
  have e : (2 : Int) ^ 300 = 2 ^ 250 * 1125899906842624 := by decide +kernel
  generalize (2 : Int) ^ 250 = k at *
  refine bits_of_le ?_ ?_ <;> rw [e] <;> omega
theorem ilJ.ybits {x M y R : Int} (P : ilPre x M) (h : ilJ x M y R) : intBits y ≤ 300 := by
  have h0 := P.M0; have h1 := P.M1
  have h2 := h.abs P
  have e : (2 : Int) ^ 300 = 2 ^ 250 * 1125899906842624 := by decide +kernel
  generalize (2 : Int) ^ 250 = k at *
  refine bits_of_le ?_ ?_ <;> rw [e] <;> omega
theorem ilJ.rbits {x M y R : Int} (P : ilPre x M) (h : ilJ x M y R) : intBits (M + rshN y R) ≤ 300 := by
  have h0 := P.M0; have h1 := P.M1
  have h2 := h.rsh P
  have e : (2 : Int) ^ 300 = 2 ^ 250 * 1125899906842624 := by decide +kernel
  generalize (2 : Int) ^ 250 = k at *
  refine bits_of_le ?_ ?_ <;> rw [e] <;> omega
/-- the divisor of a turn -/
theorem ilJ.dvs {x M y R : Int} (P : ilPre x M) (h : ilJ x M y R) : 0 < M + sqrtN (M * (M + rshN y R)) ∧ M + sqrtN (M * (M + rshN y R)) ≤ Big := by
  have h0 := P.M0; have h1 := P.M1
  obtain ⟨s1, s2, s3⟩ := h.root P
  refine ⟨by omega, big_250 ?_⟩
  have e : (2 : Int) ^ 1000 = 2 ^ 250 * 2 ^ 750 := by decide +kernel
  rw [e]
  have e2 : (16 : Int) ≤ 2 ^ 750 := by decide +kernel
  have k : (2 : Int) ^ 250 * 16 ≤ 2 ^ 250 * 2 ^ 750 := Int.mul_le_mul_of_nonneg_left e2 (by decide +kernel)
  generalize (2 : Int) ^ 250 * 2 ^ 750 = kk at *
  generalize (2 : Int) ^ 250 = k at *
  omega
theorem ilPre.MBig {x M : Int} (P : ilPre x M) : M ≤ Big := big_250 (Int.le_trans P.M1 (by decide +kernel))
/-- the loop is the function -/
def ilJL (x M y R : Int) : Prop := ilJ x M y R ∧ ilLp 40 M (x - M) 0 = ilLp (40 - R.toNat) M y R
theorem ilJL.start {x M : Int} (P : ilPre x M) : ilJL x M (x - M) 0 := ⟨ilJ.start P, rfl⟩
theorem ilJL.next {x M y R : Int} (P : ilPre x M) (h : ilJL x M y R) (t : ilT M y R = true) : ilJL x M (ilS M y R) (R + 1) := by
  refine ⟨h.1.next P t, ?_⟩
  rw [h.2]
  have hR := ilT_lt P h.1 t
  have h0 := h.1.R0
  have e : 40 - R.toNat = (40 - (R + 1).toNat) + 1 := by omega
  rw [e]
  show (if ilT M y R = true then _ else _) = _
  rw [if_pos t]
theorem ilJL.stop {x M y R : Int} (h : ilJL x M y R) (t : ilT M y R = false) : ilLp 40 M (x - M) 0 = (y, R) := by
  rw [h.2]
  have hR := h.1.R1
  have h0 := h.1.R0
  have e : 40 - R.toNat = (39 - R.toNat) + 1 := by omega
  rw [e]
  show (if ilT M y R = true then _ else _) = _
  rw [if_neg (by simp [t])]
theorem ilT_stop {M y R : Int} (h0 : 0 ≤ R) (t : ilT M y R = false) : -(2 ^ R.toNat * M) < 256 * y ∧ 256 * y < 2 ^ R.toNat * M := by
  unfold ilT at t
  split at t
  · next c =>
    have t1 := of_decide_eq_false t
    have e : (256 : Int) = 2 ^ R.toNat * 2 ^ (8 - R).toNat := by
      rw [← Int.pow_add]
      have : R.toNat + (8 - R).toNat = 8 := by omega
      rw [this]; rfl
    have hp := pow2_pos R.toNat
    have k : 2 ^ R.toNat * ((y.natAbs : Int) * 2 ^ (8 - R).toNat) < 2 ^ R.toNat * M := Int.mul_lt_mul_of_pos_left (by omega) hp
    have e2 : (2 : Int) ^ R.toNat * ((y.natAbs : Int) * 2 ^ (8 - R).toNat) = 256 * y.natAbs := by
      rw [e]; grind
    omega
  · next c =>
    have t1 := of_decide_eq_false t
    have t2 := fdiv_lt (pow2_pos (R - 8).toNat) (Int.not_le.mp t1)
    have e : (2 : Int) ^ R.toNat = 256 * 2 ^ (R - 8).toNat := by
      have : R.toNat = 8 + (R - 8).toNat := by omega
      rw [this, Int.pow_add]; rfl
    have e2 : 2 ^ R.toNat * M = 256 * (2 ^ (R - 8).toNat * M) := by rw [e]; grind
    omega

end
section
def ndig (a : Int) : Int := ((Str.ofString (toString a)).length : Nat)
theorem ndig_nat (m : Nat) : ndig (m : Int) = ((Nat.toDigits 10 m).length : Nat) := by
  unfold ndig
  have h := text_ofNat m
  have e : (Str.ofString (toString ((m : Nat) : Int))).length = ((Nat.toDigits 10 m).map Char.toNat).length := by
    show (Str.ofString (toString (Int.ofNat m))).length = _
    rw [h]; simp [Str.length]
  rw [e, List.length_map]
theorem ndig_le {a : Int} {k : Nat} (h0 : 0 ≤ a) (hk : 0 < k) (h : a < 10 ^ k) : ndig a ≤ k := by
  obtain ⟨m, rfl⟩ := Int.eq_ofNat_of_zero_le h0
  rw [ndig_nat]
  have : m < 10 ^ k := by exact_mod_cast h
  exact Int.ofNat_le.mpr ((Nat.length_toDigits_le_iff (by omega) hk).mpr this)
theorem ndig_gt {a : Int} {k : Nat} (h0 : 0 < a) (h : 10 ^ k ≤ a) : (k : Int) < ndig a := by
  obtain ⟨m, rfl⟩ := Int.eq_ofNat_of_zero_le (Int.le_of_lt h0)
  rw [ndig_nat]
  have hm : 10 ^ k ≤ m := by exact_mod_cast h
  refine Int.ofNat_lt.mpr (Nat.not_le.mp fun hle => ?_)
  by_cases hk : k = 0
  · subst hk
    have := (Nat.length_toDigits_le_iff (b := 10) (n := m) (k := 1) (by omega) (by omega)).mp (by omega)
    have h2 : (Nat.toDigits 10 m).length = 0 := by omega
    rw [List.length_eq_zero_iff] at h2
    exact Nat.toDigits_ne_nil h2
  · have := (Nat.length_toDigits_le_iff (b := 10) (n := m) (k := k) (by omega) (by omega)).mp hle
    omega
theorem ndig_eq {a : Int} {k : Nat} (h1 : 10 ^ k ≤ a) (h2 : a < 10 ^ (k + 1)) : ndig a = k + 1 := by
  have hp : (0 : Int) < 10 ^ k := Int.pow_pos (by omega)
  have g1 := ndig_gt (a := a) (k := k) (by omega) h1
  have g2 := ndig_le (a := a) (k := k + 1) (by omega) (by omega) h2
  omega
theorem ndig_pos {a : Int} (h : 0 < a) : 1 ≤ ndig a := by
  have := ndig_gt (a := a) (k := 0) h (by rw [Int.pow_zero]; omega)
  omega
/-- Horner's step -/
def horn (M ys : Int) (w k : Int) : Int := divN M k - divN (ys * w) M
theorem horn_bound {M ys w k : Int} (hM : 100 ≤ M) (hk : 1 ≤ k) (hy : -M ≤ 100 * ys ∧ 100 * ys ≤ M) (hw : -(2 * M) ≤ w ∧ w ≤ 2 * M) : -(2 * M) ≤ horn M ys w k ∧ horn M ys w k ≤ 2 * M := by
  have g1 : divN M k ≤ M := divN_le (by omega) (by
    have : 1 * M ≤ k * M := Int.mul_le_mul_of_nonneg_right hk (by omega)
    omega)
  have g2 : 0 ≤ divN M k := divN_ge (by omega) (by omega)
  have k1 : 100 * (ys * w) ≤ M * (2 * M) ∧ -(M * (2 * M)) ≤ 100 * (ys * w) := by
    have a1 : 0 ≤ (M - 100 * ys) * (2 * M - w) := Int.mul_nonneg (by omega) (by omega)
    have a2 : 0 ≤ (M + 100 * ys) * (2 * M + w) := Int.mul_nonneg (by omega) (by omega)
    have a3 : 0 ≤ (M - 100 * ys) * (2 * M + w) := Int.mul_nonneg (by omega) (by omega)
    have a4 : 0 ≤ (M + 100 * ys) * (2 * M - w) := Int.mul_nonneg (by omega) (by omega)
    constructor <;> grind
  have k2 : 100 * M ≤ M * M := Int.mul_le_mul_of_nonneg_right hM (by omega)
  have g3 : divN (ys * w) M ≤ M := divN_le (by omega) (by grind)
  have g4 : -M ≤ divN (ys * w) M := divN_ge (by omega) (by grind)
  unfold horn; omega
theorem divM_bound {M k : Int} (hM : 100 ≤ M) (hk : 1 ≤ k) : -(2 * M) ≤ divN M k ∧ divN M k ≤ 2 * M := by
  have g1 : divN M k ≤ M := divN_le (by omega) (by
    have : 1 * M ≤ k * M := Int.mul_le_mul_of_nonneg_right hk (by omega)
    omega)
  have g2 : 0 ≤ divN M k := divN_ge (by omega) (by omega)
  omega
theorem ys_bound {x M y R : Int} (P : ilPre x M) (h : ilJ x M y R) (t : ilT M y R = false) : -M ≤ 100 * rshN y R ∧ 100 * rshN y R ≤ M := by
  have h0 := P.M0
  obtain ⟨t1, t2⟩ := ilT_stop h.R0 t
  have hp := pow2_pos R.toNat
  have hn := divN_near (a := y) hp
  rw [rshN_div]
  generalize divN y (2 ^ R.toNat) = r at *
  generalize (2 : Int) ^ R.toNat = p at *
  constructor
  · refine Int.not_lt.mp fun hlt => ?_
    have k1 : p * (100 * r) ≤ p * (-M - 1) := Int.mul_le_mul_of_nonneg_left (by omega) (by omega)
    have k2 : p * 100 ≤ p * M := Int.mul_le_mul_of_nonneg_left (by omega) (by omega)
    grind
  · refine Int.not_lt.mp fun hlt => ?_
    have k1 : p * (M + 1) ≤ p * (100 * r) := Int.mul_le_mul_of_nonneg_left (by omega) (by omega)
    have k2 : p * 100 ≤ p * M := Int.mul_le_mul_of_nonneg_left (by omega) (by omega)
    grind
theorem bits2M {x M w : Int} (P : ilPre x M) (hw : -(2 * M) ≤ w ∧ w ≤ 2 * M) : intBits w ≤ 300 := by
  have h0 := P.M0; have h1 := P.M1
  have e : (2 : Int) ^ 300 = 2 ^ 250 * 1125899906842624 := by decide +kernel
  generalize (2 : Int) ^ 250 = k at *
  refine bits_of_le ?_ ?_ <;> rw [e] <;> omega
theorem bitsYs {x M y R : Int} (P : ilPre x M) (h : ilJ x M y R) : intBits (rshN y R) ≤ 300 := by
  have h0 := P.M0; have h1 := P.M1
  have h2 := h.rsh P
  have e : (2 : Int) ^ 300 = 2 ^ 250 * 1125899906842624 := by decide +kernel
  generalize (2 : Int) ^ 250 = k at *
  refine bits_of_le ?_ ?_ <;> rw [e] <;> omega
theorem log2_M {x M : Int} (P : ilPre x M) : M.natAbs.log2 < 1920 := by
  have h0 := P.M0; have h1 := P.M1
  refine (Nat.log2_lt (by omega)).mpr ?_
  have e : ((2 ^ 250 : Nat) : Int) = (2 : Int) ^ 250 := Int.natCast_pow 2 250
  rw [← e] at h1
  have h2 : (2 ^ 250 : Nat) < 2 ^ 1920 := by decide +kernel
  generalize (2 ^ 250 : Nat) = k at *
  omega

end
section
/-- all that a turn asks -/
structure ilF (x M y R : Int) : Prop where
  jl : ilJL x M y R
  r0 : 0 ≤ R
  r1 : R ≤ 25
  yb : intBits y ≤ 300
  a1 : 0 < M * (M + rshN y R)
  a2 : M * (M + rshN y R) ≤ Big
  d1 : 0 < M + sqrtN (M * (M + rshN y R))
  d2 : M + sqrtN (M * (M + rshN y R)) ≤ Big
  rb : intBits (M + rshN y R) ≤ 300
  sb : intBits (rshN y R) ≤ 300
theorem ilJL.full {x M y R : Int} (P : ilPre x M) (h : ilJL x M y R) : ilF x M y R :=
  ⟨h, h.1.R0, h.1.R1, h.1.ybits P, (h.1.arg P).1, (h.1.arg P).2.1, (h.1.dvs P).1, (h.1.dvs P).2, h.1.rbits P, bitsYs P h.1⟩
theorem mul_300 {a b : Int} (ha : intBits a ≤ 300) (hb : intBits b ≤ 300) : IntMulOk a b := IntMulOk.of_le ha hb (by decide)
theorem shl_300 {a n : Int} (ha : intBits a ≤ 300) (h1 : n ≤ 100) : (intBits a : Int) + n ≤ 2 ^ 27 := by
  have e : (2 : Int) ^ 27 = 134217728 := by decide
  rw [e]; omega
theorem shl_600 {a b n : Int} (ha : intBits a ≤ 300) (hb : intBits b ≤ 300) (h1 : n ≤ 100) : (intBits (a * b) : Int) + n ≤ 2 ^ 27 := by
  have e : (2 : Int) ^ 27 = 134217728 := by decide
  have := intBits_mul_le ha hb
  rw [e]; omega
theorem ilF.conj {x M y R : Int} (h : ilF x M y R) : ilF x M y R ∧ (0 ≤ R ∧ R ≤ 25) ∧ intBits y ≤ 300 ∧ (0 < M * (M + rshN y R) ∧ M * (M + rshN y R) ≤ Big) ∧ (0 < M + sqrtN (M * (M + rshN y R)) ∧ M + sqrtN (M * (M + rshN y R)) ≤ Big) ∧ intBits (M + rshN y R) ≤ 300 ∧ intBits (rshN y R) ≤ 300 :=
  ⟨h, ⟨h.r0, h.r1⟩, h.yb, ⟨h.a1, h.a2⟩, ⟨h.d1, h.d2⟩, h.rb, h.sb⟩
theorem ite_abs (y : Int) : (if y < 0 then -y else y) = (y.natAbs : Int) := by split <;> omega
theorem shl_abs {a n : Int} (ha : intBits a ≤ 300) (h1 : n ≤ 100) : (intBits (if a < 0 then -a else a) : Int) + n ≤ 2 ^ 27 := by
  rw [ite_abs]; exact shl_300 (intBits_natAbs_le ha) h1
theorem ilT_t1 {x M y R : Int} (_ : ilF x M y R) (h1 : R ≤ 8) (h2 : M ≤ (if y < 0 then -y else y) * 2 ^ (8 - R).toNat) : ilT M y R = true := by
  rw [ite_abs] at h2; unfold ilT; rw [if_pos h1]; exact decide_eq_true h2
theorem ilT_t2 {x M y R : Int} (_ : ilF x M y R) (h1 : 8 < R) (h2 : M ≤ (if y < 0 then -y else y).fdiv (2 ^ (R - 8).toNat)) : ilT M y R = true := by
  rw [ite_abs] at h2; unfold ilT; rw [if_neg (by omega)]; exact decide_eq_true h2
theorem ilT_f1 {x M y R : Int} (_ : ilF x M y R) (h1 : R ≤ 8) (h2 : ¬ M ≤ (if y < 0 then -y else y) * 2 ^ (8 - R).toNat) : ilT M y R = false := by
  rw [ite_abs] at h2; unfold ilT; rw [if_pos h1]; exact decide_eq_false h2
theorem ilT_f2 {x M y R : Int} (_ : ilF x M y R) (h1 : 8 < R) (h2 : ¬ M ≤ (if y < 0 then -y else y).fdiv (2 ^ (R - 8).toNat)) : ilT M y R = false := by
  rw [ite_abs] at h2; unfold ilT; rw [if_neg (by omega)]; exact decide_eq_false h2
def ilTT (M : Int) : Int := -(-10 * ndig M).fdiv (3 * 8)
theorem fdiv24 (x : Int) : 24 * x.fdiv (3 * 8) ≤ x ∧ x < 24 * x.fdiv (3 * 8) + 24 := by
  show 24 * x.fdiv 24 ≤ x ∧ x < 24 * x.fdiv 24 + 24
  have h := Int.mul_fdiv_add_fmod x 24
  have h1 := fmod_lo x (n := 24) (by omega)
  have h2 := fmod_hi x (n := 24) (by omega)
  omega
theorem ilTT_pos {x M : Int} (P : ilPre x M) : 0 < ilTT M ∧ ilTT M ≤ 1000 := by
  have h0 := P.M0
  have h1 := ndig_pos (a := M) (by omega)
  have h2 : ndig M ≤ 1921 := by
    have := int_text_len_1921 (log2_M P)
    unfold ndig; omega
  unfold ilTT
  have := fdiv24 (-10 * ndig M)
  omega
theorem big_ge : 10000 ≤ Big := by
  refine big_250 ?_
  have e : (2 : Int) ^ 1000 = 2 ^ 14 * 2 ^ 986 := by decide +kernel
  decide +kernel
theorem big_ge1 : 1000000 ≤ Big := by
  refine big_250 ?_
  decide +kernel
theorem horn_state {x M y R ys w T : Int} {pre : List Int} {k : Int} (P : ilPre x M) (_hys : ys = rshN y R) (h : ilF x M y R) (t : ilT M y R = false) (hk : 1 ≤ k)
    (hw : w = pre.foldl (horn M ys) (divN M T) ∧ (-(2 * M) ≤ w ∧ w ≤ 2 * M) ∧ intBits w ≤ 300) :
    divN M k - divN (ys * w) M = (pre ++ [k]).foldl (horn M ys) (divN M T) ∧ (-(2 * M) ≤ divN M k - divN (ys * w) M ∧ divN M k - divN (ys * w) M ≤ 2 * M) ∧ intBits (divN M k - divN (ys * w) M) ≤ 300 := by
  subst _hys
  have hb := horn_bound (k := k) P.M0 hk (ys_bound P h.jl.1 t) hw.2.1
  refine ⟨?_, hb, bits2M P hb⟩
  rw [List.foldl_append, ← hw.1]
  rfl
theorem horn_start {x M T : Int} (P : ilPre x M) (hT : 0 < T) (ys : Int) : divN M T = ([] : List Int).foldl (horn M ys) (divN M T) ∧ (-(2 * M) ≤ divN M T ∧ divN M T ≤ 2 * M) ∧ intBits (divN M T) ≤ 300 := by
  have hb := divM_bound (k := T) P.M0 hT
  exact ⟨rfl, hb, bits2M P hb⟩
@[irreducible] def ilogW (M ys : Int) : Int := (downKs (ilTT M - 1) (ilTT M - 1 - 0).toNat).foldl (horn M ys) (divN M (ilTT M))
@[irreducible] def ilogN (x M : Int) : Int := divN (ilogW M (rshN (ilLp 40 M (x - M) 0).1 (ilLp 40 M (x - M) 0).2) * (ilLp 40 M (x - M) 0).1) M
theorem ilog_end {x M y R w : Int} (h : ilF x M y R) (t : ilT M y R = false) (hw : w = (downKs (ilTT M - 1) (ilTT M - 1 - 0).toNat).foldl (horn M (rshN y R)) (divN M (ilTT M))) : divN (w * y) M = ilogN x M := by
  unfold ilogN ilogW
  rw [h.jl.stop t, hw]

end
section
@[irreducible] def log10D (p : Int) : Int := 23025850929940456840179914546843642076011014886 / 10 ^ (46 - p).toNat
abbrev digS : Str := Str.ofString "23025850929940456840179914546843642076011014886"
theorem dig_all : ∀ k : Fin 47, PySem.intText? (Txt.slice digS none (some (((k.val : Nat) : Int) + 1))) = some (log10D ((k.val : Nat) : Int)) ∧ (Txt.slice digS none (some (((k.val : Nat) : Int) + 1))).length ≤ 640 := by decide +kernel
theorem dig_text {p : Int} (h0 : 0 ≤ p) (h1 : p ≤ 46) : PySem.intText? (Txt.slice digS none (some (p + 1))) = some (log10D p) ∧ (Txt.slice digS none (some (p + 1))).length ≤ 640 := by
  obtain ⟨m, rfl⟩ := Int.eq_ofNat_of_zero_le h0
  exact dig_all ⟨m, by omega⟩
theorem log10D_pos {p : Int} (h0 : 0 ≤ p) (h1 : p ≤ 46) : 0 < log10D p ∧ log10D p ≤ Big := by
  have h : ∀ k : Fin 47, 0 < log10D ((k.val : Nat) : Int) ∧ log10D ((k.val : Nat) : Int) ≤ 2 ^ 1000 := by decide +kernel
  obtain ⟨m, rfl⟩ := Int.eq_ofNat_of_zero_le h0
  have := h ⟨m, by omega⟩
  exact ⟨this.1, big_250 this.2⟩
theorem natAbs_divN_le {a b : Int} (hb : 0 < b) : (divN a b).natAbs ≤ a.natAbs := by
  rcases Int.le_total 0 a with h | h
  · have g1 : 0 ≤ divN a b := divN_ge hb (by omega)
    have g2 : divN a b ≤ a := divN_le hb (by
      have : 1 * a ≤ b * a := Int.mul_le_mul_of_nonneg_right (by omega) h
      omega)
    omega
  · have g1 : divN a b ≤ 0 := divN_le hb (by omega)
    have g2 : a ≤ divN a b := divN_ge hb (by
      have : 1 * (-a) ≤ b * (-a) := Int.mul_le_mul_of_nonneg_right (by omega) (by omega)
      grind)
    omega
theorem intBits_divN_le {a b : Int} {m : Nat} (hb : 0 < b) (h : intBits a ≤ m) : intBits (divN a b) ≤ m := intBits_le_of_natAbs (natAbs_divN_le hb) h
theorem ilJ_run {x M : Int} (P : ilPre x M) : ∀ (n : Nat) (y R : Int), ilJL x M y R → 40 - R.toNat = n → ∃ y' R', ilJL x M y' R' ∧ ilT M y' R' = false ∧ ilLp 40 M (x - M) 0 = (y', R')
  | 0, y, R, h, e => by have := h.1.R1; omega
  | n + 1, y, R, h, e => by
    cases t : ilT M y R with
    | false => exact ⟨y, R, h, t, h.stop t⟩
    | true => exact ilJ_run P n _ _ (h.next P t) (by have := h.1.R0; omega)
theorem ilLp_facts {x M : Int} (P : ilPre x M) : ∃ y R, ilF x M y R ∧ ilT M y R = false ∧ ilLp 40 M (x - M) 0 = (y, R) := by
  obtain ⟨y, R, h, t, e⟩ := ilJ_run P 40 (x - M) 0 (ilJL.start P) rfl
  exact ⟨y, R, h.full P, t, e⟩
theorem mem_down {a₀ : Int} {n : Nat} {k : Int} (h : k ∈ downKs a₀ n) : a₀ - (n : Int) < k ∧ k ≤ a₀ := mem_downKs h
theorem horn_foldl {x M y R : Int} (P : ilPre x M) (h : ilF x M y R) (t : ilT M y R = false) : ∀ (ks : List Int) (w : Int), (∀ k ∈ ks, 1 ≤ k) → (-(2 * M) ≤ w ∧ w ≤ 2 * M) → -(2 * M) ≤ ks.foldl (horn M (rshN y R)) w ∧ ks.foldl (horn M (rshN y R)) w ≤ 2 * M
  | [], w, _, hw => hw
  | k :: r, w, hk, hw => horn_foldl P h t r _ (fun q hq => hk q (.tail _ hq)) (horn_bound P.M0 (hk k (.head _)) (ys_bound P h.jl.1 t) hw)
theorem ilogW_bound {x M y R : Int} (P : ilPre x M) (h : ilF x M y R) (t : ilT M y R = false) : -(2 * M) ≤ ilogW M (rshN y R) ∧ ilogW M (rshN y R) ≤ 2 * M := by
  have hT := ilTT_pos P
  unfold ilogW
  refine horn_foldl P h t _ _ (fun k hk => ?_) (divM_bound P.M0 hT.1)
  have := mem_down hk
  omega
theorem ilog_bits {x M : Int} (P : ilPre x M) : intBits (ilogN x M) ≤ 600 := by
  obtain ⟨y, R, h, t, e⟩ := ilLp_facts P
  unfold ilogN
  rw [e]
  refine intBits_divN_le (by have := P.M0; omega) ?_
  exact intBits_mul_le (m := 300) (n := 300) (bits2M P (ilogW_bound P h t)) h.yb

def dl_f (c e : Int) : Int := e + ndig c - (if decide (1 ≤ e + ndig c) = true then 1 else 0)
def dl_k (c e q : Int) : Int := e + q - dl_f c e
@[irreducible] def dl_c (c e q : Int) : Int := if 0 ≤ dl_k c e q then c * 10 ^ (dl_k c e q).toNat else divN c (10 ^ (-(dl_k c e q)).toNat)
def dl_d (c e q : Int) : Int := divN (ilogN (dl_c c e q) (10 ^ q.toNat) * 10 ^ q.toNat) (log10D q)
@[irreducible] def dlog10N (c e p : Int) : Int := if 0 < p + 2 then divN (dl_f c e * 10 ^ (p + 2).toNat + dl_d c e (p + 2)) 100 else divN (divN (dl_f c e) (10 ^ (-(p + 2)).toNat) + 0) 100
theorem ten_split {a b : Nat} (h : b ≤ a) : (10 : Int) ^ a = 10 ^ b * 10 ^ (a - b) := by
  rw [← Int.pow_add]; congr 1; omega
theorem ten_pos (k : Nat) : (0 : Int) < 10 ^ k := Int.pow_pos (by omega)
theorem ten_le {a b : Nat} (h : a ≤ b) : (10 : Int) ^ a ≤ 10 ^ b := by
  rw [ten_split h]
  have h1 := ten_pos a
  have h2 := ten_pos (b - a)
  have : (10 : Int) ^ a * 1 ≤ 10 ^ a * 10 ^ (b - a) := Int.mul_le_mul_of_nonneg_left (by omega) (by omega)
  omega
/-- the size of a number by its figures -/
theorem ndig_range {c : Int} (h : 0 < c) : 1 ≤ ndig c ∧ 10 ^ (ndig c - 1).toNat ≤ c ∧ c < 10 ^ (ndig c).toNat := by
  have h1 := ndig_pos h
  refine ⟨h1, ?_, ?_⟩
  · refine Int.not_lt.mp fun hlt => ?_
    by_cases hz : (ndig c - 1).toNat = 0
    · rw [hz, Int.pow_zero] at hlt; omega
    · have := ndig_le (Int.le_of_lt h) (by omega) hlt; omega
  · refine Int.not_le.mp fun hle => ?_
    have := ndig_gt h hle; omega
theorem scale_mul {c : Int} {l k : Nat} (h1 : 10 ^ l ≤ c) (h2 : c < 10 ^ (l + 1)) : 10 ^ (l + k) ≤ c * 10 ^ k ∧ c * 10 ^ k ≤ 10 ^ (l + 1 + k) := by
  have hp := ten_pos k
  rw [Int.pow_add, Int.pow_add]
  exact ⟨Int.mul_le_mul_of_nonneg_right h1 (by omega), Int.mul_le_mul_of_nonneg_right (by omega) (by omega)⟩
theorem scale_div {c : Int} {l k : Nat} (hk : k ≤ l) (h1 : 10 ^ l ≤ c) (h2 : c < 10 ^ (l + 1)) : 10 ^ (l - k) ≤ divN c (10 ^ k) ∧ divN c (10 ^ k) ≤ 10 ^ (l + 1 - k) := by
  refine ⟨divN_ge (ten_pos k) ?_, divN_le (ten_pos k) ?_⟩
  · rw [← ten_split hk]; exact h1
  · rw [← ten_split (by omega)]; omega
/-- the scaled coefficient lies within a decade of M -/
theorem dl_c_range {c e q : Int} (hc : 0 < c) (hq : 2 ≤ q) : (1 ≤ e + ndig c → 10 ^ q.toNat ≤ dl_c c e q ∧ dl_c c e q ≤ 10 ^ (q.toNat + 1)) ∧ (¬ 1 ≤ e + ndig c → 10 ^ (q.toNat - 1) ≤ dl_c c e q ∧ dl_c c e q ≤ 10 ^ q.toNat) := by
  obtain ⟨n1, n2, n3⟩ := ndig_range hc
  have e3 : (ndig c).toNat = (ndig c - 1).toNat + 1 := by omega
  rw [e3] at n3
  refine ⟨fun h => ?_, fun h => ?_⟩
  · have hk : dl_k c e q = q - ndig c + 1 := by
      unfold dl_k dl_f; rw [if_pos (decide_eq_true h)]; omega
    unfold dl_c
    rw [hk]
    split
    · next c1 =>
      have := scale_mul (k := (q - ndig c + 1).toNat) n2 n3
      have e1 : (ndig c - 1).toNat + (q - ndig c + 1).toNat = q.toNat := by omega
      have e2 : (ndig c - 1).toNat + 1 + (q - ndig c + 1).toNat = q.toNat + 1 := by omega
      rw [e1, e2] at this; exact this
    · next c1 =>
      have := scale_div (k := (-(q - ndig c + 1)).toNat) (by omega) n2 n3
      have e1 : (ndig c - 1).toNat - (-(q - ndig c + 1)).toNat = q.toNat := by omega
      have e2 : (ndig c - 1).toNat + 1 - (-(q - ndig c + 1)).toNat = q.toNat + 1 := by omega
      rw [e1, e2] at this; exact this
  · have hk : dl_k c e q = q - ndig c := by
      unfold dl_k dl_f; rw [if_neg (by simp; omega)]; omega
    unfold dl_c
    rw [hk]
    split
    · next c1 =>
      have := scale_mul (k := (q - ndig c).toNat) n2 n3
      have e1 : (ndig c - 1).toNat + (q - ndig c).toNat = q.toNat - 1 := by omega
      have e2 : (ndig c - 1).toNat + 1 + (q - ndig c).toNat = q.toNat := by omega
      rw [e1, e2] at this; exact this
    · next c1 =>
      have := scale_div (k := (-(q - ndig c)).toNat) (by omega) n2 n3
      have e1 : (ndig c - 1).toNat - (-(q - ndig c)).toNat = q.toNat - 1 := by omega
      have e2 : (ndig c - 1).toNat + 1 - (-(q - ndig c)).toNat = q.toNat := by omega
      rw [e1, e2] at this; exact this
theorem dl_pre {c e q : Int} (hc : 0 < c) (hq : 2 ≤ q) (hq2 : q ≤ 70) : ilPre (dl_c c e q) (10 ^ q.toNat) := by
  have h := dl_c_range (e := e) hc hq
  have e1 : (10 : Int) ^ (q.toNat + 1) = 10 * 10 ^ q.toNat := by rw [Int.pow_succ]; omega
  have e2 : (10 : Int) ^ q.toNat = 10 * 10 ^ (q.toNat - 1) := by
    have : q.toNat = q.toNat - 1 + 1 := by omega
    rw [this, Int.pow_succ]; simp; omega
  have p0 := ten_pos (q.toNat - 1)
  refine ⟨?_, ?_, ?_, ?_⟩
  · have := ten_le (a := 2) (b := q.toNat) (by omega); omega
  · refine Int.le_trans (ten_le (b := 70) (by omega)) (by decide +kernel)
  · by_cases g : 1 ≤ e + ndig c
    · have := h.1 g; omega
    · have := h.2 g; omega
  · by_cases g : 1 ≤ e + ndig c
    · have := h.1 g; omega
    · have := h.2 g; omega

end
section
theorem bits10 (n : Nat) : intBits ((10 : Int) ^ n) ≤ 4 * n + 1 := intBits_pow_le (by decide) n
theorem mul_ten {a : Int} {n : Nat} (ha : intBits a ≤ 5000000) (hn : n ≤ 1000000) : IntMulOk a (10 ^ n) :=
  IntMulOk.of_le (m := 5000000) (n := 4000001) ha (Nat.le_trans (bits10 n) (by omega)) (by decide)
theorem neg_nonneg_of {k : Int} (h : ¬ 0 ≤ k) : 0 ≤ -k := by omega
theorem neg_le_of {k : Int} (h : -2000 ≤ k) : -k ≤ 1000000 := by omega
theorem toNat_le_of {k : Int} (h : k ≤ 1000) : k.toNat ≤ 1000000 := by omega
theorem toNat_neg_of {k : Int} (h : -2000 ≤ k) : (-k).toNat ≤ 2000 := by omega
theorem bits_log2 {c : Int} (h : c.natAbs.log2 < 1920) : intBits c ≤ 5000000 := by
  refine Nat.le_trans (m := 1920) ?_ (by decide)
  rw [intBits_le_iff]
  by_cases hz : c.natAbs = 0
  · rw [hz]; exact Nat.pow_pos (by omega)
  · exact (Nat.log2_lt hz).mp h
theorem ten_big {n : Nat} (h : n ≤ 2000) : (10 : Int) ^ n ≤ Big := by
  refine Int.le_trans (ten_le h) ?_
  unfold Big
  have e1 : ((10 ^ 2000 : Nat) : Int) = (10 : Int) ^ 2000 := Int.natCast_pow 10 2000
  have e2 : ((2 ^ 8000 : Nat) : Int) = (2 : Int) ^ 8000 := Int.natCast_pow 2 8000
  rw [← e1, ← e2]
  exact Int.ofNat_le.mpr (by decide +kernel)
theorem dl_pre1 {c e q : Int} (hc : 0 < c) (hq : 2 ≤ q) (hq2 : q ≤ 70) (hk : 0 ≤ dl_k c e q) : ilPre (c * 10 ^ (dl_k c e q).toNat) (10 ^ q.toNat) := by
  have := dl_pre (e := e) hc hq hq2
  unfold dl_c at this
  rwa [if_pos hk] at this
theorem dl_pre2 {c e q : Int} (hc : 0 < c) (hq : 2 ≤ q) (hq2 : q ≤ 70) (hk : ¬ 0 ≤ dl_k c e q) : ilPre (divN c (10 ^ (-(dl_k c e q)).toNat)) (10 ^ q.toNat) := by
  have := dl_pre (e := e) hc hq hq2
  unfold dl_c at this
  rwa [if_neg hk] at this
theorem ilog_bits1 {c e q k : Int} (hc : 0 < c) (hq : 2 ≤ q) (hq2 : q ≤ 70) (hkk : k = dl_k c e q) (hk : 0 ≤ k) : intBits (ilogN (c * 10 ^ k.toNat) (10 ^ q.toNat)) ≤ 5000000 := by
  subst hkk; exact Nat.le_trans (ilog_bits (dl_pre1 hc hq hq2 hk)) (by decide)
theorem ilog_bits2 {c e q k : Int} (hc : 0 < c) (hq : 2 ≤ q) (hq2 : q ≤ 70) (hkk : k = dl_k c e q) (hk : ¬ 0 ≤ k) : intBits (ilogN (divN c (10 ^ (-k).toNat)) (10 ^ q.toNat)) ≤ 5000000 := by
  subst hkk; exact Nat.le_trans (ilog_bits (dl_pre2 hc hq hq2 hk)) (by decide)
theorem dl_kbound {c e q : Int} (h0 : 0 < c) (h : ndig c ≤ 1921) (hq : 2 ≤ q) (hq2 : q ≤ 70) : dl_k c e q ≤ 1000 ∧ -2000 ≤ dl_k c e q := by
  have := ndig_pos h0
  unfold dl_k dl_f
  split <;> omega
theorem dl_fbits {c e : Int} (he : intBits e ≤ 4000000) (h : ndig c ≤ 1921) (h0 : 0 < c) : intBits (dl_f c e) ≤ 5000000 := by
  have h1 := ndig_pos h0
  unfold dl_f
  have hb : intBits (ndig c) ≤ 4000000 := Nat.le_trans (intBits_le_64 (by omega) (by omega)) (by decide)
  have h2 := intBits_add_le he hb
  have h3 : intBits (if decide (1 ≤ e + ndig c) = true then (1 : Int) else 0) ≤ 1 := by split <;> decide
  have h4 := intBits_sub_le h2 h3
  omega
theorem dl_val1 {c e p : Int} (hp : 0 < p + 2) (hk : 0 ≤ dl_k c e (p + 2)) : divN (dl_f c e * 10 ^ (p + 2).toNat + divN (ilogN (c * 10 ^ (dl_k c e (p + 2)).toNat) (10 ^ (p + 2).toNat) * 10 ^ (p + 2).toNat) (log10D (p + 2))) 100 = dlog10N c e p := by
  unfold dlog10N dl_d dl_c
  rw [if_pos hp, if_pos hk]
theorem dl_val2 {c e p : Int} (hp : 0 < p + 2) (hk : ¬ 0 ≤ dl_k c e (p + 2)) : divN (dl_f c e * 10 ^ (p + 2).toNat + divN (ilogN (divN c (10 ^ (-(dl_k c e (p + 2))).toNat)) (10 ^ (p + 2).toNat) * 10 ^ (p + 2).toNat) (log10D (p + 2))) 100 = dlog10N c e p := by
  unfold dlog10N dl_d dl_c
  rw [if_pos hp, if_neg hk]

end
section
/-- the laws' own count of figures: while 10 ** size <= c: size += 1 -/
def szP (c size : Int) : Prop := 10 ^ (size - 1).toNat ≤ c
theorem sz_start {c : Int} (h : 1 ≤ c) : ((1 : Int) ≤ 1 ∧ (1 : Int) ≤ 202) ∧ szP c 1 := ⟨by omega, by unfold szP; exact h⟩
theorem ten_lt_iff {a b : Nat} : (10 : Int) ^ a ≤ 10 ^ b → a ≤ b := fun h => by
  refine Nat.not_lt.mp fun hlt => ?_
  have h1 := ten_le (a := b + 1) (b := a) hlt
  rw [Int.pow_succ] at h1
  have := ten_pos b
  omega
theorem sz_next {c size : Int} (hc : c ≤ 10 ^ 200) (h : (1 ≤ size ∧ size ≤ 202) ∧ szP c size) (ht : 10 ^ size.toNat ≤ c) : (1 ≤ size + 1 ∧ size + 1 ≤ 202) ∧ szP c (size + 1) := by
  have := ten_lt_iff (Int.le_trans ht hc)
  refine ⟨by omega, ?_⟩
  unfold szP
  have e : (size + 1 - 1).toNat = size.toNat := by omega
  rw [e]; exact ht
theorem sz_end {c size : Int} (h1 : 1 ≤ size) (h : szP c size) (ht : ¬ 10 ^ size.toNat ≤ c) : ndig c = size := by
  unfold szP at h
  have := ndig_eq (a := c) (k := (size - 1).toNat) h (by
    have e : (size - 1).toNat + 1 = size.toNat := by omega
    rw [e]; omega)
  omega
theorem log2_200 {c : Int} (h0 : 0 < c) (h : c ≤ 10 ^ 200) : c.natAbs.log2 < 1920 := by
  refine (Nat.log2_lt (by omega)).mpr ?_
  have e : ((10 ^ 200 : Nat) : Int) = (10 : Int) ^ 200 := Int.natCast_pow 10 200
  rw [← e] at h
  have h2 : (10 ^ 200 : Nat) < 2 ^ 1920 := by decide +kernel
  generalize (10 ^ 200 : Nat) = k at *
  omega

end
section
/-! a for with any target over a made tuple: the stored names are forgotten but for one int, of which Inv holds; the ledger stands -/
def TurnEndZ (h₀ : Heap) (L : Addr) (stored : List Str) (z : Str) (m₀ : Str → Option Value) (led : List (Addr × Obj)) (Inv : Int → Prop) (Q : Flow → Shared → Prop) (s₁ : Shared) (f : Flow) (s₂ : Shared) : Prop :=
  match f with
  | .ret v => Q (.ret v) s₂
  | .brk => Q .next s₂
  | _ => ∃ h' tk m' a t, s₂ = { s₁ with heap := h', toks := tk } ∧ Fr h₀ L h' m' ∧ News h₀ L h' led ∧ m' z = some (.int a t) ∧ Inv a ∧ ∀ y, y ≠ z → stored.contains y = false → m' y = m₀ y
section
variable {prog : Program} {w : World} {A : Around} {E : Value → Shared → Prop} {s : Shared} {env : Env} {h₀ : Heap} {target : PySem.Expr} {body : List Stmt} {Q : Flow → Shared → Prop}
theorem agree_mapZ {m₀ m₁ : Str → Option Value} {stored : List Str} {z : Str} {a : Int} {t : Tok} (hz : m₁ z = some (.int a t)) (h : ∀ y, y ≠ z → stored.contains y = false → m₁ y = m₀ y) :
    m₁ = fun y => if y = z then some (.int a t) else if stored.contains y then m₁ y else m₀ y := by
  funext y
  by_cases hy : y = z
  · rw [if_pos hy, hy, hz]
  · rw [if_neg hy]
    cases hc : stored.contains y with
    | true => simp
    | false => simp; exact h y hy hc
end

end
section
/-! a for over a made list or tuple, any target: one turn is walked for all; the iterator stands ahead of the ledger -/
def TurnEnd0 (h₀ : Heap) (L : Addr) (stored : List Str) (m₀ : Str → Option Value) (led : List (Addr × Obj)) (Q : Flow → Shared → Prop) (s₁ : Shared) (f : Flow) (s₂ : Shared) : Prop :=
  match f with
  | .ret v => Q (.ret v) s₂
  | .brk => Q .next s₂
  | _ => ∃ h' tk m', s₂ = { s₁ with heap := h', toks := tk } ∧ Fr h₀ L h' m' ∧ News h₀ L h' led ∧ ∀ y, stored.contains y = false → m' y = m₀ y
section
variable {prog : Program} {w : World} {A : Around} {E : Value → Shared → Prop} {s : Shared} {env : Env} {h₀ : Heap} {target : PySem.Expr} {body : List Stmt} {Q : Flow → Shared → Prop}
theorem items_zero {I : Addr} {cl : String} {keep news : List (Addr × Obj)} {m₀ : Str → Option Value} {vs : List Value} (stored : List Str) (hI : ∀ p ∈ news, p.1 < I) (hk : SubL keep news)
    (turn : ∀ (i : Nat) v (u : Str → Option Value) h tk (oI : Obj), oI.cls = .type cl → vs[i]? = some v → Fr h₀ env.locals h (fun y => if stored.contains y then u y else m₀ y) → News h₀ env.locals h ((I, oI) :: news) →
      wpAny (model prog w) A (assign target env v) (fun _ s₃ => wpAny (model prog w) A (execs body env) (TurnEnd0 h₀ env.locals stored m₀ ((I, oI) :: news) Q { s with heap := h, toks := tk }) E s₃) E { s with heap := h, toks := tk })
    (done : ∀ (u : Str → Option Value) h tk, Fr h₀ env.locals h (fun y => if stored.contains y then u y else m₀ y) → News h₀ env.locals h news → Q .next { s with heap := h, toks := tk }) :
    ∀ (n i : Nat) (m : Str → Option Value), i + n = vs.length → (∀ y, stored.contains y = false → m y = m₀ y) → ItemsRest prog w A E h₀ env target body Q s [(I, cl)] keep ((vs.drop i).map .val) m news := by
  have em : ∀ m : Str → Option Value, (∀ y, stored.contains y = false → m y = m₀ y) → m = fun y => if stored.contains y then m y else m₀ y := fun m h => by
    funext y
    cases hc : stored.contains y with
    | true => simp
    | false => simp; exact h y hc
  intro n
  induction n with
  | zero =>
    intro i m hi ha
    rw [List.drop_eq_nil_of_le (by omega)]
    intro h tk F N
    rw [em m ha] at F
    exact done m h tk F N
  | succ n ih =>
    intro i m hi ha
    have hlt : i < vs.length := by omega
    rw [List.drop_eq_getElem_cons hlt]
    intro v h tk hv F
    have hv' : v = vs[i] := hv
    intro oI hoI N
    rw [em m ha] at F
    refine wpAny_mono (turn i v m h tk oI hoI (by rw [hv']; exact List.getElem?_eq_getElem hlt) F N) (fun _ s₃ q => wpAny_mono q (fun f s₂ p => ?_) fun _ _ e => e) fun _ _ e => e
    have fin : (∃ h' tk' m', s₂ = { ({ s with heap := h, toks := tk } : Shared) with heap := h', toks := tk' } ∧ Fr h₀ env.locals h' m' ∧ News h₀ env.locals h' ((I, oI) :: news) ∧ ∀ y, stored.contains y = false → m' y = m₀ y) →
        UnrEndW h₀ env.locals { s with heap := h, toks := tk } [(I, oI)] (fun m' n' => SubL keep n' ∧ ItemsRest prog w A E h₀ env target body Q s [(I, cl)] keep ((vs.drop (i + 1)).map .val) m' n') s₂ := by
      rintro ⟨h', tk', m', e, F', N', ha'⟩
      exact ⟨h', tk', m', news, e, F', N', fun p hp q hq => by rw [List.mem_singleton.mp hq]; exact Nat.ne_of_lt (hI p hp), hk, ih (i + 1) m' (by omega) ha'⟩
    cases f with
    | ret v => exact p
    | brk => exact p
    | next => exact fin p
    | cont => exact fin p
theorem items_one {I : Addr} {cl : String} {keep news : List (Addr × Obj)} {m₀ : Str → Option Value} {vs : List Value} (stored : List Str) (z : Str) (Inv : Nat → Int → Prop) (hI : ∀ p ∈ news, p.1 < I) (hk : SubL keep news)
    (turn : ∀ (i : Nat) v (u : Str → Option Value) h tk (oI : Obj) a t, oI.cls = .type cl → vs[i]? = some v → Inv i a → Fr h₀ env.locals h (fun y => if y = z then some (.int a t) else if stored.contains y then u y else m₀ y) → News h₀ env.locals h ((I, oI) :: news) →
      wpAny (model prog w) A (assign target env v) (fun _ s₃ => wpAny (model prog w) A (execs body env) (TurnEndZ h₀ env.locals stored z m₀ ((I, oI) :: news) (Inv (i + 1)) Q { s with heap := h, toks := tk }) E s₃) E { s with heap := h, toks := tk })
    (done : ∀ (u : Str → Option Value) h tk a t, Inv vs.length a → Fr h₀ env.locals h (fun y => if y = z then some (.int a t) else if stored.contains y then u y else m₀ y) → News h₀ env.locals h news → Q .next { s with heap := h, toks := tk }) :
    ∀ (n i : Nat) (m : Str → Option Value) (a : Int) (t : Tok), i + n = vs.length → m z = some (.int a t) → Inv i a → (∀ y, y ≠ z → stored.contains y = false → m y = m₀ y) → ItemsRest prog w A E h₀ env target body Q s [(I, cl)] keep ((vs.drop i).map .val) m news := by
  intro n
  induction n with
  | zero =>
    intro i m a t hi hz hia ha
    rw [List.drop_eq_nil_of_le (by omega)]
    intro h tk F N
    rw [agree_mapZ hz ha] at F
    have ei : i = vs.length := by omega
    subst ei
    exact done m h tk a t hia F N
  | succ n ih =>
    intro i m a t hi hz hia ha
    have hlt : i < vs.length := by omega
    rw [List.drop_eq_getElem_cons hlt]
    intro v h tk hv F
    have hv' : v = vs[i] := hv
    intro oI hoI N
    rw [agree_mapZ hz ha] at F
    refine wpAny_mono (turn i v m h tk oI a t hoI (by rw [hv']; exact List.getElem?_eq_getElem hlt) hia F N) (fun _ s₃ q => wpAny_mono q (fun f s₂ p => ?_) fun _ _ e => e) fun _ _ e => e
    have fin : (∃ h' tk' m' a t, s₂ = { ({ s with heap := h, toks := tk } : Shared) with heap := h', toks := tk' } ∧ Fr h₀ env.locals h' m' ∧ News h₀ env.locals h' ((I, oI) :: news) ∧ m' z = some (.int a t) ∧ Inv (i + 1) a ∧ ∀ y, y ≠ z → stored.contains y = false → m' y = m₀ y) →
        UnrEndW h₀ env.locals { s with heap := h, toks := tk } [(I, oI)] (fun m' n' => SubL keep n' ∧ ItemsRest prog w A E h₀ env target body Q s [(I, cl)] keep ((vs.drop (i + 1)).map .val) m' n') s₂ := by
      rintro ⟨h', tk', m', a', t', e, F', N', hz', hi', ha'⟩
      exact ⟨h', tk', m', news, e, F', N', fun p hp q hq => by rw [List.mem_singleton.mp hq]; exact Nat.ne_of_lt (hI p hp), hk, ih (i + 1) m' a' t' (by omega) hz' hi' ha'⟩
    cases f with
    | ret v => exact p
    | brk => exact p
    | next => exact fin p
    | cont => exact fin p
theorem subl_one {p : Addr × Obj} {l : List (Addr × Obj)} (h : p ∈ l) : SubL [p] l := And.intro h trivial
/-- the rules -/
theorem list_zero {ax : Addr} {lo : Obj} {vs : List Value} {n : Nat} {m₀ : Str → Option Value} {news : List (Addr × Obj)} (stored : List Str)
    (hh : A.handled = none) (F : Fr h₀ env.locals s.heap m₀) (N : News h₀ env.locals s.heap news) (hm : (ax, lo) ∈ news) (hc : lo.cls = .type "list") (hd : lo.data = .seq vs.toArray n)
    (turn : ∀ I : Addr, (∀ p ∈ news, p.1 < I) → ∀ (i : Nat) v (u : Str → Option Value) h tk (oI : Obj), oI.cls = .type "list_iterator" → vs[i]? = some v → Fr h₀ env.locals h (fun y => if stored.contains y then u y else m₀ y) → News h₀ env.locals h ((I, oI) :: news) →
      wpAny (model prog w) A (assign target env v) (fun _ s₃ => wpAny (model prog w) A (execs body env) (TurnEnd0 h₀ env.locals stored m₀ ((I, oI) :: news) Q { s with heap := h, toks := tk }) E s₃) E { s with heap := h, toks := tk })
    (done : ∀ (u : Str → Option Value) h tk, Fr h₀ env.locals h (fun y => if stored.contains y then u y else m₀ y) → News h₀ env.locals h news → Q .next { s with heap := h, toks := tk }) :
    wpAny (model prog w) A (pyIter (.ref ax)) (fun it s₂ => TurnsAt prog w A h₀ env target body Q E it s₂) E s :=
  iter_listTurns hh F N hm hc hd fun I hI => items_zero stored hI (subl_one hm) (turn I hI) done vs.length 0 m₀ (by omega) (fun _ _ => rfl)
theorem tup_zero {ax : Addr} {lo : Obj} {vs : List Value} {n : Nat} {m₀ : Str → Option Value} {news : List (Addr × Obj)} (stored : List Str)
    (hh : A.handled = none) (F : Fr h₀ env.locals s.heap m₀) (N : News h₀ env.locals s.heap news) (hm : (ax, lo) ∈ news) (hc : lo.cls = .type "tuple") (hd : lo.data = .seq vs.toArray n)
    (turn : ∀ I : Addr, (∀ p ∈ news, p.1 < I) → ∀ (i : Nat) v (u : Str → Option Value) h tk (oI : Obj), oI.cls = .type "tuple_iterator" → vs[i]? = some v → Fr h₀ env.locals h (fun y => if stored.contains y then u y else m₀ y) → News h₀ env.locals h ((I, oI) :: news) →
      wpAny (model prog w) A (assign target env v) (fun _ s₃ => wpAny (model prog w) A (execs body env) (TurnEnd0 h₀ env.locals stored m₀ ((I, oI) :: news) Q { s with heap := h, toks := tk }) E s₃) E { s with heap := h, toks := tk })
    (done : ∀ (u : Str → Option Value) h tk, Fr h₀ env.locals h (fun y => if stored.contains y then u y else m₀ y) → News h₀ env.locals h news → Q .next { s with heap := h, toks := tk }) :
    wpAny (model prog w) A (pyIter (.ref ax)) (fun it s₂ => TurnsAt prog w A h₀ env target body Q E it s₂) E s :=
  iter_tupTurns hh F N hm hc hd fun I hI => items_zero stored hI (subl_one hm) (turn I hI) done vs.length 0 m₀ (by omega) (fun _ _ => rfl)
theorem tup_one {ax : Addr} {lo : Obj} {vs : List Value} {n : Nat} {m₀ : Str → Option Value} {news : List (Addr × Obj)} {a₀ : Int} {t₀ : Tok} (stored : List Str) (z : Str) (Inv : Nat → Int → Prop)
    (hh : A.handled = none) (F : Fr h₀ env.locals s.heap m₀) (N : News h₀ env.locals s.heap news) (hm : (ax, lo) ∈ news) (hc : lo.cls = .type "tuple") (hd : lo.data = .seq vs.toArray n) (hz : m₀ z = some (.int a₀ t₀)) (hi₀ : Inv 0 a₀)
    (turn : ∀ I : Addr, (∀ p ∈ news, p.1 < I) → ∀ (i : Nat) v (u : Str → Option Value) h tk (oI : Obj) a t, oI.cls = .type "tuple_iterator" → vs[i]? = some v → Inv i a → Fr h₀ env.locals h (fun y => if y = z then some (.int a t) else if stored.contains y then u y else m₀ y) → News h₀ env.locals h ((I, oI) :: news) →
      wpAny (model prog w) A (assign target env v) (fun _ s₃ => wpAny (model prog w) A (execs body env) (TurnEndZ h₀ env.locals stored z m₀ ((I, oI) :: news) (Inv (i + 1)) Q { s with heap := h, toks := tk }) E s₃) E { s with heap := h, toks := tk })
    (done : ∀ (u : Str → Option Value) h tk a t, Inv vs.length a → Fr h₀ env.locals h (fun y => if y = z then some (.int a t) else if stored.contains y then u y else m₀ y) → News h₀ env.locals h news → Q .next { s with heap := h, toks := tk }) :
    wpAny (model prog w) A (pyIter (.ref ax)) (fun it s₂ => TurnsAt prog w A h₀ env target body Q E it s₂) E s :=
  iter_tupTurns hh F N hm hc hd fun I hI => items_one stored z Inv hI (subl_one hm) (turn I hI) done vs.length 0 m₀ a₀ t₀ (by omega) hz hi₀ (fun _ _ _ => rfl)
end

end
section
theorem divN_uniq {a b q : Int} (hb : 0 < b) (h1 : -b ≤ 2 * (a - b * q)) (h2 : 2 * (a - b * q) ≤ b) (h3 : 2 * (a - b * q) = b ∨ 2 * (a - b * q) = -b → q % 2 = 0) : divN a b = q := by
  have n := divN_near (a := a) hb
  have e := divN_even (a := a) hb
  generalize divN a b = r at *
  rcases Int.lt_trichotomy r q with h | h | h
  · exfalso
    have k : b * (r + 1) ≤ b * q := Int.mul_le_mul_of_nonneg_left (by omega) (by omega)
    have e1 : b * (r + 1) = b * r + b := by grind
    have e2 : b * q = b * r + b := by omega
    have e3 : q = r + 1 := by
      refine Int.le_antisymm (Int.not_lt.mp fun hlt => ?_) (by omega)
      have : b * (r + 2) ≤ b * q := Int.mul_le_mul_of_nonneg_left (by omega) (by omega)
      have e4 : b * (r + 2) = b * r + b + b := by grind
      omega
    have a1 := e (by omega)
    have a2 := h3 (by omega)
    omega
  · exact h
  · exfalso
    have k : b * (q + 1) ≤ b * r := Int.mul_le_mul_of_nonneg_left (by omega) (by omega)
    have e1 : b * (q + 1) = b * q + b := by grind
    have e3 : r = q + 1 := by
      refine Int.le_antisymm (Int.not_lt.mp fun hlt => ?_) (by omega)
      have : b * (q + 2) ≤ b * r := Int.mul_le_mul_of_nonneg_left (by omega) (by omega)
      have e4 : b * (q + 2) = b * q + b + b := by grind
      omega
    have e2 : b * r = b * q + b := by rw [e3]; exact e1
    have a1 := e (by omega)
    have a2 := h3 (by omega)
    omega
theorem ilog_one {M : Int} (hM : 100 ≤ M) : ilogN M M = 0 := by
  have e : ilLp 40 M (M - M) 0 = (0, 0) := by
    have e0 : M - M = 0 := by omega
    rw [e0]
    show (if ilT M 0 0 = true then _ else _) = _
    have ht : ilT M 0 0 = false := by
      unfold ilT
      rw [if_pos (by omega)]
      refine decide_eq_false ?_
      show ¬ M ≤ (0 : Int) * 2 ^ (8 - 0 : Int).toNat
      omega
    rw [if_neg (by simp [ht])]
  unfold ilogN
  rw [e]
  show divN (_ * 0) M = 0
  rw [Int.mul_zero]
  refine divN_uniq (by omega) ?_ ?_ ?_ <;> omega
theorem ten_q {p : Int} (hp : 0 ≤ p) : (10 : Int) ^ (p + 2).toNat = 10 ^ p.toNat * 100 := by
  have e : (p + 2).toNat = p.toNat + 2 := by omega
  rw [e, Int.pow_add]; rfl
/-- what _dlog10 makes of a number whose scaled coefficient and decade are known -/
theorem dlog10_val {c e p f x : Int} (hp : 0 ≤ p) (hf : dl_f c e = f) (hx : dl_c c e (p + 2) = x) : dlog10N c e p = divN (f * 10 ^ (p + 2).toNat + divN (ilogN x (10 ^ (p + 2).toNat) * 10 ^ (p + 2).toNat) (log10D (p + 2))) 100 := by
  unfold dlog10N dl_d
  rw [if_pos (by omega), hf, hx]

end
section
structure P01 (n j f t : Int) : Prop where
  f1 : 10 ^ (n - 1).toNat ≤ f
  f2 : f < 10 ^ n.toNat
  t1 : 0 ≤ t
  t2 : t < 10 ^ j.toNat
/-- sizes -/
theorem P01.pos {n j f t : Int} (P : P01 n j f t) : 0 < f := by
  have := ten_pos (n - 1).toNat; have := P.f1; omega
theorem bits_sm {a : Int} (h1 : -1000000 ≤ a) (h2 : a ≤ 1000000) : intBits a ≤ 64 := intBits_le_64 (by omega) (by omega)
def In01 (i : Nat) (d : Int) : Prop := 0 ≤ d ∧ intBits d ≤ 1500000 + i
theorem In01.le {i : Nat} {d : Int} (h : In01 i d) (hi : i < 4) : 0 ≤ d ∧ intBits d ≤ 2000000 := ⟨h.1, by have := h.2; omega⟩
abbrev tup2 (f : Int) (a : Tok) (t : Int) (b : Tok) (k : Nat) : Obj := { cls := .type "tuple", data := .seq #[.int f a, .int t b] k }

end
section

end
section
/-! the chain of roots, held against written chains: q (r+1) ^ 2 against q r, q r = Q r / S -/
/-- a property that the loop keeps holds at its end -/
theorem ilLp_inv {x M : Int} (P : ilPre x M) (J : Int → Int → Prop) (h0 : J (x - M) 0) (hs : ∀ y R, ilJ x M y R → J y R → ilT M y R = true → J (ilS M y R) (R + 1)) :
    ∃ y R, ilJ x M y R ∧ J y R ∧ ilT M y R = false ∧ ilLp 40 M (x - M) 0 = (y, R) := by
  have run : ∀ (n : Nat) (y R : Int), ilJL x M y R → J y R → 40 - R.toNat = n → ∃ y' R', ilJ x M y' R' ∧ J y' R' ∧ ilT M y' R' = false ∧ ilLp 40 M (x - M) 0 = (y', R') := by
    intro n
    induction n with
    | zero => intro y R h _ e; have := h.1.R1; omega
    | succ n ih =>
      intro y R h hj e
      cases t : ilT M y R with
      | false => exact ⟨y, R, h.1, hj, t, h.stop t⟩
      | true => exact ih _ _ (h.next P t) (hs y R h.1 hj t) (by have := h.1.R0; omega)
  exact run 40 (x - M) 0 (ilJL.start P) h0 rfl
/-- the two relations between y and the root s of a turn -/
theorem root_lo {x M y R p s : Int} (P : ilPre x M) (h : ilJ x M y R) (hp : 2 ^ R.toNat = p) (hs : sqrtN (M * (M + rshN y R)) = s) : 2 * M * y ≥ p * (2 * (s * s) - 2 * s - 2 * (M * M) - M) ∧ 2 * M * y ≤ p * (2 * (s * s) + 2 * s - 2 * (M * M) + M) := by
  obtain ⟨a1, a2, s0, s1, s2⟩ := h.arg P
  have hM := P.M0
  have pp := pow2_pos R.toNat
  have hn := divN_near (a := y) pp
  rw [rshN_div] at *
  rw [hs] at *
  rw [hp] at *
  generalize divN y p = r at *
  have k1 : M * (p * r * 2) ≤ M * (2 * y + p) := Int.mul_le_mul_of_nonneg_left (by grind) (by omega)
  have k2 : M * (2 * y - p) ≤ M * (p * r * 2) := Int.mul_le_mul_of_nonneg_left (by grind) (by omega)
  have k3 : p * (s * s - s) ≤ p * (M * (M + r)) := Int.mul_le_mul_of_nonneg_left (by omega) (by omega)
  have k4 : p * (M * (M + r)) ≤ p * (s * s + s) := Int.mul_le_mul_of_nonneg_left (by omega) (by omega)
  constructor <;> grind
theorem step_near {x M y R s : Int} (P : ilPre x M) (h : ilJ x M y R) (hs : sqrtN (M * (M + rshN y R)) = s) : 0 < M + s ∧ 4 * M * y - (M + s) ≤ 2 * (ilS M y R * (M + s)) ∧ 2 * (ilS M y R * (M + s)) ≤ 4 * M * y + (M + s) := by
  have hd := (h.dvs P).1
  unfold ilS
  rw [hs] at *
  have hn := divN_near (a := M * y * 2) hd
  generalize divN (M * y * 2) (M + s) = v at *
  have e1 : v * (M + s) = (M + s) * v := Int.mul_comm _ _
  have e2 : 4 * M * y = 2 * (M * y * 2) := by grind
  rw [e1, e2]
  exact ⟨hd, by omega, by omega⟩
theorem mono2 {a b c : Int} (h : a ≤ b) (hc : 0 ≤ c) : c * a ≤ c * b := Int.mul_le_mul_of_nonneg_left h hc
theorem upPos {x M y R p S Q Q' E E' : Int} (P : ilPre x M) (h : ilJ x M y R) (hx : M ≤ x) (hp : 2 ^ R.toNat = p) (hS : 0 < S) (hQ1 : S ≤ Q') (hQ : Q * S ≤ Q' * Q') (hE : 2 * E + 2 * (p * (Q' - S)) + S ≤ 2 * E')
    (hE0 : 0 ≤ E) (hb : S * y ≤ p * (M * (Q - S)) + E) : S * ilS M y R ≤ 2 * p * (M * (Q' - S)) + E' := by
  have hM := P.M0
  have hM0 : 0 ≤ M := by omega
  have pp : 0 < p := by rw [← hp]; exact pow2_pos _
  obtain ⟨rl, ru⟩ := root_lo P h hp rfl
  obtain ⟨d0, d1, d2⟩ := step_near P h rfl
  have hsM := (h.root P).1 hx
  obtain ⟨y0, _⟩ := h.up hx
  generalize sqrtN (M * (M + rshN y R)) = s at *
  generalize ilS M y R = v at *
  suffices hk : 4 * M * y * S ≤ 2 * (2 * p * (M * (Q' - S)) * (M + s)) + (2 * E' - S) * (M + s) by
    refine Int.not_lt.mp fun hlt => ?_
    have k1 : (M + s) * (2 * p * (M * (Q' - S)) + E' + 1) ≤ (M + s) * (S * v) := mono2 (by omega) (by omega)
    have k2 : S * (2 * (v * (M + s))) ≤ S * (4 * M * y + (M + s)) := mono2 d2 (by omega)
    grind
  have eE : 2 * (E + p * (Q' - S)) ≤ 2 * E' - S := by omega
  have k0 : 0 ≤ E + p * (Q' - S) := by
    have := Int.mul_nonneg (a := p) (b := Q' - S) (by omega) (by omega)
    omega
  have kE : (M + s) * (2 * (E + p * (Q' - S))) ≤ (M + s) * (2 * E' - S) := mono2 eE (by omega)
  have kM : (2 * (E + p * (Q' - S))) * (M + M) ≤ (2 * (E + p * (Q' - S))) * (M + s) := mono2 (by omega) (by omega)
  by_cases c : Q' * M ≤ S * s + S
  · refine Int.le_of_mul_le_mul_left (a := S) ?_ hS
    have q1 : (p * (M * (Q' - S))) * (M * (S + Q') - S) ≤ (p * (M * (Q' - S))) * (S * (M + s)) := by
      refine mono2 (by grind) ?_
      exact Int.mul_nonneg (by omega) (Int.mul_nonneg hM0 (by omega))
    have q2 : (p * (M * M)) * (Q * S) ≤ (p * (M * M)) * (Q' * Q') := mono2 hQ (Int.mul_nonneg (by omega) (Int.mul_nonneg hM0 hM0))
    have q3 : (4 * M * S) * (S * y) ≤ (4 * M * S) * (p * (M * (Q - S)) + E) := mono2 hb (Int.mul_nonneg (by omega) (by omega))
    have q4 : S * ((2 * (E + p * (Q' - S))) * (M + M)) ≤ S * ((M + s) * (2 * E' - S)) := mono2 (by grind) (by omega)
    grind
  · have q1 : (p * (M + s) * 2) * (S + 1) ≤ (p * (M + s) * 2) * (Q' * M - S * s) := by
      refine mono2 (by omega) ?_
      exact Int.mul_nonneg (Int.mul_nonneg (by omega) (by omega)) (by omega)
    have q2 : S * (2 * M * y) ≤ S * (p * (2 * (s * s) + 2 * s - 2 * (M * M) + M)) := mono2 ru (by omega)
    have q3 : 0 ≤ p * M := Int.mul_nonneg (by omega) hM0
    have q4 : 0 ≤ (M + s) * (2 * E' - S) := Int.mul_nonneg (by omega) (by omega)
    have q5 : 0 ≤ p * M * S := Int.mul_nonneg q3 (by omega)
    have q6 : 0 ≤ p * (M + s) := Int.mul_nonneg (by omega) (by omega)
    grind

end
section
theorem s_low {M y p S Q Q' E K s : Int} (hM : 100 ≤ M) (pp : 0 < p) (hS : 0 < S) (hQ1 : 0 ≤ Q') (hQ : Q' * Q' ≤ Q * S) (hs0 : 0 ≤ s) (hKS : S ≤ K) (hK0 : K ≤ 100 * Q')
    (hK : 200 * (E * S) + 100 * (p * (S * S)) ≤ 2 * (p * (100 * (2 * (K * Q') - S * Q') - K * (K - S)))) (hb : p * (M * (Q - S)) ≤ S * y + E)
    (ru : 2 * M * y ≤ p * (2 * (s * s) + 2 * s - 2 * (M * M) + M)) : Q' * M - K ≤ S * s := by
  refine Int.not_lt.mp fun hlt => ?_
  have hM0 : 0 ≤ M := by omega
  -- (S s)^2 + S (S s) < (Q' M - K)^2 + S (Q' M - K)
  have hz : 0 ≤ S * s := Int.mul_nonneg (by omega) hs0
  have hA : 0 ≤ Q' * M - K := by omega
  have a1 : (S * s) * (S * s) ≤ (Q' * M - K) * (Q' * M - K) := mul_lo hz hz (by omega) (by omega)
  have a2 : S * (S * s) ≤ S * (Q' * M - K - 1) := mono2 (by omega) (by omega)
  have a3 : (2 * p) * ((S * s) * (S * s) + S * (S * s)) ≤ (2 * p) * ((Q' * M - K) * (Q' * M - K) + S * (Q' * M - K - 1)) := mono2 (by omega) (by omega)
  have b1 : (S * S) * (2 * M * y) ≤ (S * S) * (p * (2 * (s * s) + 2 * s - 2 * (M * M) + M)) := mono2 ru (Int.mul_nonneg (by omega) (by omega))
  have b2 : (2 * M * S) * (p * (M * (Q - S))) ≤ (2 * M * S) * (S * y + E) := mono2 hb (Int.mul_nonneg (by omega) (by omega))
  have b3 : (2 * (p * (M * M))) * (Q' * Q') ≤ (2 * (p * (M * M))) * (Q * S) := mono2 hQ (Int.mul_nonneg (by omega) (Int.mul_nonneg (by omega) (Int.mul_nonneg hM0 hM0)))
  have c0 : M * (200 * (E * S) + 100 * (p * (S * S))) ≤ M * (2 * (p * (100 * (2 * (K * Q') - S * Q') - K * (K - S)))) := mono2 hK hM0
  have c1 : (p * (K * (K - S))) * 100 ≤ (p * (K * (K - S))) * M := mono2 hM (Int.mul_nonneg (by omega) (Int.mul_nonneg (by omega) (by omega)))
  have c2 : 0 < p * S := Int.mul_pos pp hS
  grind
theorem lowNeg {x M y R p S Q Q' E E' K : Int} (P : ilPre x M) (h : ilJ x M y R) (hp : 2 ^ R.toNat = p) (hS : 0 < S) (hQ0 : 0 ≤ Q') (hQ1 : Q' ≤ S) (hQ : Q' * Q' ≤ Q * S) (hKS : S ≤ K) (hK0 : K ≤ 100 * Q')
    (hK : 200 * (E * S) + 100 * (p * (S * S)) ≤ 2 * (p * (100 * (2 * (K * Q') - S * Q') - K * (K - S))))
    (hE : 400 * (S * E + p * ((S - Q') * K)) ≤ (2 * E' - S) * (100 * (S + Q') - K)) (hE0 : 0 ≤ E) (hE1 : S ≤ 2 * E') (hb : p * (M * (Q - S)) ≤ S * y + E) :
    2 * p * (M * (Q' - S)) ≤ S * ilS M y R + E' := by
  have hM := P.M0
  have hM0 : 0 ≤ M := by omega
  have pp : 0 < p := by rw [← hp]; exact pow2_pos _
  obtain ⟨rl, ru⟩ := root_lo P h hp rfl
  obtain ⟨d0, d1, d2⟩ := step_near P h rfl
  have s0 : 0 ≤ sqrtN (M * (M + rshN y R)) := by have := (h.arg P).2.2.1; omega
  generalize sqrtN (M * (M + rshN y R)) = s at *
  generalize ilS M y R = v at *
  have hs := s_low hM pp hS hQ0 hQ s0 hKS hK0 hK hb ru
  suffices hk : 2 * (2 * p * (M * (Q' - S)) * (M + s)) ≤ 4 * M * y * S + (2 * E' - S) * (M + s) by
    refine Int.not_lt.mp fun hlt => ?_
    have k1 : (M + s) * (S * v + E' + 1) ≤ (M + s) * (2 * p * (M * (Q' - S))) := mono2 (by omega) (by omega)
    have k2 : S * (4 * M * y - (M + s)) ≤ S * (2 * (v * (M + s))) := mono2 d1 (by omega)
    grind
  refine Int.le_of_mul_le_mul_left (a := S) ?_ hS
  have q1 : (p * (M * (S - Q'))) * (M * (S + Q') - K) ≤ (p * (M * (S - Q'))) * (S * (M + s)) := by
    refine mono2 (by grind) ?_
    exact Int.mul_nonneg (by omega) (Int.mul_nonneg hM0 (by omega))
  have q2 : (p * (M * M)) * (Q' * Q') ≤ (p * (M * M)) * (Q * S) := mono2 hQ (Int.mul_nonneg (by omega) (Int.mul_nonneg hM0 hM0))
  have q3 : (4 * M * S) * (p * (M * (Q - S))) ≤ (4 * M * S) * (S * y + E) := mono2 hb (Int.mul_nonneg (by omega) (by omega))
  have q4 : (2 * E' - S) * (M * (S + Q') - K) ≤ (2 * E' - S) * (S * (M + s)) := mono2 (by grind) (by omega)
  have q5 : ((2 * E' - S) * K) * 100 ≤ ((2 * E' - S) * K) * M := mono2 hM (Int.mul_nonneg (by omega) (by omega))
  have q6 : M * (400 * (S * E + p * ((S - Q') * K))) ≤ M * ((2 * E' - S) * (100 * (S + Q') - K)) := mono2 hE hM0
  grind
structure ChNeg (n : Nat) (S : Int) (Q E K : Nat → Int) : Prop where
  S0 : 0 < S
  q : ∀ r, r < n → 0 ≤ Q (r + 1) ∧ Q (r + 1) ≤ S ∧ Q (r + 1) * Q (r + 1) ≤ Q r * S ∧ S ≤ K r ∧ K r ≤ 100 * Q (r + 1) ∧
    200 * (E r * S) + 100 * (2 ^ r * (S * S)) ≤ 2 * (2 ^ r * (100 * (2 * (K r * Q (r + 1)) - S * Q (r + 1)) - K r * (K r - S))) ∧
    400 * (S * E r + 2 ^ r * ((S - Q (r + 1)) * K r)) ≤ (2 * E (r + 1) - S) * (100 * (S + Q (r + 1)) - K r) ∧ 0 ≤ E r ∧ S ≤ 2 * E (r + 1)
  last : 1024 * (S - Q 10) * 100 + E 10 < 400 * S
theorem chNeg_end {x M : Int} {S : Int} {Q E K : Nat → Int} (P : ilPre x M) (hx : x < M) (C : ChNeg 10 S Q E K) (hE10 : 0 ≤ E 10) (h0 : Q 0 * M ≤ x * S) (hE0 : 0 ≤ E 0) :
    ∃ y r, r ≤ 10 ∧ ilJ x M y (r : Nat) ∧ ilT M y (r : Nat) = false ∧ ilLp 40 M (x - M) 0 = (y, ((r : Nat) : Int)) ∧ 2 ^ r * (M * (Q r - S)) ≤ S * y + E r := by
  have hM := P.M0
  have hM0 : 0 ≤ M := by omega
  obtain ⟨y, R, h, ⟨r, e, hr, hb⟩, t, el⟩ := ilLp_inv P (fun y R => ∃ r : Nat, R = (r : Nat) ∧ r ≤ 10 ∧ 2 ^ r * (M * (Q r - S)) ≤ S * y + E r) ⟨0, rfl, by omega, by simp; grind⟩ (by
    rintro y R h ⟨r, rfl, hr, hb⟩ t
    have hr2 : r < 10 := by
      refine Nat.not_le.mp fun hle => ?_
      have e : r = 10 := by omega
      subst e
      unfold ilT at t
      rw [if_neg (by decide)] at t
      have t1 := fdiv_ge (b := 2 ^ (((10 : Nat) : Int) - 8).toNat) (pow2_pos _) (of_decide_eq_true t)
      have e1 : (2 : Int) ^ (((10 : Nat) : Int) - 8).toNat = 4 := by decide
      rw [e1] at t1
      obtain ⟨u1, u2, u3⟩ := h.dn hx
      have e2 : (2 : Int) ^ 10 = 1024 := by decide
      rw [e2] at hb
      have l := C.last
      have S0 := C.S0
      have k1 : S * y ≤ S * (-(4 * M)) := mono2 (by omega) (by omega)
      have k2 : M * (1024 * (S - Q 10) * 100 + E 10 + 1) ≤ M * (400 * S) := mono2 l hM0
      have k3 : E 10 * 100 ≤ E 10 * M := mono2 hM hE10
      grind
    refine ⟨r + 1, by omega, by omega, ?_⟩
    obtain ⟨c1, c2, c3, c4, c5, c6, c7, c8, c9⟩ := C.q r (by omega)
    have := lowNeg (p := 2 ^ r) P h (by simp) C.S0 c1 c2 c3 c4 c5 c6 c7 c8 c9 hb
    rw [Int.pow_succ]
    grind)
  subst e
  exact ⟨y, r, hr, h, t, el, hb⟩

end
section
def qCh (S q : Int) : Nat → Int
  | 0 => q
  | r + 1 => (isq 300 (qCh S q r * S).toNat : Int)
def eCh (S : Int) (Q : Nat → Int) : Nat → Int
  | 0 => 0
  | r + 1 => eCh S Q r + 2 ^ r * (Q (r + 1) - S) + (S + 1) / 2
/-- the room that the root's floor wants, and the errors, x below M -/
def kN6 (S : Int) (Q : Nat → Int) (E : Int) (r : Nat) : Int := S + (S * (100 * (2 ^ r * (S)) + 200 * E)) / (400 * (2 ^ r * Q (r + 1))) + S / 2
def eN6 (S : Int) (Q : Nat → Int) : Nat → Int
  | 0 => 0
  | r + 1 => (400 * (S * eN6 S Q r + 2 ^ r * ((S - Q (r + 1)) * kN6 S Q (eN6 S Q r) r))) / (2 * (100 * (S + Q (r + 1)) - kN6 S Q (eN6 S Q r) r)) + 1 + (S + 1) / 2
theorem divN_mono {a b n : Int} (hn : 0 < n) (h : a ≤ b) : divN a n ≤ divN b n := by
  have na := divN_near (a := a) hn
  have nb := divN_near (a := b) hn
  have ea := divN_even (a := a) hn
  have eb := divN_even (a := b) hn
  generalize divN a n = p at *
  generalize divN b n = q at *
  refine Int.not_lt.mp fun hlt => ?_
  have k : n * (q + 1) ≤ n * p := mono2 (by omega) (by omega)
  have e1 : n * (q + 1) = n * q + n := by grind
  have e3 : p = q + 1 := by
    refine Int.le_antisymm (Int.not_lt.mp fun hlt => ?_) (by omega)
    have : n * (q + 2) ≤ n * p := mono2 (by omega) (by omega)
    have e4 : n * (q + 2) = n * q + n + n := by grind
    omega
  have e2 : n * p = n * q + n := by rw [e3]; exact e1
  have a1 := ea (by omega)
  have a2 := eb (by omega)
  omega
/-- a number of first figure d and so many more -/
structure D6 (c d more : Int) : Prop where
  m0 : 0 ≤ more
  d1 : 1 ≤ d
  d2 : d ≤ 9
  lo : d * 10 ^ more.toNat ≤ c
  hi : c < (d + 1) * 10 ^ more.toNat
theorem D6.pos {c d more : Int} (h : D6 c d more) : 0 < c := by
  have p := ten_pos more.toNat
  have : 1 * 10 ^ more.toNat ≤ d * 10 ^ more.toNat := Int.mul_le_mul_of_nonneg_right h.d1 (by omega)
  have := h.lo
  omega

end
section
/-! Horner's scheme at two places -/
structure HI (M w : Int) : Prop where
  lo : M ≤ 50 * w
  hi : 40 * w ≤ 41 * M
theorem divk {M k : Int} (hM : 100 ≤ M) (h1 : 1 ≤ k) (h2 : k ≤ 10) : M ≤ 10 * divN M k + 5 ∧ divN M k ≤ M := by
  have n := divN_near (a := M) (b := k) (by omega)
  have hk : k = 1 ∨ k = 2 ∨ k = 3 ∨ k = 4 ∨ k = 5 ∨ k = 6 ∨ k = 7 ∨ k = 8 ∨ k = 9 ∨ k = 10 := by omega
  rcases hk with rfl | rfl | rfl | rfl | rfl | rfl | rfl | rfl | rfl | rfl <;> omega
theorem hi_start {M k : Int} (hM : 100 ≤ M) (h1 : 1 ≤ k) (h2 : k ≤ 10) : HI M (divN M k) := by
  have := divk hM h1 h2
  exact ⟨by omega, by omega⟩
theorem prod_small {M a w : Int} (hM : 100 ≤ M) (ha : -M ≤ 100 * a ∧ 100 * a ≤ M) (hw : HI M w) : 4000 * (a * w) ≤ 41 * (M * M) ∧ -(41 * (M * M)) ≤ 4000 * (a * w) := by
  have a1 : 0 ≤ (M - 100 * a) * (41 * M - 40 * w) := Int.mul_nonneg (by omega) (by have := hw.hi; omega)
  have a2 : 0 ≤ (M + 100 * a) * (40 * w) := Int.mul_nonneg (by omega) (by have := hw.lo; omega)
  have a3 : 0 ≤ (M - 100 * a) * (40 * w) := Int.mul_nonneg (by omega) (by have := hw.lo; omega)
  have a4 : 0 ≤ (M + 100 * a) * (41 * M - 40 * w) := Int.mul_nonneg (by omega) (by have := hw.hi; omega)
  have a5 : M * (40 * w) ≤ M * (41 * M) := mono2 hw.hi (by omega)
  constructor <;> grind
theorem hi_step {M a w k : Int} (hM : 100 ≤ M) (h1 : 1 ≤ k) (h2 : k ≤ 10) (ha : -M ≤ 100 * a ∧ 100 * a ≤ M) (hw : HI M w) : HI M (horn M a w k) := by
  obtain ⟨d1, d2⟩ := divk hM h1 h2
  obtain ⟨p1, p2⟩ := prod_small hM ha hw
  have n := divN_near (a := a * w) (b := M) (by omega)
  unfold horn
  generalize divN (a * w) M = q at *
  generalize divN M k = c at *
  have q1 : 4000 * q ≤ 41 * M + 2000 := by
    refine Int.le_of_mul_le_mul_left (a := M) ?_ (by omega)
    grind
  have q2 : -(41 * M + 2000) ≤ 4000 * q := by
    refine Int.le_of_mul_le_mul_left (a := M) ?_ (by omega)
    grind
  exact ⟨by omega, by omega⟩
theorem hi_lip {M a b wa wb k : Int} (hM : 100 ≤ M) (hab : a ≤ b) (ha : -M ≤ 100 * a ∧ 100 * a ≤ M) (hwb : HI M wb) (h : -2 ≤ wa - wb ∧ wa - wb ≤ 2 * (b - a) + 2) :
    -2 ≤ horn M a wa k - horn M b wb k ∧ horn M a wa k - horn M b wb k ≤ 2 * (b - a) + 2 := by
  have na := divN_near (a := a * wa) (b := M) (by omega)
  have nb := divN_near (a := b * wb) (b := M) (by omega)
  unfold horn
  generalize divN (a * wa) M = qa at *
  generalize divN (b * wb) M = qb at *
  have hd : 0 ≤ b - a := by omega
  have e : b * wb - a * wa = (b - a) * wb - a * (wa - wb) := by grind
  have k1 : (b - a) * (40 * wb) ≤ (b - a) * (41 * M) := mono2 hwb.hi hd
  have k2 : (b - a) * M ≤ (b - a) * (50 * wb) := mono2 hwb.lo hd
  generalize wa - wb = dl at *
  have c1 : 0 ≤ (M - 100 * a) * (2 * (b - a) + 2 - dl) := Int.mul_nonneg (by omega) (by omega)
  have c2 : 0 ≤ (M + 100 * a) * (2 * (b - a) + 2 + dl) := Int.mul_nonneg (by omega) (by omega)
  have c3 : 0 ≤ (M - 100 * a) * (2 * (b - a) + 2 + dl) := Int.mul_nonneg (by omega) (by omega)
  have c4 : 0 ≤ (M + 100 * a) * (2 * (b - a) + 2 - dl) := Int.mul_nonneg (by omega) (by omega)
  have b1 : 100 * (a * dl) ≤ M * (2 * (b - a) + 2) := by grind
  have b2 : -(M * (2 * (b - a) + 2)) ≤ 100 * (a * dl) := by grind
  have u : 200 * (qb - qa) ≤ 209 * (b - a) + 204 := by
    refine Int.le_of_mul_le_mul_left (a := M) ?_ (by omega)
    grind
  have l : -204 ≤ 200 * (qb - qa) := by
    refine Int.le_of_mul_le_mul_left (a := M) ?_ (by omega)
    grind
  omega
theorem fold_lip {M a b : Int} (hM : 100 ≤ M) (hab : a ≤ b) (ha : -M ≤ 100 * a ∧ 100 * a ≤ M) (hb : -M ≤ 100 * b ∧ 100 * b ≤ M) : ∀ (ks : List Int) (wa wb : Int), (∀ k ∈ ks, 1 ≤ k ∧ k ≤ 10) → HI M wa → HI M wb → (-2 ≤ wa - wb ∧ wa - wb ≤ 2 * (b - a) + 2) →
    HI M (ks.foldl (horn M a) wa) ∧ (-2 ≤ ks.foldl (horn M a) wa - ks.foldl (horn M b) wb ∧ ks.foldl (horn M a) wa - ks.foldl (horn M b) wb ≤ 2 * (b - a) + 2)
  | [], wa, wb, _, h1, h2, h3 => ⟨h1, h3⟩
  | k :: r, wa, wb, hk, h1, h2, h3 => fold_lip hM hab ha hb r _ _ (fun q hq => hk q (.tail _ hq)) (hi_step hM (hk k (.head _)).1 (hk k (.head _)).2 ha h1) (hi_step hM (hk k (.head _)).1 (hk k (.head _)).2 hb h2) (hi_lip hM hab ha h2 h3)
theorem W_lip {M a b : Int} (hM : 100 ≤ M) (hT : 0 < ilTT M ∧ ilTT M ≤ 10) (hab : a ≤ b) (ha : -M ≤ 100 * a ∧ 100 * a ≤ M) (hb : -M ≤ 100 * b ∧ 100 * b ≤ M) :
    HI M (ilogW M a) ∧ -2 ≤ ilogW M a - ilogW M b ∧ ilogW M a - ilogW M b ≤ 2 * (b - a) + 2 := by
  unfold ilogW
  refine fold_lip hM hab ha hb _ _ _ (fun k hk => ?_) (hi_start hM hT.1 hT.2) (hi_start hM hT.1 hT.2) ⟨by omega, by omega⟩
  have := mem_down hk
  omega
/-- the loop's end against a written chain from above -/
structure ChUp (S : Int) (Q E : Nat → Int) : Prop where
  S0 : 0 < S
  q : ∀ r, r < 10 → S ≤ Q (r + 1) ∧ Q r * S ≤ Q (r + 1) * Q (r + 1) ∧ 2 * E r + 2 * (2 ^ r * (Q (r + 1) - S)) + S ≤ 2 * E (r + 1) ∧ 0 ≤ E r
  last : 1024 * (Q 10 - S) * 100 + E 10 < 400 * S
theorem chUp_end {x M : Int} {S : Int} {Q E : Nat → Int} (P : ilPre x M) (hx : M ≤ x) (C : ChUp S Q E) (hE10 : 0 ≤ E 10) (h0 : x * S ≤ Q 0 * M) (hE0 : 0 ≤ E 0) :
    ∃ y r, r ≤ 10 ∧ ilJ x M y (r : Nat) ∧ ilT M y (r : Nat) = false ∧ ilLp 40 M (x - M) 0 = (y, ((r : Nat) : Int)) ∧ S * y ≤ 2 ^ r * (M * (Q r - S)) + E r := by
  have hM := P.M0
  have hM0 : 0 ≤ M := by omega
  obtain ⟨y, R, h, ⟨r, e, hr, hb⟩, t, el⟩ := ilLp_inv P (fun y R => ∃ r : Nat, R = (r : Nat) ∧ r ≤ 10 ∧ S * y ≤ 2 ^ r * (M * (Q r - S)) + E r) ⟨0, rfl, by omega, by simp; grind⟩ (by
    rintro y R h ⟨r, rfl, hr, hb⟩ t
    have hr2 : r < 10 := by
      refine Nat.not_le.mp fun hle => ?_
      have e : r = 10 := by omega
      subst e
      unfold ilT at t
      rw [if_neg (by decide)] at t
      have t1 := fdiv_ge (b := 2 ^ (((10 : Nat) : Int) - 8).toNat) (pow2_pos _) (of_decide_eq_true t)
      have e1 : (2 : Int) ^ (((10 : Nat) : Int) - 8).toNat = 4 := by decide
      rw [e1] at t1
      obtain ⟨u1, u2⟩ := h.up hx
      have e2 : (2 : Int) ^ 10 = 1024 := by decide
      rw [e2] at hb
      have l := C.last
      have S0 := C.S0
      have k1 : S * (4 * M) ≤ S * y := mono2 (by omega) (by omega)
      have k2 : M * (1024 * (Q 10 - S) * 100 + E 10 + 1) ≤ M * (400 * S) := mono2 l hM0
      have k3 : E 10 * 100 ≤ E 10 * M := mono2 hM hE10
      grind
    refine ⟨r + 1, by omega, by omega, ?_⟩
    obtain ⟨c1, c2, c3, c4⟩ := C.q r (by omega)
    have := upPos (p := 2 ^ r) P h hx (by simp) C.S0 c1 c2 c3 c4 hb
    rw [Int.pow_succ]
    grind)
  subst e
  exact ⟨y, r, hr, h, t, el, hb⟩
abbrev S8 : Int := 1000000000000000000000000000000
def qU8 : Nat → Int
  | 0 => 10 * S8
  | r + 1 => (isq 300 (qU8 r * S8).toNat : Int) + 1
def eU8 : Nat → Int := eCh S8 qU8
def qN8 : Nat → Int := qCh S8 100000000000000000000000000000
def eN8 : Nat → Int := eN6 S8 qN8
def kN8 (r : Nat) : Int := kN6 S8 qN8 (eN8 r) r
theorem chU8_tab : ∀ r : Fin 10, S8 ≤ qU8 (r.val + 1) ∧ qU8 r.val * S8 ≤ qU8 (r.val + 1) * qU8 (r.val + 1) ∧ 2 * eU8 r.val + 2 * (2 ^ r.val * (qU8 (r.val + 1) - S8)) + S8 ≤ 2 * eU8 (r.val + 1) ∧ 0 ≤ eU8 r.val := by decide +kernel
theorem chU8 : ChUp S8 qU8 eU8 := ⟨by decide, fun r hr => chU8_tab ⟨r, hr⟩, by decide +kernel⟩
theorem chN8_tab : ∀ r : Fin 10, 0 ≤ qN8 (r.val + 1) ∧ qN8 (r.val + 1) ≤ S8 ∧ qN8 (r.val + 1) * qN8 (r.val + 1) ≤ qN8 r.val * S8 ∧ S8 ≤ kN8 r.val ∧ kN8 r.val ≤ 100 * qN8 (r.val + 1) ∧
    200 * (eN8 r.val * S8) + 100 * (2 ^ r.val * (S8 * S8)) ≤ 2 * (2 ^ r.val * (100 * (2 * (kN8 r.val * qN8 (r.val + 1)) - S8 * qN8 (r.val + 1)) - kN8 r.val * (kN8 r.val - S8))) ∧
    400 * (S8 * eN8 r.val + 2 ^ r.val * ((S8 - qN8 (r.val + 1)) * kN8 r.val)) ≤ (2 * eN8 (r.val + 1) - S8) * (100 * (S8 + qN8 (r.val + 1)) - kN8 r.val) ∧ 0 ≤ eN8 r.val ∧ S8 ≤ 2 * eN8 (r.val + 1) := by decide +kernel
theorem chN8 : ChNeg 10 S8 qN8 eN8 kN8 := ⟨by decide, fun r hr => chN8_tab ⟨r, hr⟩, by decide +kernel⟩
def yU8 (M : Int) : Int := (1024 * (M * (qU8 10 - S8)) + eU8 10) / S8
def yN8 (M : Int) : Int := (1024 * (M * (S8 - qN8 10)) + eN8 10) / S8
def dU8 (M : Int) : Int := divN ((ilogW M (rshN (yU8 M) 10) + 4) * yU8 M) M
def dN8 (M : Int) : Int := divN ((ilogW M (rshN (-yN8 M) 10) + 2) * -yN8 M) M
structure G8 (M LD : Int) : Prop where
  M0 : 100 ≤ M
  M1 : M ≤ 2 ^ 250
  T0 : 0 < ilTT M
  T1 : ilTT M ≤ 10
  zu : 100 * rshN (yU8 M) 10 ≤ M
  zn : -M ≤ 100 * rshN (-yN8 M) 10
  y0 : 0 ≤ yU8 M
  y1 : yU8 M ≤ 3 * M
  n0 : 0 ≤ yN8 M
  du : dU8 M ≤ LD + 100
  dn : -(LD + 100) ≤ dN8 M
  ld : 230 * M ≤ 100 * LD
  lh : LD ≤ 3 * M
theorem g8_tab : ∀ k : Fin 21, 100 ≤ (10 : Int) ^ (k.val + 2) ∧ (10 : Int) ^ (k.val + 2) ≤ 2 ^ 250 ∧ 0 < ilTT (10 ^ (k.val + 2)) ∧ ilTT (10 ^ (k.val + 2)) ≤ 10 ∧ 100 * rshN (yU8 (10 ^ (k.val + 2))) 10 ≤ 10 ^ (k.val + 2) ∧ -(10 ^ (k.val + 2)) ≤ 100 * rshN (-yN8 (10 ^ (k.val + 2))) 10 ∧
    0 ≤ yU8 (10 ^ (k.val + 2)) ∧ yU8 (10 ^ (k.val + 2)) ≤ 3 * 10 ^ (k.val + 2) ∧ 0 ≤ yN8 (10 ^ (k.val + 2)) ∧ dU8 (10 ^ (k.val + 2)) ≤ log10D ((k.val + 2 : Nat) : Int) + 100 ∧ -(log10D ((k.val + 2 : Nat) : Int) + 100) ≤ dN8 (10 ^ (k.val + 2)) ∧
    230 * 10 ^ (k.val + 2) ≤ 100 * log10D ((k.val + 2 : Nat) : Int) ∧ log10D ((k.val + 2 : Nat) : Int) ≤ 3 * 10 ^ (k.val + 2) := by decide +kernel
theorem g8 {p : Int} (h0 : 0 ≤ p) (h1 : p ≤ 20) : G8 (10 ^ (p + 2).toNat) (log10D (p + 2)) := by
  obtain ⟨m, rfl⟩ := Int.eq_ofNat_of_zero_le h0
  have h := g8_tab ⟨m, by omega⟩
  have e2 : ((m : Int) + 2).toNat = m + 2 := by omega
  have e4 : ((m : Int) + 2) = ((m + 2 : Nat) : Int) := by omega
  rw [e2, e4]
  obtain ⟨a1, a2, a3, a4, a5, a6, a7, a8, a9, b1, b2, b3, b4⟩ := h
  exact ⟨a1, a2, a3, a4, a5, a6, a7, a8, a9, b1, b2, b3, b4⟩
theorem two_small {M w y : Int} (hM : 100 ≤ M) (hw : 40 * w ≤ 41 * M) (y0 : 0 ≤ y) (hy : y ≤ 2 * M) : w * y ≤ M * (2 * M + M / 10 + 1) := by
  have k3 : y * (40 * w) ≤ y * (41 * M) := mono2 hw y0
  have k4 : M * y ≤ M * (2 * M) := mono2 hy (by omega)
  have k5 : M * M ≤ M * (10 * (M / 10) + 9) := mono2 (by omega) (by omega)
  have k6 : 0 ≤ M * M := Int.mul_nonneg (by omega) (by omega)
  generalize M / 10 = q at *
  have e : M * (2 * M + q + 1) = 2 * (M * M) + M * q + M := by grind
  have e3 : y * (40 * w) = 40 * (w * y) := by grind
  have e4 : y * (41 * M) = 41 * (M * y) := by grind
  have e5 : M * (2 * M) = 2 * (M * M) := by grind
  have e6 : M * (10 * q + 9) = 10 * (M * q) + 9 * M := by grind
  rw [e]; omega
theorem D_up {x M LD : Int} (G : G8 M LD) (h1 : M ≤ x) (h2 : x ≤ 10 * M) : 0 ≤ ilogN x M ∧ ilogN x M ≤ LD + 100 := by
  have hM := G.M0
  have P : ilPre x M := ⟨hM, G.M1, by omega, h2⟩
  have q0 : qU8 0 = 10 * S8 := rfl
  have e0 : eU8 0 = 0 := rfl
  obtain ⟨y, r, hr, hj, ht, el, hb⟩ := chUp_end P h1 chU8 (by decide +kernel) (by rw [q0]; show x * 1000000000000000000000000000000 ≤ 10 * 1000000000000000000000000000000 * M; omega) (by rw [e0]; omega)
  have y0 := (hj.up h1).1
  have hys := ys_bound P hj ht
  have hts := ilT_stop hj.R0 ht
  have hR : ((r : Nat) : Int).toNat = r := by omega
  rw [hR] at hts
  have hW := (W_lip hM ⟨G.T0, G.T1⟩ (Int.le_refl _) hys hys).1
  have eD : ilogN x M = divN (ilogW M (rshN y r) * y) M := by unfold ilogN; rw [el]
  have hW0 : 0 ≤ ilogW M (rshN y r) := by have := hW.lo; omega
  refine ⟨?_, ?_⟩
  · rw [eD]; exact divN_ge (by omega) (by rw [Int.mul_zero]; exact Int.mul_nonneg hW0 y0)
  · by_cases hr9 : r ≤ 9
    · have p9 : (2 : Int) ^ r ≤ 512 := by
        have h : r ≤ 9 := hr9
        have e1 : ((2 ^ r : Nat) : Int) = (2 : Int) ^ r := Int.natCast_pow 2 _
        rw [← e1]
        have : (2 : Nat) ^ r ≤ 2 ^ 9 := Nat.pow_le_pow_right (by omega) h
        omega
      have k1 : M * 2 ^ r ≤ M * 512 := mono2 p9 (by omega)
      have k2 : y ≤ 2 * M := by
        have : 2 ^ r * M = M * 2 ^ r := Int.mul_comm _ _
        omega
      have hld := G.ld
      refine Int.le_trans (b := 2 * M + M / 10 + 1) ?_ (by omega)
      rw [eD]
      exact divN_le (by omega) (two_small hM hW.hi y0 k2)
    · have er : r = 10 := by omega
      subst er
      have e2 : (2 : Int) ^ 10 = 1024 := by decide
      rw [e2] at hb
      have hyY : y ≤ yU8 M := by
        unfold yU8
        have hb' : 1000000000000000000000000000000 * y ≤ 1024 * (M * (qU8 10 - S8)) + eU8 10 := hb
        generalize 1024 * (M * (qU8 10 - S8)) + eU8 10 = A at *
        show y ≤ A / 1000000000000000000000000000000
        omega
      have eR : ((10 : Nat) : Int) = 10 := rfl
      rw [eR] at *
      have hzz : rshN y 10 ≤ rshN (yU8 M) 10 := by
        rw [rshN_div, rshN_div]; exact divN_mono (pow2_pos _) hyY
      have nz := divN_near (a := yU8 M) (b := 2 ^ (10 : Int).toNat) (pow2_pos _)
      have ny := divN_near (a := y) (b := 2 ^ (10 : Int).toNat) (pow2_pos _)
      rw [← rshN_div] at nz ny
      have e3 : (2 : Int) ^ (10 : Int).toNat = 1024 := by decide
      rw [e3] at nz ny
      have hzu := G.zu
      have hL := W_lip hM ⟨G.T0, G.T1⟩ hzz hys ⟨by omega, hzu⟩
      have hL2 := (W_lip hM ⟨G.T0, G.T1⟩ (Int.le_refl _) (a := rshN (yU8 M) 10) (b := rshN (yU8 M) 10) ⟨by omega, hzu⟩ ⟨by omega, hzu⟩).1
      refine Int.le_trans ?_ G.du
      rw [eD]
      unfold dU8
      refine divN_mono (by omega) ?_
      have y1 := G.y1
      obtain ⟨_, _, l3⟩ := hL
      have lo2 := hL2.lo
      have Y0 := G.y0
      generalize ilogW M (rshN y 10) = w at *
      generalize ilogW M (rshN (yU8 M) 10) = W at *
      generalize rshN y 10 = a at *
      generalize rshN (yU8 M) 10 = b at *
      generalize yU8 M = Y at *
      have t1 : w * y ≤ (W + (2 * (b - a) + 2)) * y := Int.mul_le_mul_of_nonneg_right (by omega) y0
      by_cases c0 : a = b
      · subst c0
        have t2 : (W + (2 * (a - a) + 2)) * y ≤ (W + (2 * (a - a) + 2)) * Y := mono2 hyY (by omega)
        grind
      · have t2 : W * y ≤ W * (Y + 1024 - 1024 * (b - a)) := mono2 (by omega) (by omega)
        have t3 : (2 * (b - a) + 2) * y ≤ (2 * (b - a) + 2) * Y := mono2 hyY (by omega)
        have t4 : 0 ≤ (b - a - 1) * (1024 * W - 2 * Y) := Int.mul_nonneg (by omega) (by omega)
        grind
theorem D_dn {x M LD : Int} (G : G8 M LD) (h1 : M ≤ 10 * x) (h2 : x ≤ M) : ilogN x M ≤ 0 ∧ -(LD + 100) ≤ ilogN x M := by
  have hM := G.M0
  by_cases hx : x = M
  · subst hx
    rw [ilog_one hM]
    have := G.ld
    omega
  have hxM : x < M := by omega
  have P : ilPre x M := ⟨hM, G.M1, h1, by omega⟩
  have q0 : qN8 0 = 100000000000000000000000000000 := rfl
  have e0 : eN8 0 = 0 := rfl
  obtain ⟨y, r, hr, hj, ht, el, hb⟩ := chNeg_end P hxM chN8 (by decide +kernel) (by rw [q0]; show 100000000000000000000000000000 * M ≤ x * 1000000000000000000000000000000; omega) (by rw [e0]; omega)
  obtain ⟨y0, _, _⟩ := hj.dn hxM
  have hys := ys_bound P hj ht
  have hts := ilT_stop hj.R0 ht
  have hR : ((r : Nat) : Int).toNat = r := by omega
  rw [hR] at hts
  have hW := (W_lip hM ⟨G.T0, G.T1⟩ (Int.le_refl _) hys hys).1
  have eD : ilogN x M = divN (ilogW M (rshN y r) * y) M := by unfold ilogN; rw [el]
  have hW0 : 0 ≤ ilogW M (rshN y r) := by have := hW.lo; omega
  refine ⟨?_, ?_⟩
  · rw [eD]
    refine divN_le (by omega) ?_
    have := Int.mul_nonneg hW0 (b := -y) (by omega)
    grind
  · by_cases hr9 : r ≤ 9
    · have p9 : (2 : Int) ^ r ≤ 512 := by
        have h : r ≤ 9 := hr9
        have e1 : ((2 ^ r : Nat) : Int) = (2 : Int) ^ r := Int.natCast_pow 2 _
        rw [← e1]
        have : (2 : Nat) ^ r ≤ 2 ^ 9 := Nat.pow_le_pow_right (by omega) h
        omega
      have k1 : M * 2 ^ r ≤ M * 512 := mono2 p9 (by omega)
      have k2 : -(2 * M) ≤ y := by
        have : 2 ^ r * M = M * 2 ^ r := Int.mul_comm _ _
        omega
      have hld := G.ld
      refine Int.le_trans (b := -(2 * M + M / 10 + 1)) (by omega) ?_
      rw [eD]
      refine divN_ge (by omega) ?_
      have k3 := two_small hM hW.hi (y := -y) (by omega) (by omega)
      generalize 2 * M + M / 10 + 1 = Z at *
      grind
    · have er : r = 10 := by omega
      subst er
      have e2 : (2 : Int) ^ 10 = 1024 := by decide
      rw [e2] at hb
      have hyY : -yN8 M ≤ y := by
        unfold yN8
        have hb' : 1024 * (M * (qN8 10 - S8)) ≤ 1000000000000000000000000000000 * y + eN8 10 := hb
        have e5 : 1024 * (M * (qN8 10 - S8)) = -(1024 * (M * (S8 - qN8 10))) := by grind
        rw [e5] at hb'
        generalize 1024 * (M * (S8 - qN8 10)) = A at *
        show -((A + eN8 10) / 1000000000000000000000000000000) ≤ y
        omega
      have eR : ((10 : Nat) : Int) = 10 := rfl
      rw [eR] at *
      have hzz : rshN (-yN8 M) 10 ≤ rshN y 10 := by
        rw [rshN_div, rshN_div]; exact divN_mono (pow2_pos _) hyY
      have hzn := G.zn
      have hys' : -M ≤ 100 * rshN y 10 ∧ 100 * rshN y 10 ≤ M := hys
      have hL := W_lip hM ⟨G.T0, G.T1⟩ hzz ⟨hzn, by omega⟩ hys'
      have eD' : ilogN x M = divN (ilogW M (rshN y 10) * y) M := eD
      rw [eD']
      refine Int.le_trans G.dn ?_
      unfold dN8
      refine divN_mono (by omega) ?_
      obtain ⟨_, l2, _⟩ := hL
      have Y0 := G.n0
      generalize ilogW M (rshN y 10) = w at *
      generalize ilogW M (rshN (-yN8 M) 10) = W at *
      generalize yN8 M = Y at *
      have t1 : (-y) * w ≤ (-y) * (W + 2) := mono2 (by omega) (by omega)
      have t2 : (W + 2) * (-y) ≤ (W + 2) * Y := mono2 (by omega) (by omega)
      grind

end
section
/-- the law's own logarithm of ten -/
def lser : Nat → Int → Int → Int → Int → Int
  | 0, _, _, _, tot => tot
  | n + 1, base, part, k, tot => if 0 < part then lser n base (part.fdiv (base * base)) (k + 2) (tot + part.fdiv k) else tot
def lten3 (unit : Int) : Int := lser 200 161 ((20 * unit).fdiv 161) 1 (lser 200 49 ((34 * unit).fdiv 49) 1 (lser 200 31 ((46 * unit).fdiv 31) 1 0))
@[irreducible] def lawTen (places : Int) : Int := (lten3 (10 ^ (places + 6).toNat)).fdiv (10 ^ (6 : Int).toNat)
@[irreducible] def dlF (f q : Int) : Int := if f = 0 then 0 else divN (f * log10D (q + (ndig (if f < 0 then -f else f) - 1))) (10 ^ (ndig (if f < 0 then -f else f) - 1).toNat)
@[irreducible] def dlogN (c e p : Int) : Int := divN (dlF (dl_f c e) (p + 2) + ilogN (dl_c c e (p + 2)) (10 ^ (p + 2).toNat)) 100
theorem t8_tab : ∀ k : Fin 21, 0 ≤ lawTen (k.val + 16) * 10 ^ (k.val + 2) - 10 ^ (k.val + 16) * log10D ((k.val + 2 : Nat) : Int) ∧ 10000 * lawTen (k.val + 16) ≤ 23026 * 10 ^ (k.val + 16) ∧ 0 ≤ lawTen (k.val + 16) ∧
    10 * (2 * ((log10D ((k.val + 2 : Nat) : Int) + 100) * (lawTen (k.val + 16) * 10 ^ (k.val + 2) - 10 ^ (k.val + 16) * log10D ((k.val + 2 : Nat) : Int))) + lawTen (k.val + 16) * log10D ((k.val + 2 : Nat) : Int)) ≤ 44 * (10 ^ (k.val + 16) * log10D ((k.val + 2 : Nat) : Int)) := by decide +kernel
theorem t8x_tab : ∀ k : Fin 21, ∀ x : Fin 10, -(10 ^ (k.val + 16)) ≤ lawTen (k.val + 16) * 10 ^ (k.val + 2) * 10 ^ x.val - 10 ^ (k.val + 16) * log10D ((k.val + 2 + x.val : Nat) : Int) ∧ lawTen (k.val + 16) * 10 ^ (k.val + 2) * 10 ^ x.val - 10 ^ (k.val + 16) * log10D ((k.val + 2 + x.val : Nat) : Int) ≤ 10 ^ (k.val + 16) := by decide +kernel
structure T8 (M LD one ten : Int) : Prop where
  th : 0 ≤ ten * M - one * LD
  t1 : 10000 * ten ≤ 23026 * one
  t0 : 0 ≤ ten
  bu : 10 * (2 * ((LD + 100) * (ten * M - one * LD)) + ten * LD) ≤ 44 * (one * LD)
theorem t8 {p : Int} (h0 : 0 ≤ p) (h1 : p ≤ 20) : T8 (10 ^ (p + 2).toNat) (log10D (p + 2)) (10 ^ (p + 16).toNat) (lawTen (p + 16)) := by
  obtain ⟨m, rfl⟩ := Int.eq_ofNat_of_zero_le h0
  have h := t8_tab ⟨m, by omega⟩
  have e2 : ((m : Int) + 2).toNat = m + 2 := by omega
  have e3 : ((m : Int) + 16).toNat = m + 16 := by omega
  have e4 : ((m : Int) + 2) = ((m + 2 : Nat) : Int) := by omega
  rw [e2, e3, e4]
  obtain ⟨a1, a2, a3, a4⟩ := h
  exact ⟨a1, a2, a3, a4⟩
theorem t8x {p x : Int} (h0 : 0 ≤ p) (h1 : p ≤ 20) (hx0 : 0 ≤ x) (hx1 : x ≤ 9) : -(10 ^ (p + 16).toNat) ≤ lawTen (p + 16) * 10 ^ (p + 2).toNat * 10 ^ x.toNat - 10 ^ (p + 16).toNat * log10D (p + 2 + x) ∧ lawTen (p + 16) * 10 ^ (p + 2).toNat * 10 ^ x.toNat - 10 ^ (p + 16).toNat * log10D (p + 2 + x) ≤ 10 ^ (p + 16).toNat := by
  obtain ⟨m, rfl⟩ := Int.eq_ofNat_of_zero_le h0
  obtain ⟨n, rfl⟩ := Int.eq_ofNat_of_zero_le hx0
  have h := t8x_tab ⟨m, by omega⟩ ⟨n, by omega⟩
  have e2 : ((m : Int) + 2).toNat = m + 2 := by omega
  have e3 : ((m : Int) + 16).toNat = m + 16 := by omega
  have e5 : (n : Int).toNat = n := by omega
  have e4 : ((m : Int) + 2 + n) = ((m + 2 + n : Nat) : Int) := by omega
  rw [e2, e3, e4, e5]
  exact h
theorem U_bound {M LD one ten D d1 : Int} (hT : T8 M LD one ten) (hL : 0 < LD) (hd : -LD ≤ 2 * (D * M - LD * d1) ∧ 2 * (D * M - LD * d1) ≤ LD) (hD : -(LD + 100) ≤ D ∧ D ≤ LD + 100) : -(22 * one) ≤ 10 * (ten * d1 - one * D) ∧ 10 * (ten * d1 - one * D) ≤ 22 * one := by
  obtain ⟨th, t1, t0, bu⟩ := hT
  have a1 : (ten * M - one * LD) * D ≤ (ten * M - one * LD) * (LD + 100) := mono2 hD.2 th
  have a2 : (ten * M - one * LD) * (-(LD + 100)) ≤ (ten * M - one * LD) * D := mono2 hD.1 th
  have b1 : ten * (2 * (D * M - LD * d1)) ≤ ten * LD := mono2 hd.2 t0
  have b2 : ten * (-LD) ≤ ten * (2 * (D * M - LD * d1)) := mono2 hd.1 t0
  constructor
  · refine Int.le_of_mul_le_mul_left (a := 2 * LD) ?_ (by omega)
    grind
  · refine Int.le_of_mul_le_mul_left (a := 2 * LD) ?_ (by omega)
    grind
theorem V_bound {M one ten f L X F : Int} (hX : 0 < X) (h1 : 0 ≤ one) (g : -one ≤ ten * M * X - one * L ∧ ten * M * X - one * L ≤ one) (hF : -X ≤ 2 * (f * L - X * F) ∧ 2 * (f * L - X * F) ≤ X) (hf : -(10 * X) ≤ f ∧ f ≤ 10 * X) : -(21 * one) ≤ 2 * (ten * (f * M) - one * F) ∧ 2 * (ten * (f * M) - one * F) ≤ 21 * one := by
  have a1 : 0 ≤ (10 * X - f) * (one - (ten * M * X - one * L)) := Int.mul_nonneg (by omega) (by omega)
  have a2 : 0 ≤ (10 * X + f) * (one + (ten * M * X - one * L)) := Int.mul_nonneg (by omega) (by omega)
  have a3 : 0 ≤ (10 * X - f) * (one + (ten * M * X - one * L)) := Int.mul_nonneg (by omega) (by omega)
  have a4 : 0 ≤ (10 * X + f) * (one - (ten * M * X - one * L)) := Int.mul_nonneg (by omega) (by omega)
  have b1 : one * (2 * (f * L - X * F)) ≤ one * X := mono2 hF.2 h1
  have b2 : one * (-X) ≤ one * (2 * (f * L - X * F)) := mono2 hF.1 h1
  have c1 : f * (ten * M * X - one * L) ≤ 10 * X * one := by grind
  have c2 : -(10 * X * one) ≤ f * (ten * M * X - one * L) := by grind
  constructor
  · refine Int.le_of_mul_le_mul_left (a := X) ?_ hX
    grind
  · refine Int.le_of_mul_le_mul_left (a := X) ?_ hX
    grind
theorem sum_bound {M LD one ten D d1 f F a b v : Int} (hT : T8 M LD one ten) (h1 : 0 ≤ one) (ha : -100 ≤ 2 * (f * M + d1 - 100 * a) ∧ 2 * (f * M + d1 - 100 * a) ≤ 100) (hb : -100 ≤ 2 * (F + D - 100 * b) ∧ 2 * (F + D - 100 * b) ≤ 100)
    (hU : -(22 * one) ≤ 10 * (ten * d1 - one * D) ∧ 10 * (ten * d1 - one * D) ≤ 22 * one) (hV : -(v * one) ≤ 2 * (ten * (f * M) - one * F) ∧ 2 * (ten * (f * M) - one * F) ≤ v * one) :
    -(33466 * one + 100 * (v * one)) ≤ 20000 * (a * ten - b * one) ∧ 20000 * (a * ten - b * one) ≤ 33466 * one + 100 * (v * one) := by
  obtain ⟨th, t1, t0, bu⟩ := hT
  have a1 : ten * (2 * (f * M + d1 - 100 * a)) ≤ ten * 100 := mono2 ha.2 t0
  have a2 : ten * (-100) ≤ ten * (2 * (f * M + d1 - 100 * a)) := mono2 ha.1 t0
  have b1 : one * (2 * (F + D - 100 * b)) ≤ one * 100 := mono2 hb.2 h1
  have b2 : one * (-100) ≤ one * (2 * (F + D - 100 * b)) := mono2 hb.1 h1
  constructor <;> grind

end
section
structure L8 (c f side size p : Int) : Prop where
  c0 : 0 < c
  hs : ndig c = size
  sd : (side = 1 ∧ 0 ≤ f) ∨ (side = 0 ∧ f ≤ 0)
  f0 : -2000000000 ≤ f
  f1 : f ≤ 2000000000
  p0 : 0 ≤ p
  p1 : p ≤ 20
theorem L8.fv {c f side size p : Int} (h : L8 c f side size p) : dl_f c (f + side - size) = f := by
  unfold dl_f
  rw [h.hs]
  rcases h.sd with ⟨rfl, h1⟩ | ⟨rfl, h1⟩
  · rw [if_pos (by simp <;> omega)]; omega
  · rw [if_neg (by simp <;> omega)]; omega
theorem L8.D {c f side size p : Int} (h : L8 c f side size p) : (side = 1 → 0 ≤ ilogN (dl_c c (f + side - size) (p + 2)) (10 ^ (p + 2).toNat) ∧ ilogN (dl_c c (f + side - size) (p + 2)) (10 ^ (p + 2).toNat) ≤ log10D (p + 2) + 100) ∧
    (side = 0 → ilogN (dl_c c (f + side - size) (p + 2)) (10 ^ (p + 2).toNat) ≤ 0 ∧ -(log10D (p + 2) + 100) ≤ ilogN (dl_c c (f + side - size) (p + 2)) (10 ^ (p + 2).toNat)) := by
  have hp0 := h.p0
  obtain ⟨r1, r2⟩ := dl_c_range (c := c) (e := f + side - size) (q := p + 2) h.c0 (by omega)
  have G := g8 h.p0 h.p1
  have hsd := h.sd
  have hss := h.hs
  refine ⟨fun e => ?_, fun e => ?_⟩
  · obtain ⟨a1, a2⟩ := r1 (by omega)
    rw [Int.pow_succ] at a2
    exact D_up G a1 (by omega)
  · obtain ⟨a1, a2⟩ := r2 (by omega)
    refine D_dn G ?_ a2
    have e2 : (p + 2).toNat = ((p + 2).toNat - 1) + 1 := by omega
    rw [e2, Int.pow_succ]
    have e3 : (p + 2).toNat - 1 + 1 - 1 = (p + 2).toNat - 1 := by omega
    omega
theorem L8.aval {c f side size p : Int} (h : L8 c f side size p) : dlog10N c (f + side - size) p = divN (f * 10 ^ (p + 2).toNat + divN (ilogN (dl_c c (f + side - size) (p + 2)) (10 ^ (p + 2).toNat) * 10 ^ (p + 2).toNat) (log10D (p + 2))) 100 := dlog10_val h.p0 h.fv rfl
theorem d1_up {M LD D : Int} (hM : 100 ≤ M) (hL : 230 * M ≤ 100 * LD) (h0 : 0 ≤ D) (h1 : D ≤ LD + 100) : 0 ≤ divN (D * M) LD ∧ divN (D * M) LD ≤ M + 44 := by
  refine ⟨divN_ge (by omega) (by rw [Int.mul_zero]; exact Int.mul_nonneg h0 (by omega)), divN_le (by omega) ?_⟩
  have k1 : M * D ≤ M * (LD + 100) := mono2 h1 (by omega)
  grind
theorem d1_dn {M LD D : Int} (hM : 100 ≤ M) (hL : 230 * M ≤ 100 * LD) (h0 : D ≤ 0) (h1 : -(LD + 100) ≤ D) : divN (D * M) LD ≤ 0 ∧ -(M + 44) ≤ divN (D * M) LD := by
  have k0 : 0 ≤ M * (-D) := Int.mul_nonneg (by omega) (by omega)
  refine ⟨divN_le (by omega) (by grind), divN_ge (by omega) ?_⟩
  have k1 : M * (-D) ≤ M * (LD + 100) := mono2 (by omega) (by omega)
  grind
theorem L8.lo {c f side size p : Int} (h : L8 c f side size p) : (f + side - 1) * 10 ^ p.toNat ≤ dlog10N c (f + side - size) p ∧ dlog10N c (f + side - size) p ≤ (f + side) * 10 ^ p.toNat := by
  have G := g8 h.p0 h.p1
  obtain ⟨d1, d2⟩ := h.D
  rw [h.aval]
  have hq := ten_q h.p0
  have hM := G.M0
  have hld := G.ld
  have n := divN_near (a := f * 10 ^ (p + 2).toNat + divN (ilogN (dl_c c (f + side - size) (p + 2)) (10 ^ (p + 2).toNat) * 10 ^ (p + 2).toNat) (log10D (p + 2))) (b := 100) (by decide)
  generalize divN (f * 10 ^ (p + 2).toNat + divN (ilogN (dl_c c (f + side - size) (p + 2)) (10 ^ (p + 2).toNat) * 10 ^ (p + 2).toNat) (log10D (p + 2))) 100 = a at *
  generalize ilogN (dl_c c (f + side - size) (p + 2)) (10 ^ (p + 2).toNat) = D at *
  generalize (10 : Int) ^ (p + 2).toNat = M at *
  generalize (10 : Int) ^ p.toNat = u at *
  have e1 : f * M = 100 * (f * u) := by rw [hq]; grind
  have e2 : (f + 0) * u = f * u := by grind
  have e3 : (f + 1) * u = f * u + u := by grind
  have e4 : (f + 0 - 1) * u = f * u - u := by grind
  have e5 : (f + 1 - 1) * u = f * u := by grind
  rcases h.sd with ⟨rfl, h1⟩ | ⟨rfl, h1⟩
  · have := d1_up hM hld (d1 rfl).1 (d1 rfl).2
    rw [e3, e5]; omega
  · have := d1_dn hM hld (d2 rfl).1 (d2 rfl).2
    rw [e2, e4]; omega
theorem L8.bval {c f side size p : Int} (h : L8 c f side size p) : dlogN c (f + side - size) p = divN (dlF f (p + 2) + ilogN (dl_c c (f + side - size) (p + 2)) (10 ^ (p + 2).toNat)) 100 := by
  unfold dlogN; rw [h.fv]
theorem V0 {p : Int} (M one ten : Int) : -(0 * one) ≤ 2 * (ten * ((0 : Int) * M) - one * dlF 0 (p + 2)) ∧ 2 * (ten * ((0 : Int) * M) - one * dlF 0 (p + 2)) ≤ 0 * one := by
  have : dlF 0 (p + 2) = 0 := by unfold dlF; rw [if_pos rfl]
  rw [this]; simp
theorem VF {f p : Int} (hf : ¬ f = 0) (f0 : -2000000000 ≤ f) (f1 : f ≤ 2000000000) (h0 : 0 ≤ p) (h1 : p ≤ 20) :
    -(21 * 10 ^ (p + 16).toNat) ≤ 2 * (lawTen (p + 16) * (f * 10 ^ (p + 2).toNat) - 10 ^ (p + 16).toNat * dlF f (p + 2)) ∧ 2 * (lawTen (p + 16) * (f * 10 ^ (p + 2).toNat) - 10 ^ (p + 16).toNat * dlF f (p + 2)) ≤ 21 * 10 ^ (p + 16).toNat := by
  have ha : 0 < (if f < 0 then -f else f) := by split <;> omega
  obtain ⟨n1, n2, n3⟩ := ndig_range ha
  have n10 : ndig (if f < 0 then -f else f) ≤ 10 := ndig_le (k := 10) (by omega) (by omega) (by
    have : (10 : Int) ^ 10 = 10000000000 := by decide
    rw [this]; split <;> omega)
  unfold dlF
  rw [if_neg hf]
  have hn := divN_near (a := f * log10D (p + 2 + (ndig (if f < 0 then -f else f) - 1))) (b := 10 ^ (ndig (if f < 0 then -f else f) - 1).toNat) (ten_pos _)
  have hx := t8x h0 h1 (x := ndig (if f < 0 then -f else f) - 1) (by omega) (by omega)
  have e3 : (ndig (if f < 0 then -f else f)).toNat = (ndig (if f < 0 then -f else f) - 1).toNat + 1 := by omega
  rw [e3, Int.pow_succ] at n3
  have hX := ten_pos (ndig (if f < 0 then -f else f) - 1).toNat
  have h1' : 0 ≤ (10 : Int) ^ (p + 16).toNat := Int.le_of_lt (ten_pos _)
  refine V_bound hX h1' hx hn ?_
  generalize (10 : Int) ^ (ndig (if f < 0 then -f else f) - 1).toNat = X at *
  split at n3 <;> omega
theorem L8.two {c f side size p v : Int} (h : L8 c f side size p) (hv : (f = 0 ∧ v = 168) ∨ v = 178) :
    100 * (if dlog10N c (f + side - size) p * lawTen (p + 16) - dlogN c (f + side - size) p * 10 ^ (p + 16).toNat < 0 then -(dlog10N c (f + side - size) p * lawTen (p + 16) - dlogN c (f + side - size) p * 10 ^ (p + 16).toNat) else dlog10N c (f + side - size) p * lawTen (p + 16) - dlogN c (f + side - size) p * 10 ^ (p + 16).toNat) ≤ v * 10 ^ (p + 16).toNat := by
  have G := g8 h.p0 h.p1
  have hT := t8 h.p0 h.p1
  obtain ⟨d1, d2⟩ := h.D
  rw [h.aval, h.bval]
  have hL : 0 < log10D (p + 2) := by have := G.ld; have := G.M0; omega
  have na := divN_near (a := f * 10 ^ (p + 2).toNat + divN (ilogN (dl_c c (f + side - size) (p + 2)) (10 ^ (p + 2).toNat) * 10 ^ (p + 2).toNat) (log10D (p + 2))) (b := 100) (by decide)
  have nb := divN_near (a := dlF f (p + 2) + ilogN (dl_c c (f + side - size) (p + 2)) (10 ^ (p + 2).toNat)) (b := 100) (by decide)
  have nd := divN_near (a := ilogN (dl_c c (f + side - size) (p + 2)) (10 ^ (p + 2).toNat) * 10 ^ (p + 2).toNat) hL
  have hD : -(log10D (p + 2) + 100) ≤ ilogN (dl_c c (f + side - size) (p + 2)) (10 ^ (p + 2).toNat) ∧ ilogN (dl_c c (f + side - size) (p + 2)) (10 ^ (p + 2).toNat) ≤ log10D (p + 2) + 100 := by
    rcases h.sd with ⟨e, _⟩ | ⟨e, _⟩
    · have := d1 e; omega
    · have := d2 e; omega
  have hU := U_bound hT hL nd hD
  have h1' : 0 ≤ (10 : Int) ^ (p + 16).toNat := Int.le_of_lt (ten_pos _)
  by_cases hf : f = 0
  · subst hf
    have hV := V0 (p := p) (10 ^ (p + 2).toNat) (10 ^ (p + 16).toNat) (lawTen (p + 16))
    have := sum_bound hT h1' na nb hU hV
    generalize (10 : Int) ^ (p + 16).toNat = one at *
    rcases hv with ⟨_, rfl⟩ | rfl <;> split <;> omega
  · have hV := VF hf h.f0 h.f1 h.p0 h.p1
    have := sum_bound hT h1' na nb hU hV
    generalize (10 : Int) ^ (p + 16).toNat = one at *
    rcases hv with ⟨e, _⟩ | rfl
    · exact absurd e hf
    · split <;> omega

end
section
abbrev Tell (n : Nat) (w : World) (mean : ExcName → Option Value) (mg mb : Str → Option Value) (f : Addr) (pre : Prop) (vs : List Value) (R : Tok → Value) : Prop :=
  ∀ (news : List (Addr × Obj)) (dp un : Nat) (gd : Option (List Code)) (cn : Str) (cs : Scope) (a : Addr) (ccd : Value) (cl : List (Str × Addr)) (outer : List Env) (A₀ : Around) (base h₀ : Heap) (L : Addr) (m : Str → Option Value) (s : Shared) (Q E : Value → Shared → Prop),
    Below A₀ base outer h₀ → Fr h₀ L s.heap m → (hd.heap_39 w.params).In h₀ → News h₀ L s.heap news → Top hd.view_39 (looseW hd.view_39 [Str.ofString "_ilog", Str.ofString "_log10_digits"]) mean mg mb h₀ → cs.kind = .function →
    pre → dp + n < recursionLimit → un + 8 * n < cLine →
    (∀ (t : Tok) (h' : Heap) (tk' : Nat), Fr h₀ L h' m → News h₀ L h' news → Q (R t) { s with heap := h', toks := tk' }) →
    wpAny (model Challenge.rw_dm0270_08.row.prog w) (ktrTop dp un gd cn cs L a ccd cl outer) (call (.ref f) vs) Q E s


set_option maxRecDepth 100000 in
set_option maxHeartbeats 8000000 in
theorem t_div (w : World) (mean) (mg mb) (a b : Int) (ta tb : Tok) : Tell 1 w mean mg mb 35 (0 < b ∧ b ≤ Big) [.int a ta, .int b tb] (fun t => .int (divN a b) t) := by
  unfold Tell; k_fill
  intro news dp un gd cn cs aa ccd cl outer A₀ base h₀ L m s Q E B F X N T hk hpre hd hu hret
  obtain ⟨hb0, hb1⟩ := hpre
  have hb2 := log2_big (Int.le_of_lt hb0) hb1
  refine wpAny_call ?_
  k_dflt cell_enter
  k_with_none
  k_with "! call builtin:divmod" => (k_here; (with_reducible show wpAny _ _ (call (Value.builtin _) [Value.int _ _, Value.int _ _]) _ _ _); k_dflt (refine' divmod_N ?k1 ?k2 ?k3 ?_ ?k5; (case k1 => k_asm); (case k2 => k_asm); (case k3 => omega); (case k5 => exact Or.inl (PyProof.noPylong_of_log2 (by assumption))); k_whole); intro h' F' N')
  k_steps
  all_goals cb_end hret
set_option maxRecDepth 100000 in
set_option maxHeartbeats 8000000 in
theorem t_rsh (w : World) (mean) (mg mb) (x sh : Int) (ta tb : Tok) : Tell 1 w mean mg mb 28 (0 ≤ sh ∧ sh ≤ 100) [.int x ta, .int sh tb] (fun t => .int (rshN x sh) t) := by
  unfold Tell; k_fill
  intro news dp un gd cn cs aa ccd cl outer A₀ base h₀ L m s Q E B F X N T hk hpre hd hu hret
  obtain ⟨hb0, hb1⟩ := hpre
  refine wpAny_call ?_
  k_dflt cell_enter
  k_with_none
  k_with "! call builtin:divmod" => (k_here; (with_reducible show wpAny _ _ (call (Value.builtin _) [Value.int _ _, Value.int _ _]) _ _ _); k_dflt (refine' divmod_N ?k1 ?k2 ?k3 ?_ ?k5; (case k1 => k_asm); (case k2 => k_asm); (case k3 => omega); (case k5 => exact Or.inl (PyProof.noPylong_of_log2 (by assumption))); k_whole); intro h' F' N')
  k_steps
  all_goals cb_end hret
set_option maxRecDepth 100000 in
set_option maxHeartbeats 8000000 in
theorem t_sqrt (w : World) (mean) (mg mb) (n a : Int) (ta tb : Tok) : Tell 1 w mean mg mb 21 (0 < n ∧ n ≤ Big ∧ 0 < a ∧ a ≤ Big) [.int n ta, .int a tb] (fun t => .int (sqrtN n) t) := by
  unfold Tell; k_fill
  intro news dp un gd cn cs aa ccd cl outer A₀ base h₀ L m s Q E B F X N T hk hpre hd hu hret
  obtain ⟨hn0, hn1, ha0, ha1⟩ := hpre
  refine wpAny_call ?_
  k_dflt cell_enter
  k_with_none
  k_with "! call builtin:divmod" => (k_here; (with_reducible show wpAny _ _ (call (Value.builtin _) [Value.int _ _, Value.int _ _]) _ _ _); k_dflt (refine' divmod_N ?k1 ?k2 ?k3 ?_ ?k5; (case k1 => k_asm); (case k2 => k_asm); (case k3 => omega); (case k5 => exact Or.inl (PyProof.noPylong_of_log2 (by assumption))); k_whole); intro h' F' N')
  k_with "! binaryOp FloorDiv int int" => (k_here; (with_reducible refine floordiv_int ?kbe ?_ (Or.inl (PyProof.noPylong_of_log2 (log2_big ?kb1 ?kb2)))); (case kbe => omega); (case kb1 => omega); (case kb2 => omega))
  k_with "exec While Compare cons nil" => k_while (fun _ a b => (0 < a ∧ a ≤ Big) ∧ sqP n a b) (fun _ a b => sqM n a b) "a" "b"
  k_with "state" => (first | exact ⟨⟨by assumption, by assumption⟩, by assumption, by assumption, Or.inl rfl⟩ | (rename (sqP _ _ _) => hI; have h9 := sqP_next hn0 hn1 hI; exact ⟨⟨h9.1, h9.2.1⟩, h9⟩))
  k_with "measure" => (rename (sqP _ _ _) => hI; have h9 := sqM_next hn0 hn1 hI (by assumption); exact h9)
  k_with "tree" => (rename (sqP _ _ _) => hI; exact sq_end hn0 hn1 hI (by first | assumption | omega))
  k_steps
  all_goals cb_end hret

end
section
set_option maxRecDepth 100000 in
set_option maxHeartbeats 8000000 in
theorem t_ilog (w : World) (mean) (mg mb) (x M : Int) (ta tb : Tok) : Tell 2 w mean mg mb 43 (ilPre x M) [.int x ta, .int M tb] (fun t => .int (ilogN x M) t) := by
  unfold Tell; k_fill
  intro news dp un gd cn cs aa ccd cl outer A₀ base h₀ L m s Q E B F X N T hk hpre hd hu hret
  have hM0 := hpre.M0
  have hMB := hpre.MBig
  have hMb := hpre.Mbits
  have hMl := log2_M hpre
  have hT1 : 0 < -(-10 * ((Str.ofString (toString M)).length : Int)).fdiv (3 * 8) := (ilTT_pos hpre).1
  have hT2 : -(-10 * ((Str.ofString (toString M)).length : Int)).fdiv (3 * 8) ≤ 1000 := (ilTT_pos hpre).2
  have hBig := big_ge
  refine wpAny_call ?_
  k_dflt (refine' code_def ?k1 ?k2 ?k3 ?k4 ?k5 ?kA ?kF ?kK ?k6 ?k7 ?k8 ?k9 ?kB ?_ ?c2 ?c3 ?c4 ?c5; (case kA => exact rfl); (case kF => exact rfl); (case kK => assumption); (case k1 => k_asm); (case k2 => k_asm); (case k3 => k_asm); (case k4 => k_asm); (case k5 => k_asm); (case k6 => k_is); (case k7 => k_is); (case k8 => ktr_room); (case k9 => (refine' kp_binds ?kx ?ke; (case kx => k_in); (case ke => exact fun _ => rfl))); (case c5 => decide); (case kB => exact locs rfl); (case c2 => exact rfl); (case c3 => exact rfl); (case c4 => exact rfl); k_whole; intro g' L' h' FG' F' N' B' X' T'; (try dsimp only); (try k_lift B'); (try k_fold))
  k_with_none
  k_with "! call ref" => (k_here; (with_reducible show wpAny _ _ (call (Value.ref 35) [Value.int _ _, Value.int _ _]) _ _ _); k_dflt (refine' t_div _ _ _ _ _ _ _ _ _ _ _ _ _ _ _ _ _ _ _ _ _ _ _ _ _ _ ?k1 ?k2 ?k3 ?k4 ?k5 ?kK ?kp ?kd ?ku ?_; (case k1 => k_asm); (case k2 => k_asm); (case k3 => k_asm); (case k4 => k_asm); (case k5 => k_asm); (case kK => first | exact rfl | assumption); (case kp => first | exact ⟨by assumption, by assumption⟩ | exact ⟨by omega, by omega⟩ | k_extra "pre"); (case kd => ktr_room); (case ku => ktr_units)); intro t9 h9 tk9 F9 N9; (try dsimp only); (try k_fold))
  k_with "! call ref" => (k_here; (with_reducible show wpAny _ _ (call (Value.ref 28) [Value.int _ _, Value.int _ _]) _ _ _); k_dflt (refine' t_rsh _ _ _ _ _ _ _ _ _ _ _ _ _ _ _ _ _ _ _ _ _ _ _ _ _ _ ?k1 ?k2 ?k3 ?k4 ?k5 ?kK ?kp ?kd ?ku ?_; (case k1 => k_asm); (case k2 => k_asm); (case k3 => k_asm); (case k4 => k_asm); (case k5 => k_asm); (case kK => first | exact rfl | assumption); (case kp => exact ⟨by omega, by omega⟩); (case kd => ktr_room); (case ku => ktr_units)); intro t9 h9 tk9 F9 N9; (try dsimp only); (try k_fold))
  k_with "! call ref" => (k_here; (with_reducible show wpAny _ _ (call (Value.ref 21) [Value.int _ _, Value.int _ _]) _ _ _); k_dflt (refine' t_sqrt _ _ _ _ _ _ _ _ _ _ _ _ _ _ _ _ _ _ _ _ _ _ _ _ _ _ ?k1 ?k2 ?k3 ?k4 ?k5 ?kK ?kp ?kd ?ku ?_; (case k1 => k_asm); (case k2 => k_asm); (case k3 => k_asm); (case k4 => k_asm); (case k5 => k_asm); (case kK => first | exact rfl | assumption); (case kp => first | exact ⟨by assumption, by assumption, by omega, by assumption⟩ | k_extra "pre"); (case kd => ktr_room); (case ku => ktr_units)); intro t9 h9 tk9 F9 N9; (try dsimp only); (try k_fold))
  k_with "! binaryOp LShift int int" => (k_here; (with_reducible refine lshift_int ?kb1 ?kb2 ?_); (case kb1 => omega); (case kb2 => first | exact shl_abs (by assumption) (by omega) | exact shl_300 (by assumption) (by omega) | exact shl_600 (by assumption) (by assumption) (by omega) | exact shl_300 (intBits_natAbs_le (by assumption)) (by omega)))
  k_with "! binaryOp RShift int int" => (k_here; (with_reducible refine rshift_int ?kb1 ?_); (case kb1 => omega))
  k_with "! call type:str" => (k_here; (with_reducible show wpAny _ _ (call (Value.type "str") [Value.int _ _]) _ _ _); (refine P.str_of_int ?ks1 ?_); (case ks1 => assumption))
  k_with "! call builtin:len" => (k_here; (with_reducible show wpAny _ _ (call (Value.builtin "len") [Value.str _ _]) _ _ _); (refine SBL.len ?ks1 ?_); (case ks1 => (have h9 := int_text_len_1921 (by assumption); omega)))
  k_with "mul" => exact mul_300 (by assumption) (by assumption)
  k_with "exec While BoolOp cons nil" => k_while (fun _ y R => ilF x M y R ∧ (0 ≤ R ∧ R ≤ 25) ∧ intBits y ≤ 300 ∧ (0 < M * (M + rshN y R) ∧ M * (M + rshN y R) ≤ Big) ∧ (0 < M + sqrtN (M * (M + rshN y R)) ∧ M + sqrtN (M * (M + rshN y R)) ≤ Big) ∧ intBits (M + rshN y R) ≤ 300 ∧ intBits (rshN y R) ≤ 300) (fun _ y R => (30 - R).toNat) "y" "R"
  k_with "pyIter ref" => k_state_given ["yshift", "T"] (fun ys T pre w => w = pre.foldl (horn M ys) (divN M T) ∧ (-(2 * M) ≤ w ∧ w ≤ 2 * M) ∧ intBits w ≤ 300) "w"
  k_with "state" => (first | exact ((ilJL.start hpre).full hpre).conj | (rename (ilF _ _ _ _) => hI; first | (have t9 := ilT_t1 hI (by omega) (by assumption); exact ((hI.jl.next hpre t9).full hpre).conj) | (have t9 := ilT_t2 hI (by omega) (by assumption); exact ((hI.jl.next hpre t9).full hpre).conj) | exact horn_start hpre hT1 _ | (have t9 := ilT_f1 hI (by omega) (by assumption); exact horn_state hpre rfl hI t9 (by omega) ⟨by assumption, ⟨by assumption, by assumption⟩, by assumption⟩) | (have t9 := ilT_f2 hI (by omega) (by assumption); exact horn_state hpre rfl hI t9 (by omega) ⟨by assumption, ⟨by assumption, by assumption⟩, by assumption⟩)))
  k_with "tree" => (rename (ilF _ _ _ _) => hI; first | (have t9 := ilT_f1 hI (by omega) (by assumption); exact ilog_end hI t9 (by assumption)) | (have t9 := ilT_f2 hI (by omega) (by assumption); exact ilog_end hI t9 (by assumption)))
  k_steps
  all_goals cb_end hret

end
section
set_option maxRecDepth 100000 in
set_option maxHeartbeats 8000000 in
theorem t_dig (w : World) (mean) (mg mb) (p : Int) (tp : Tok) : Tell 2 w mean mg mb 89 (0 ≤ p ∧ p ≤ 46) [.int p tp] (fun t => .int (log10D p) t) := by
  unfold Tell; k_fill
  intro news dp un gd cn cs aa ccd cl outer A₀ base h₀ L m s Q E B F X N T hk hpre hd hu hret
  obtain ⟨hp0, hp1⟩ := hpre
  k_with_none
  k_with "! call type:int" => (k_here; (with_reducible show wpAny _ _ (call (Value.type "int") [Value.str (Txt.slice _ none (some (_ + 1))) _]) _ _ _); (refine KIN.call_text (And.left (dig_text ?kd1 ?kd2)) (And.right (dig_text ?kd3 ?kd4)) ?_); (case kd1 => omega); (case kd2 => omega); (case kd3 => omega); (case kd4 => omega))
  refine wpAny_call ?_
  k_dflt (refine' method_call ?ho ?_; (case ho => (refine (Frag.In.keeps X F.keep) _ _ ?_; k_is)))
  k_dflt cell_enter
  k_steps
  all_goals cb_end hret

end
section
theorem callWith_MK {M : Model} {A : Around} {E : Value → Shared → Prop} {s : Shared} {K : Frag} {env : Env} {pos : Pos} {first : List Value} {Q : Value → Shared → Prop} {h₀ : Heap} {q g : Addr} {self : Value} {e : Expr} {rest : List Expr} (_X : K.In h₀) (hl : K.lookup q = some (methodObj (.ref g) self)) (hf : fnIn K g = true)
    (h : wpAny M A (spliced (backTo pos (starEach (e :: rest) env))) (fun vs s₁ => K.In s₁.heap ∧ wpAny M A (call (.ref q) (first ++ vs)) Q E s₁) E s)
    (he : starEach (e :: rest) env = (false, eval e env) :: starEach rest env := by rfl) (hplain : (backTo pos (starEach rest env)).any (·.1) = false := by rfl) :
    wpAny M A (callWith pos (.ref q) first (backTo pos (starEach (e :: rest) env)) []) Q E s := by
  rw [he] at h ⊢
  exact callWith_of (by show ((false || (backTo pos (starEach rest env)).any (·.1)) || false) = false; rw [hplain]; rfl) (fun h X => keeps_M hf h ⟨X _ _ hl, X⟩) (PySem.Calls.evalArgs_plain h)
set_option maxRecDepth 100000 in
set_option maxHeartbeats 8000000 in
theorem t_dl10 (w : World) (mean) (mg mb) (c e p : Int) (tc te tp : Tok) : Tell 3 w mean mg mb 50 (0 < c ∧ c.natAbs.log2 < 1920 ∧ intBits e ≤ 4000000 ∧ 0 ≤ p ∧ p ≤ 44) [.int c tc, .int e te, .int p tp] (fun t => .int (dlog10N c e p) t) := by
  unfold Tell; k_fill
  intro news dp un gd cn cs aa ccd cl outer A₀ base h₀ L m s Q E B F X N T hk hpre hd hu hret
  obtain ⟨hc0, hcl, heb, hp0, hp1⟩ := hpre
  have hl1 : ndig c ≤ 1921 := by
    have := int_text_len_1921 hcl
    unfold ndig; omega
  have hkb := dl_kbound (e := e) (q := p + 2) hc0 hl1 (by omega) (by omega)
  have hBig := big_ge
  have hcb : intBits c ≤ 5000000 := bits_log2 hcl
  have hkk : (e + (p + 2) - (e + ((Str.ofString (toString c)).length : Int) - if decide (1 ≤ e + ((Str.ofString (toString c)).length : Int)) = true then 1 else 0)) = dl_k c e (p + 2) := rfl
  have hff : (e + ((Str.ofString (toString c)).length : Int) - if decide (1 ≤ e + ((Str.ofString (toString c)).length : Int)) = true then 1 else 0) = dl_f c e := rfl
  refine wpAny_call ?_
  k_dflt cell_enter
  k_with_none
  k_with "! callWith ref" => (k_here; (with_reducible show wpAny _ _ (callWith _ (Value.ref 89) _ _ _) _ _ _); k_dflt (refine' callWith_MK ?k1 ?k2 ?k3 ?_; (case k1 => k_asm); (case k2 => k_is); (case k3 => k_is); k_whole))
  k_with "! call ref" => (k_here; (with_reducible show wpAny _ _ (call (Value.ref 35) [Value.int _ _, Value.int _ _]) _ _ _); k_dflt (refine' t_div _ _ _ _ _ _ _ _ _ _ _ _ _ _ _ _ _ _ _ _ _ _ _ _ _ _ ?k1 ?k2 ?k3 ?k4 ?k5 ?kK ?kp ?kd ?ku ?_; (case k1 => k_asm); (case k2 => k_asm); (case k3 => k_asm); (case k4 => k_asm); (case k5 => k_asm); (case kK => first | exact rfl | assumption); (case kp => first | exact ⟨by assumption, by assumption⟩ | exact ⟨by omega, by omega⟩ | k_extra "pre"); (case kd => ktr_room); (case ku => ktr_units)); intro t9 h9 tk9 F9 N9; (try dsimp only); (try k_fold))
  k_with "! call ref" => (k_here; (with_reducible show wpAny _ _ (call (Value.ref 43) [Value.int _ _, Value.int _ _]) _ _ _); k_dflt (refine' t_ilog _ _ _ _ _ _ _ _ _ _ _ _ _ _ _ _ _ _ _ _ _ _ _ _ _ _ ?k1 ?k2 ?k3 ?k4 ?k5 ?kK ?kp ?kd ?ku ?_; (case k1 => k_asm); (case k2 => k_asm); (case k3 => k_asm); (case k4 => k_asm); (case k5 => k_asm); (case kK => first | exact rfl | assumption); (case kp => first | assumption | k_extra "pre"); (case kd => ktr_room); (case ku => ktr_units)); intro t9 h9 tk9 F9 N9; (try dsimp only); (try k_fold))
  k_with "! call ref" => (k_here; (with_reducible show wpAny _ _ (call (Value.ref 89) [Value.int _ _]) _ _ _); k_dflt (refine' t_dig _ _ _ _ _ _ _ _ _ _ _ _ _ _ _ _ _ _ _ _ _ _ _ _ ?k1 ?k2 ?k3 ?k4 ?k5 ?kK ?kp ?kd ?ku ?_; (case k1 => k_asm); (case k2 => k_asm); (case k3 => k_asm); (case k4 => k_asm); (case k5 => k_asm); (case kK => first | exact rfl | assumption); (case kp => exact ⟨by omega, by omega⟩); (case kd => ktr_room); (case ku => ktr_units)); intro t9 h9 tk9 F9 N9; (try dsimp only); (try k_fold))
  k_with "! binaryOp Pow int int" => (k_here; (with_reducible refine pow_int_small ?kb1 ?kb2 ?kb3 ?_); (case kb1 => k_extra "pow0"); (case kb2 => k_extra "pow1"); (case kb3 => decide))
  k_with "! call type:str" => (k_here; (with_reducible show wpAny _ _ (call (Value.type "str") [Value.int _ _]) _ _ _); (refine P.str_of_int ?ks1 ?_); (case ks1 => assumption))
  k_with "! call builtin:len" => (k_here; (with_reducible show wpAny _ _ (call (Value.builtin "len") [Value.str _ _]) _ _ _); (refine SBL.len ?ks1 ?_); (case ks1 => (have h9 := int_text_len_1921 (by assumption); omega)))
  k_with "pow0" => (first | omega | assumption | exact neg_nonneg_of (by assumption))
  k_with "pow1" => (first | omega | (rw [hkk]; exact Int.le_trans hkb.1 (by decide)) | (rw [hkk]; exact neg_le_of hkb.2))
  k_with "mul" => (first | (rw [hkk]; exact mul_ten hcb (toNat_le_of hkb.1)) | exact mul_ten (ilog_bits1 hc0 (by omega) (by omega) hkk (by assumption)) (by omega) | exact mul_ten (ilog_bits2 hc0 (by omega) (by omega) hkk (by assumption)) (by omega) | (rw [hff]; exact mul_ten (dl_fbits heb hl1 hc0) (by omega)))
  k_with "pre" => (first | (rw [hkk]; exact ⟨ten_pos _, ten_big (toNat_neg_of hkb.2)⟩) | exact log10D_pos (by omega) (by omega) | (rw [hkk]; exact dl_pre1 hc0 (by omega) (by omega) (by rw [← hkk]; assumption)) | (rw [hkk]; exact dl_pre2 hc0 (by omega) (by omega) (by rw [← hkk]; assumption)))
  k_with "tree" => (rw [hkk, hff]; first | exact dl_val1 (by omega) (by rw [← hkk]; assumption) | exact dl_val2 (by omega) (by rw [← hkk]; assumption))
  k_steps
  all_goals cb_end hret

end
section
abbrev absI (f : Int) : Int := if f < 0 then -f else f
structure DlPre (c e p : Int) : Prop where
  c0 : 0 < c
  cl : c.natAbs.log2 < 1920
  eb : intBits e ≤ 4000000
  p0 : 0 ≤ p
  p1 : p ≤ 60
  fl : (absI (dl_f c e)).natAbs.log2 < 1920
  fb : intBits (dl_f c e) ≤ 300
  fx : p + 2 + (ndig (absI (dl_f c e)) - 1) ≤ 46
theorem ndig_abs (f : Int) : 1 ≤ ndig (absI f) := by
  unfold absI
  by_cases h : f = 0
  · subst h; decide +kernel
  · refine ndig_pos ?_
    split <;> omega
theorem mul_log {f d : Int} (hf : intBits f ≤ 300) (h0 : 0 ≤ d) (h1 : d ≤ 46) : IntMulOk f (log10D d) := by
  refine IntMulOk.of_le (m := 300) (n := 200) hf ?_ (by decide)
  have h : ∀ k : Fin 47, intBits (log10D ((k.val : Nat) : Int)) ≤ 200 := by decide +kernel
  obtain ⟨m, rfl⟩ := Int.eq_ofNat_of_zero_le h0
  exact h ⟨m, by omega⟩
theorem dlog_v1 {c e p : Int} (hk : 0 ≤ dl_k c e (p + 2)) (hf : ¬ dl_f c e = 0) : divN (divN (dl_f c e * log10D (p + 2 + (ndig (absI (dl_f c e)) - 1))) (10 ^ (ndig (absI (dl_f c e)) - 1).toNat) + ilogN (c * 10 ^ (dl_k c e (p + 2)).toNat) (10 ^ (p + 2).toNat)) 100 = dlogN c e p := by
  unfold dlogN dlF dl_c
  rw [if_neg hf, if_pos hk]
theorem dlog_v2 {c e p : Int} (hk : ¬ 0 ≤ dl_k c e (p + 2)) (hf : ¬ dl_f c e = 0) : divN (divN (dl_f c e * log10D (p + 2 + (ndig (absI (dl_f c e)) - 1))) (10 ^ (ndig (absI (dl_f c e)) - 1).toNat) + ilogN (divN c (10 ^ (-(dl_k c e (p + 2))).toNat)) (10 ^ (p + 2).toNat)) 100 = dlogN c e p := by
  unfold dlogN dlF dl_c
  rw [if_neg hf, if_neg hk]
theorem dlog_v3 {c e p : Int} (hk : 0 ≤ dl_k c e (p + 2)) (hf : dl_f c e = 0) : divN (0 + ilogN (c * 10 ^ (dl_k c e (p + 2)).toNat) (10 ^ (p + 2).toNat)) 100 = dlogN c e p := by
  unfold dlogN dlF dl_c
  rw [if_pos hf, if_pos hk]
theorem dlog_v4 {c e p : Int} (hk : ¬ 0 ≤ dl_k c e (p + 2)) (hf : dl_f c e = 0) : divN (0 + ilogN (divN c (10 ^ (-(dl_k c e (p + 2))).toNat)) (10 ^ (p + 2).toNat)) 100 = dlogN c e p := by
  unfold dlogN dlF dl_c
  rw [if_pos hf, if_neg hk]
set_option maxRecDepth 100000 in
set_option maxHeartbeats 8000000 in
theorem t_dlog (w : World) (mean) (mg mb) (c e p : Int) (tc te tp : Tok) : Tell 3 w mean mg mb 57 (DlPre c e p) [.int c tc, .int e te, .int p tp] (fun t => .int (dlogN c e p) t) := by
  unfold Tell; k_fill
  intro news dp un gd cn cs aa ccd cl outer A₀ base h₀ L m s Q E B F X N T hk hpre hd hu hret
  obtain ⟨hc0, hcl, heb, hp0, hp1, hfl, hfb, hfx⟩ := hpre
  have hl1 : ndig c ≤ 1921 := by
    have := int_text_len_1921 hcl
    unfold ndig; omega
  have hkb := dl_kbound (e := e) (q := p + 2) hc0 hl1 (by omega) (by omega)
  have hBig := big_ge
  have hcb : intBits c ≤ 5000000 := bits_log2 hcl
  have hkk : (e + (p + 2) - (e + ((Str.ofString (toString c)).length : Int) - if decide (1 ≤ e + ((Str.ofString (toString c)).length : Int)) = true then 1 else 0)) = dl_k c e (p + 2) := rfl
  have hff : (e + ((Str.ofString (toString c)).length : Int) - if decide (1 ≤ e + ((Str.ofString (toString c)).length : Int)) = true then 1 else 0) = dl_f c e := rfl
  have hx1 : 1 ≤ ((Str.ofString (toString (if (e + ((Str.ofString (toString c)).length : Int) - if decide (1 ≤ e + ((Str.ofString (toString c)).length : Int)) = true then 1 else 0) < 0 then -(e + ((Str.ofString (toString c)).length : Int) - if decide (1 ≤ e + ((Str.ofString (toString c)).length : Int)) = true then 1 else 0) else (e + ((Str.ofString (toString c)).length : Int) - if decide (1 ≤ e + ((Str.ofString (toString c)).length : Int)) = true then 1 else 0)))).length : Int) := ndig_abs (dl_f c e)
  have hx2 : p + 2 + (((Str.ofString (toString (if (e + ((Str.ofString (toString c)).length : Int) - if decide (1 ≤ e + ((Str.ofString (toString c)).length : Int)) = true then 1 else 0) < 0 then -(e + ((Str.ofString (toString c)).length : Int) - if decide (1 ≤ e + ((Str.ofString (toString c)).length : Int)) = true then 1 else 0) else (e + ((Str.ofString (toString c)).length : Int) - if decide (1 ≤ e + ((Str.ofString (toString c)).length : Int)) = true then 1 else 0)))).length : Int) - 1) ≤ 46 := hfx
  have hx3 : 1 ≤ ((Str.ofString (toString (if dl_f c e < 0 then -dl_f c e else dl_f c e))).length : Int) := hx1
  have hx4 : p + 2 + (((Str.ofString (toString (if dl_f c e < 0 then -dl_f c e else dl_f c e))).length : Int) - 1) ≤ 46 := hfx
  refine wpAny_call ?_
  k_dflt cell_enter
  k_with_none
  k_with "! callWith ref" => (k_here; (with_reducible show wpAny _ _ (callWith _ (Value.ref 89) _ _ _) _ _ _); k_dflt (refine' callWith_MK ?k1 ?k2 ?k3 ?_; (case k1 => k_asm); (case k2 => k_is); (case k3 => k_is); k_whole))
  k_with "! call ref" => (k_here; (with_reducible show wpAny _ _ (call (Value.ref 35) [Value.int _ _, Value.int _ _]) _ _ _); k_dflt (refine' t_div _ _ _ _ _ _ _ _ _ _ _ _ _ _ _ _ _ _ _ _ _ _ _ _ _ _ ?k1 ?k2 ?k3 ?k4 ?k5 ?kK ?kp ?kd ?ku ?_; (case k1 => k_asm); (case k2 => k_asm); (case k3 => k_asm); (case k4 => k_asm); (case k5 => k_asm); (case kK => first | exact rfl | assumption); (case kp => first | exact ⟨by assumption, by assumption⟩ | exact ⟨by omega, by omega⟩ | k_extra "pre"); (case kd => ktr_room); (case ku => ktr_units)); intro t9 h9 tk9 F9 N9; (try dsimp only); (try k_fold))
  k_with "! call ref" => (k_here; (with_reducible show wpAny _ _ (call (Value.ref 43) [Value.int _ _, Value.int _ _]) _ _ _); k_dflt (refine' t_ilog _ _ _ _ _ _ _ _ _ _ _ _ _ _ _ _ _ _ _ _ _ _ _ _ _ _ ?k1 ?k2 ?k3 ?k4 ?k5 ?kK ?kp ?kd ?ku ?_; (case k1 => k_asm); (case k2 => k_asm); (case k3 => k_asm); (case k4 => k_asm); (case k5 => k_asm); (case kK => first | exact rfl | assumption); (case kp => first | assumption | k_extra "pre"); (case kd => ktr_room); (case ku => ktr_units)); intro t9 h9 tk9 F9 N9; (try dsimp only); (try k_fold))
  k_with "! call ref" => (k_here; (with_reducible show wpAny _ _ (call (Value.ref 89) [Value.int _ _]) _ _ _); k_dflt (refine' t_dig _ _ _ _ _ _ _ _ _ _ _ _ _ _ _ _ _ _ _ _ _ _ _ _ ?k1 ?k2 ?k3 ?k4 ?k5 ?kK ?kp ?kd ?ku ?_; (case k1 => k_asm); (case k2 => k_asm); (case k3 => k_asm); (case k4 => k_asm); (case k5 => k_asm); (case kK => first | exact rfl | assumption); (case kp => exact ⟨by omega, by omega⟩); (case kd => ktr_room); (case ku => ktr_units)); intro t9 h9 tk9 F9 N9; (try dsimp only); (try k_fold))
  k_with "! binaryOp Pow int int" => (k_here; (with_reducible refine pow_int_small ?kb1 ?kb2 ?kb3 ?_); (case kb1 => k_extra "pow0"); (case kb2 => k_extra "pow1"); (case kb3 => decide))
  k_with "! call type:str" => (k_here; (with_reducible show wpAny _ _ (call (Value.type "str") [Value.int _ _]) _ _ _); (refine P.str_of_int ?ks1 ?_); (case ks1 => first | assumption | k_extra "str"))
  k_with "! call builtin:len" => (k_here; (with_reducible show wpAny _ _ (call (Value.builtin "len") [Value.str _ _]) _ _ _); (refine SBL.len ?ks1 ?_); (case ks1 => first | (have h9 := int_text_len_1921 (by assumption); omega) | k_extra "len"))
  k_with "pow0" => (first | omega | assumption | exact neg_nonneg_of (by assumption))
  k_with "pow1" => (first | omega | (rw [hkk]; exact Int.le_trans hkb.1 (by decide)) | (rw [hkk]; exact neg_le_of hkb.2))
  k_with "mul" => (first | (rw [hkk]; exact mul_ten hcb (toNat_le_of hkb.1)) | (rw [hff]; exact mul_log hfb (by omega) (by omega)))
  k_with "pre" => (first | (rw [hkk]; exact ⟨ten_pos _, ten_big (toNat_neg_of hkb.2)⟩) | (rw [hkk]; exact dl_pre1 hc0 (by omega) (by omega) (by rw [← hkk]; assumption)) | (rw [hkk]; exact dl_pre2 hc0 (by omega) (by omega) (by rw [← hkk]; assumption)) | exact ⟨ten_pos _, ten_big (by omega)⟩)
  k_with "str" => (rw [hff]; assumption)
  k_with "len" => (rw [hff]; have h9 := int_text_len_1921 hfl; omega)
  k_with "tree" => (rw [hkk]; (try rw [hff]); first | exact dlog_v1 (by rw [← hkk]; assumption) (by first | assumption | (rw [← hff]; assumption)) | exact dlog_v2 (by rw [← hkk]; assumption) (by first | assumption | (rw [← hff]; assumption)) | exact dlog_v3 (by rw [← hkk]; assumption) (by first | assumption | (rw [← hff]; assumption)) | exact dlog_v4 (by rw [← hkk]; assumption) (by first | assumption | (rw [← hff]; assumption)))
  k_steps
  all_goals cb_end hret

end
section
def LJ (b t0 p0 tot part k : Int) : Prop := ∃ n : Nat, n ≤ 200 ∧ k = 2 * (200 - (n : Int)) + 1 ∧ part < 2 ^ n ∧ lser n b part k tot = lser 200 b p0 1 t0
theorem LJ.start {b t0 p0 : Int} (h0 : 0 ≤ p0) (h : p0 < 2 ^ 200) : (0 ≤ p0 ∧ ((1 : Int) ≤ 1 ∧ (1 : Int) ≤ 1000)) ∧ LJ b t0 p0 t0 p0 1 := ⟨⟨h0, by decide, by decide⟩, 200, by omega, by omega, h, rfl⟩
theorem LJ.next {b t0 p0 tot part k : Int} (hb : 2 ≤ b) (h : LJ b t0 p0 tot part k) (hp : 0 < part) : (0 ≤ part.fdiv (b * b) ∧ (1 ≤ k + 2 ∧ k + 2 ≤ 1000)) ∧ LJ b t0 p0 (tot + part.fdiv k) (part.fdiv (b * b)) (k + 2) := by
  obtain ⟨n, h1, h2, h3, h4⟩ := h
  have hbb : 2 * 2 ≤ b * b := mul_lo (by decide) (by decide) hb hb
  have hq := Int.mul_fdiv_add_fmod part (b * b)
  have hq1 := fmod_lo part (n := b * b) (by omega)
  have hq2 := fmod_hi part (n := b * b) (by omega)
  have n0 : n ≠ 0 := by
    intro e; subst e
    rw [Int.pow_zero] at h3; omega
  have q0 : 0 ≤ part.fdiv (b * b) := by
    refine Int.not_lt.mp fun hlt => ?_
    have : (b * b) * part.fdiv (b * b) ≤ (b * b) * (-1) := mono2 (by omega) (by omega)
    omega
  have q2 : 4 * part.fdiv (b * b) ≤ part := by
    have : part.fdiv (b * b) * (2 * 2) ≤ part.fdiv (b * b) * (b * b) := mono2 hbb q0
    have e : part.fdiv (b * b) * (b * b) = (b * b) * part.fdiv (b * b) := Int.mul_comm _ _
    omega
  obtain ⟨m, rfl⟩ : ∃ m, n = m + 1 := ⟨n - 1, by omega⟩
  rw [Int.pow_succ] at h3
  refine ⟨⟨q0, by omega, by omega⟩, m, by omega, by omega, by omega, ?_⟩
  rw [← h4]
  show _ = if 0 < part then lser m b (part.fdiv (b * b)) (k + 2) (tot + part.fdiv k) else tot
  rw [if_pos hp]
theorem LJ.meas {b part : Int} (hb : 2 ≤ b) (hp : 0 < part) : (part.fdiv (b * b)).toNat < part.toNat := by
  have hbb : 2 * 2 ≤ b * b := mul_lo (by decide) (by decide) hb hb
  have hq := Int.mul_fdiv_add_fmod part (b * b)
  have hq1 := fmod_lo part (n := b * b) (by omega)
  have hq2 := fmod_hi part (n := b * b) (by omega)
  have q2 : part.fdiv (b * b) < part := by
    refine Int.not_le.mp fun hlt => ?_
    have : (b * b) * part ≤ (b * b) * part.fdiv (b * b) := mono2 hlt (by omega)
    have h3 : part * (2 * 2) ≤ part * (b * b) := mono2 hbb (by omega)
    have e : part * (b * b) = (b * b) * part := Int.mul_comm _ _
    omega
  omega
theorem LJ.done {b t0 p0 tot part k : Int} (h : LJ b t0 p0 tot part k) (hp : ¬ 0 < part) : tot = lser 200 b p0 1 t0 := by
  obtain ⟨n, h1, h2, h3, h4⟩ := h
  rw [← h4]
  cases n with
  | zero => rfl
  | succ m =>
    show tot = if 0 < part then _ else tot
    rw [if_neg hp]
theorem p0_ok {m b places : Int} (hm : 0 ≤ m) (hm2 : m ≤ 100) (hb : 1 ≤ b) (h0 : 0 ≤ places) (h1 : places ≤ 36) : 0 ≤ (m * 10 ^ (places + 6).toNat).fdiv b ∧ (m * 10 ^ (places + 6).toNat).fdiv b < 2 ^ 200 := by
  have p := ten_pos (places + 6).toNat
  have h2 : (10 : Int) ^ (places + 6).toNat ≤ 10 ^ 42 := ten_le (by omega)
  have h3 : m * 10 ^ (places + 6).toNat ≤ 100 * 10 ^ (places + 6).toNat := Int.mul_le_mul_of_nonneg_right hm2 (by omega)
  have h4 : 0 ≤ m * 10 ^ (places + 6).toNat := Int.mul_nonneg hm (by omega)
  have h5 : (100 : Int) * 10 ^ 42 < 2 ^ 200 := by decide +kernel
  generalize m * (10 : Int) ^ (places + 6).toNat = a at *
  rw [Int.fdiv_eq_ediv_of_nonneg _ (by omega)]
  have q1 := Int.ediv_nonneg h4 (b := b) (by omega)
  have q2 := Int.ediv_le_self b h4
  generalize (2 : Int) ^ 200 = z at *
  generalize (10 : Int) ^ 42 = u at *
  omega
def ltot (places : Int) : Nat → Int
  | 0 => 0
  | 1 => lser 200 31 ((46 * (10 : Int) ^ (places + 6).toNat).fdiv 31) 1 0
  | 2 => lser 200 49 ((34 * (10 : Int) ^ (places + 6).toNat).fdiv 49) 1 (lser 200 31 ((46 * (10 : Int) ^ (places + 6).toNat).fdiv 31) 1 0)
  | _ => lten3 (10 ^ (places + 6).toNat)
def LInv (places : Int) (i : Nat) (a : Int) : Prop := a = ltot places i
theorem linv_1 {places a t part k : Int} (h0 : LInv places 0 a) (h : LJ 31 a ((46 * (10 : Int) ^ (places + 6).toNat).fdiv 31) t part k) (e : ¬ 0 < part) : LInv places (0 + 1) t := by
  have := h.done e
  unfold LInv at *
  rw [this, h0]; rfl
theorem linv_2 {places a t part k : Int} (h0 : LInv places 1 a) (h : LJ 49 a ((34 * (10 : Int) ^ (places + 6).toNat).fdiv 49) t part k) (e : ¬ 0 < part) : LInv places (1 + 1) t := by
  have := h.done e
  unfold LInv at *
  rw [this, h0]; rfl
theorem linv_3 {places a t part k : Int} (h0 : LInv places 2 a) (h : LJ 161 a ((20 * (10 : Int) ^ (places + 6).toNat).fdiv 161) t part k) (e : ¬ 0 < part) : LInv places (2 + 1) t := by
  have := h.done e
  unfold LInv at *
  rw [this, h0]; rfl
theorem lten_end {places a : Int} (h : LInv places [Value.ref 0, Value.ref 0, Value.ref 0].length a) : a.fdiv (10 ^ Int.toNat 6) = lawTen places := by
  unfold LInv at h
  unfold lawTen
  rw [h]; rfl
abbrev leftOf {a b : Int} (_ : a ≤ b) : Int := a
theorem three_cases {v1 v2 v3 v : Value} {i : Nat} (h : [v1, v2, v3][i]? = some v) : (i = 0 ∧ v = v1) ∨ (i = 1 ∧ v = v2) ∨ (i = 2 ∧ v = v3) := by
  match i, h with
  | 0, h => simp at h; exact .inl ⟨rfl, h.symm⟩
  | 1, h => simp at h; exact .inr (.inl ⟨rfl, h.symm⟩)
  | 2, h => simp at h; exact .inr (.inr ⟨rfl, h.symm⟩)
  | k + 3, h => simp at h
set_option maxRecDepth 100000 in
set_option maxHeartbeats 8000000 in
theorem t_lten (w : World) (mean) (mg mb) (places : Int) (tc : Tok) : Tell 2 w mean mg mb 96 (0 ≤ places ∧ places ≤ 36) [.int places tc] (fun t => .int (lawTen places) t) := by
  w_top off
  unfold Tell; k_fill
  intro news dp un gd cn cs aa ccd cl outer A₀ base h₀ L m s Q E B F X N T hk hpre hd hu hret
  obtain ⟨hp0, hp1⟩ := hpre
  have hBig := big_ge1
  have q1 := p0_ok (m := 46) (b := 31) (by decide) (by decide) (by decide) hp0 hp1
  have q2 := p0_ok (m := 34) (b := 49) (by decide) (by decide) (by decide) hp0 hp1
  have q3 := p0_ok (m := 20) (b := 161) (by decide) (by decide) (by decide) hp0 hp1
  refine wpAny_call ?_
  k_dflt cell_enter
  k_with_none
  k_with "! pyIter ref" => (k_here; (with_reducible show wpAny _ _ (pyIter (Value.ref _)) (fun it s₂ => TurnsAt _ _ _ _ _ (PySem.Expr.Tuple _ _ _) _ _ _ it s₂) _ _); (with_reducible rename (_ ≤ (36 : Int)) => hp36); k_dflt (refine' tup_one (vs := [_, _, _]) [PySem.Str.ofString "many", PySem.Str.ofString "base", PySem.Str.ofString "part", PySem.Str.ofString "k"] (PySem.Str.ofString "total") (LInv (leftOf hp36)) ?hh ?F ?N ?hm ?hc ?hd ?hz ?hi ?_ ?_; (case hh => exact rfl); (case F => k_asm); (case N => k_asm); (case hm => k_mem); (case hc => exact rfl); (case hd => exact rfl); (case hz => exact rfl); (case hi => exact rfl)); (all_goals (first | (intro I9 l9 i9 v9 u9 h9 tk9 o9 a9 t9 c9 hv9 hi9 F9 N9; k_dflt (rcases three_cases hv9 with ⟨e8, e9⟩ | ⟨e8, e9⟩ | ⟨e8, e9⟩) <;> (subst e8; subst e9; clear hv9; (try dsimp only [leftOf] at hi9); (try k_lt l9); (try k_fold))) | ((intro u9 h9 tk9 a9 t9 hi9 F9 N9); (fail_if_success (with_reducible intro q9)); (try dsimp only [leftOf] at hi9)))))
  k_with "! TurnEndZ" => ((dsimp only [TurnEndZ]); exact ⟨_, _, _, _, _, rfl, by k_asm, cb_drop (by k_asm) (by first | exact fun p hp => hp | exact fun p hp => List.mem_cons_of_mem _ hp | kcj_all), rfl, (by k_extra "inv"), by (intro y h1 h2; (simp only [List.contains_cons, List.contains_nil, Bool.or_false, Bool.or_eq_false_iff, beq_eq_false_iff_ne, ne_eq] at h2); (simp [h1, h2]))⟩)
  k_with "! binaryOp Pow int int" => (k_here; (with_reducible refine pow_int_small ?kb1 ?kb2 ?kb3 ?_); (case kb1 => omega); (case kb2 => omega); (case kb3 => decide))
  k_with "! binaryOp FloorDiv int int" => (k_here; (with_reducible refine floordiv_int ?kbe ?_ (Or.inl (PyProof.noPylong_of_log2 (log2_big ?kb1 ?kb2)))); (case kbe => k_extra "fd0"); (case kb1 => k_extra "fd1"); (case kb2 => k_extra "fd2"))
  k_with "! inplaceOp FloorDiv int int" => (k_here; (with_reducible refine PySem.W.inplace_floordiv ?kbe ?_ (Or.inl (PyProof.noPylong_of_log2 (log2_big ?kb1 ?kb2)))); (case kbe => k_extra "fd0"); (case kb1 => k_extra "fd1"); (case kb2 => k_extra "fd2"))
  k_with "exec While Compare cons nil" => k_while_given ["base", "total!", "part!"] (fun b t0 p0 _ total part k => (0 ≤ part ∧ (1 ≤ k ∧ k ≤ 1000)) ∧ LJ b t0 p0 total part k) (fun b t0 p0 _ total part k => part.toNat) "total" "part" "k"
  k_with "state" => (first | exact LJ.start q1.1 q1.2 | exact LJ.start q2.1 q2.2 | exact LJ.start q3.1 q3.2 | exact LJ.next (by decide) (by assumption) (by assumption))
  k_with "measure" => exact LJ.meas (by decide) (by assumption)
  k_with "mul" => (first | exact mul_ten (Nat.le_trans (bits_sm (by decide) (by decide)) (by decide)) (by omega) | exact IntMulOk.of_le (m := 64) (n := 64) (bits_sm (by decide) (by decide)) (bits_sm (by decide) (by decide)) (by decide))
  k_with "fd0" => (first | decide | omega)
  k_with "fd1" => (first | decide | omega)
  k_with "fd2" => (first | omega | exact Int.le_trans (by decide) hBig | exact ten_big (by decide))
  k_with "tree" => exact lten_end (by assumption)
  k_with "inv" => ((try dsimp only [leftOf]); first | exact linv_1 (by assumption) (by assumption) (by assumption) | exact linv_2 (by assumption) (by assumption) (by assumption) | exact linv_3 (by assumption) (by assumption) (by assumption))
  k_steps
  all_goals cb_end hret

end
section
theorem ints_at : ∀ {vs : List Value} {ms : List Int} {i : Nat} {v : Value}, IntsAre vs ms → vs[i]? = some v → ∃ n t, v = .int n t ∧ n ∈ ms
  | _, _, i, v, .nil, h => by simp at h
  | _, _, 0, v, .cons n t r, h => by simp at h; exact ⟨n, t, h.symm, by simp⟩
  | _, _, i + 1, v, .cons n t r, h => by
    obtain ⟨m, u, e, hm⟩ := ints_at r (i := i) (v := v) (by simpa using h)
    exact ⟨m, u, e, by simp [hm]⟩
theorem num_any {vs : List Value} {ms : List Int} {i : Nat} {v : Value} (hI : IntsAre vs ms) (h : vs[i]? = some v) : ∃ n t, v = .int n t := by
  obtain ⟨n, t, e, hm⟩ := ints_at hI h
  exact ⟨n, t, e⟩
theorem num_one {a : Int} {u : Tok} {i : Nat} {v : Value} (h : ([Value.int a u] : List Value)[i]? = some v) : ∃ n t, v = .int n t := by
  match i, h with
  | 0, h => simp at h; exact ⟨_, _, h.symm⟩
  | k + 1, h => simp at h
theorem c08_lo (a : Int) : 1 ≤ (if a < 0 then -a else a).fmod (10 ^ Int.toNat 40) + 1 := by
  have := fmod_lo (if a < 0 then -a else a) (n := 10 ^ Int.toNat 40) (ten_pos _); omega
theorem c08_hi (a : Int) : (if a < 0 then -a else a).fmod (10 ^ Int.toNat 40) + 1 ≤ 10 ^ 200 := by
  have h := fmod_hi (if a < 0 then -a else a) (n := 10 ^ Int.toNat 40) (ten_pos _)
  have : (10 : Int) ^ Int.toNat 40 ≤ 10 ^ 200 := ten_le (by decide)
  generalize (10 : Int) ^ 200 = k at *
  omega
theorem far_lo (a : Int) : 1 ≤ ((if a < 0 then -a else a).fdiv 7).fmod (10 ^ Int.toNat 9) + 1 := by
  have := fmod_lo ((if a < 0 then -a else a).fdiv 7) (n := 10 ^ Int.toNat 9) (ten_pos _); omega
theorem far_hi (a : Int) : ((if a < 0 then -a else a).fdiv 7).fmod (10 ^ Int.toNat 9) + 1 ≤ 2000000000 := by
  have h := fmod_hi ((if a < 0 then -a else a).fdiv 7) (n := 10 ^ Int.toNat 9) (ten_pos _)
  have : (10 : Int) ^ Int.toNat 9 = 1000000000 := by decide
  omega
def P8 (side f : Int) : Prop := ((side = 1 ∧ 0 ≤ f) ∨ (side = 0 ∧ f ≤ 0)) ∧ -2000000000 ≤ f ∧ f ≤ 2000000000
theorem pair_casesI {I : Addr} {oI : Obj} {D1 D2 D3 D4 : Addr} {f1 f2 f3 f4 t1 t2 t3 t4 : Int} {a1 a2 a3 a4 b1 b2 b3 b4 : Tok} {k1 k2 k3 k4 : Nat} {i : Nat} {v : Value} {P : Int → Int → Prop} {led : List (Addr × Obj)} {h₀ hh : Heap} {L : Addr} (N : News h₀ L hh ((I, oI) :: led)) (h : ([.ref D1, .ref D2, .ref D3, .ref D4] : List Value)[i]? = some v)
    (m1 : (D1, tup2 f1 a1 t1 b1 k1) ∈ led) (m2 : (D2, tup2 f2 a2 t2 b2 k2) ∈ led) (m3 : (D3, tup2 f3 a3 t3 b3 k3) ∈ led) (m4 : (D4, tup2 f4 a4 t4 b4 k4) ∈ led)
    (p1 : P f1 t1) (p2 : P f2 t2) (p3 : P f3 t3) (p4 : P f4 t4) : ∃ T f a t b k, v = .ref T ∧ News h₀ L hh ((T, tup2 f a t b k) :: (I, oI) :: led) ∧ P f t := by
  have cm : ∀ {p : Addr × Obj}, p ∈ led → News h₀ L hh (p :: (I, oI) :: led) := fun {p} hp q hq => by
    rcases List.mem_cons.mp hq with e | hq
    · subst e; exact N _ (List.mem_cons_of_mem _ hp)
    · exact N _ hq
  match i, h with
  | 0, h => simp at h; exact ⟨_, _, _, _, _, _, h.symm, cm m1, p1⟩
  | 1, h => simp at h; exact ⟨_, _, _, _, _, _, h.symm, cm m2, p2⟩
  | 2, h => simp at h; exact ⟨_, _, _, _, _, _, h.symm, cm m3, p3⟩
  | 3, h => simp at h; exact ⟨_, _, _, _, _, _, h.symm, cm m4, p4⟩
  | k + 4, h => simp at h
theorem mk8 {c f side size x : Int} (hc : 1 ≤ c) (h1 : 1 ≤ size) (hz : szP c size) (ht : ¬ 10 ^ size.toNat ≤ c) (sd : (side = 1 ∧ 0 ≤ f) ∨ (side = 0 ∧ f ≤ 0)) (f0 : -2000000000 ≤ f) (f1 : f ≤ 2000000000) : L8 c f side size (x.fmod 21) :=
  ⟨by omega, sz_end h1 hz ht, sd, f0, f1, fmod_lo _ (by decide), by have := fmod_hi x (n := 21) (by decide); omega⟩
theorem L8.pre10 {c f side size p : Int} (h : L8 c f side size p) (hc : c ≤ 10 ^ 200) (h1 : 1 ≤ size) (h2 : size ≤ 202) : 0 < c ∧ c.natAbs.log2 < 1920 ∧ intBits (f + side - size) ≤ 4000000 ∧ 0 ≤ p ∧ p ≤ 44 := by
  have a1 := h.sd; have a2 := h.f0; have a3 := h.f1; have a4 := h.p0; have a5 := h.p1
  exact ⟨h.c0, log2_200 h.c0 hc, Nat.le_trans (intBits_le_64 (by omega) (by omega)) (by decide), a4, by omega⟩
theorem L8.pre11 {c f side size p : Int} (h : L8 c f side size p) (hc : c ≤ 10 ^ 200) (h1 : 1 ≤ size) (h2 : size ≤ 202) : DlPre c (f + side - size) p := by
  obtain ⟨b1, b2, b3, b4, b5⟩ := h.pre10 hc h1 h2
  have a2 := h.f0; have a3 := h.f1; have a5 := h.p1
  refine ⟨b1, b2, b3, b4, by omega, ?_, ?_, ?_⟩
  · rw [h.fv]
    have : (absI f).natAbs ≤ 2000000000 := by unfold absI; split <;> omega
    by_cases hz : (absI f).natAbs = 0
    · rw [hz]; decide
    · refine (Nat.log2_lt hz).mpr (Nat.lt_of_le_of_lt this ?_)
      decide +kernel
  · rw [h.fv]; exact Nat.le_trans (intBits_le_64 (by omega) (by omega)) (by decide)
  · rw [h.fv]
    have : ndig (absI f) ≤ 10 := ndig_le (k := 10) (by unfold absI; split <;> omega) (by omega) (by
      have : (10 : Int) ^ 10 = 10000000000 := by decide
      rw [this]; unfold absI; split <;> omega)
    omega
theorem L8.abits {c f side size p : Int} (h : L8 c f side size p) : intBits (dlog10N c (f + side - size) p) ≤ 2 ^ 20 := by
  obtain ⟨a1, a2⟩ := h.lo
  have b1 := h.sd; have b2 := h.f0; have b3 := h.f1
  have p0 := h.p0; have p1 := h.p1
  have u := ten_pos p.toNat
  have k1 : (f + side) * 10 ^ p.toNat ≤ 3000000000 * 10 ^ p.toNat := Int.mul_le_mul_of_nonneg_right (by omega) (by omega)
  have k2 : (-3000000000) * 10 ^ p.toNat ≤ (f + side - 1) * 10 ^ p.toNat := Int.mul_le_mul_of_nonneg_right (by omega) (by omega)
  have k3 : (10 : Int) ^ p.toNat ≤ 10 ^ 20 := ten_le (by omega)
  have k4 : (3000000000 : Int) * 10 ^ 20 < 2 ^ 200 := by decide +kernel
  refine Nat.le_trans (bits_of_le (m := 200) ?_ ?_) (by decide) <;> (generalize (2 : Int) ^ 200 = z at *; generalize (10 : Int) ^ 20 = w at *; omega)
theorem ten_bits {x : Int} : intBits (lawTen (x.fmod 21 + 16)) ≤ 2 ^ 20 := by
  have h := t8 (p := x.fmod 21) (fmod_lo _ (by decide)) (by have := fmod_hi x (n := 21) (by decide); omega)
  have h1 := fmod_lo x (n := 21) (by decide)
  have h2 := fmod_hi x (n := 21) (by decide)
  have k3 : (10 : Int) ^ (x.fmod 21 + 16).toNat ≤ 10 ^ 36 := ten_le (by omega)
  have t1 := h.t1; have t0 := h.t0
  have k4 : (23026 : Int) * 10 ^ 36 < 2 ^ 200 := by decide +kernel
  refine Nat.le_trans (bits_of_le (m := 200) ?_ ?_) (by decide) <;> (generalize (2 : Int) ^ 200 = z at *; generalize (10 : Int) ^ 36 = w at *; omega)
theorem one_bits {x : Int} : intBits ((10 : Int) ^ (x.fmod 21 + 16).toNat) ≤ 2 ^ 20 := by
  have h2 := fmod_hi x (n := 21) (by decide)
  refine Nat.le_trans (bits10 _) ?_
  have : (x.fmod 21 + 16).toNat ≤ 100 := by omega
  omega
theorem L8.bbits {c f side size p : Int} (h : L8 c f side size p) : intBits (dlogN c (f + side - size) p) ≤ 2 ^ 20 := by
  have h2 := h.two (v := 178) (.inr rfl)
  have ha := h.lo
  have T := t8 h.p0 h.p1
  have b1 := h.sd; have b2 := h.f0; have b3 := h.f1
  have p0 := h.p0; have p1 := h.p1
  have u := ten_pos p.toNat
  have k1 : (f + side) * 10 ^ p.toNat ≤ 3000000000 * 10 ^ p.toNat := Int.mul_le_mul_of_nonneg_right (by omega) (by omega)
  have k2 : (-3000000000) * 10 ^ p.toNat ≤ (f + side - 1) * 10 ^ p.toNat := Int.mul_le_mul_of_nonneg_right (by omega) (by omega)
  have k3 : (10 : Int) ^ p.toNat ≤ 10 ^ 20 := ten_le (by omega)
  have k4 : 3 * ((3000000000 : Int) * 10 ^ 20) + 2 < 2 ^ 200 := by decide +kernel
  have o := ten_pos (p + 16).toNat
  have t1 := T.t1; have t0 := T.t0
  generalize dlog10N c (f + side - size) p = a at *
  generalize dlogN c (f + side - size) p = b at *
  generalize lawTen (p + 16) = ten at *
  have hA : -(3000000000 * 10 ^ 20) ≤ a ∧ a ≤ 3000000000 * 10 ^ 20 := by
    generalize (10 : Int) ^ 20 = w at *
    omega
  generalize (10 : Int) ^ (p + 16).toNat = one at *
  generalize (3000000000 : Int) * 10 ^ 20 = A at *
  have t3 : ten ≤ 3 * one := by omega
  have m1 : 0 ≤ (A - a) * ten := Int.mul_nonneg (by omega) t0
  have m2 : 0 ≤ (A + a) * ten := Int.mul_nonneg (by omega) t0
  have m3 : A * ten ≤ A * (3 * one) := mono2 t3 (by omega)
  have q1 : a * ten - b * one ≤ 2 * one ∧ -(2 * one) ≤ a * ten - b * one := by split at h2 <;> omega
  have r1 : b ≤ 3 * A + 2 := by
    refine Int.le_of_mul_le_mul_left (a := one) ?_ o
    grind
  have r2 : -(3 * A + 2) ≤ b := by
    refine Int.le_of_mul_le_mul_left (a := one) ?_ o
    grind
  refine Nat.le_trans (bits_of_le (m := 200) ?_ ?_) (by decide) <;> (generalize (2 : Int) ^ 200 = z at *; omega)
theorem len8 {ns : List Int} (h : decide (ns = []) = false) (h2 : 0 < -(ns.length : Int) ∨ (ns.length : Int) ≤ 0) : False := by
  have h3 := of_decide_eq_false h
  have := List.length_pos_iff.mpr h3
  omega
theorem le_yes {prog : Program} {w : World} {A : Around} {E : Value → Shared → Prop} {s : Shared} {a b : Int} {t u : Tok} {Q : Value → Shared → Prop} (h : a ≤ b) (hq : Q (.bool true) s) : wpAny (model prog w) A (compareOp .LtE (.int a t) (.int b u)) Q E s :=
  le_int (by rw [decide_eq_true h]; exact hq)
theorem gt_no {prog : Program} {w : World} {A : Around} {E : Value → Shared → Prop} {s : Shared} {a b : Int} {t u : Tok} {Q : Value → Shared → Prop} (h : a ≤ b) (hq : Q (.bool false) s) : wpAny (model prog w) A (compareOp .Gt (.int a t) (.int b u)) Q E s :=
  gt_int (by have e : decide (a > b) = false := decide_eq_false (by omega)
             first | (rw [e]; exact hq) | (simp only [e]; exact hq) | simpa [e] using hq)
set_option maxRecDepth 100000 in
set_option maxHeartbeats 8000000 in
theorem foo : PySem.Challenge.rw_dm0270_08.Holds := hd (by
  k_go0
  (rename Heap.CodeRec _ _ _ => hX9; clear hX9)
  (rename (Dflts ..) => hX9; clear hX9)
  dsimp only
  (with_reducible change wpAny _ _ _ _ _ _)
  k_fold
  k_with_none
  k_with "! call ref" => (k_here; (with_reducible show wpAny _ _ (call (Value.ref 50) [Value.int _ _, Value.int _ _, Value.int _ _]) _ _ _); k_dflt (refine' t_dl10 _ _ _ _ _ _ _ _ _ _ _ _ _ _ _ _ _ _ _ _ _ _ _ _ _ _ _ _ ?k1 ?k2 ?k3 ?k4 ?k5 ?kK ?kp ?kd ?ku ?_; (case k1 => k_asm); (case k2 => k_asm); (case k3 => k_asm); (case k4 => k_asm); (case k5 => k_asm); (case kK => first | exact rfl | assumption); (case kp => k_extra "pre"); (case kd => ktr_room); (case ku => ktr_units)); intro t9 h9 tk9 F9 N9; (try dsimp only); (try k_fold))
  k_with "! call ref" => (k_here; (with_reducible show wpAny _ _ (call (Value.ref 57) [Value.int _ _, Value.int _ _, Value.int _ _]) _ _ _); k_dflt (refine' t_dlog _ _ _ _ _ _ _ _ _ _ _ _ _ _ _ _ _ _ _ _ _ _ _ _ _ _ _ _ ?k1 ?k2 ?k3 ?k4 ?k5 ?kK ?kp ?kd ?ku ?_; (case k1 => k_asm); (case k2 => k_asm); (case k3 => k_asm); (case k4 => k_asm); (case k5 => k_asm); (case kK => first | exact rfl | assumption); (case kp => k_extra "pre2"); (case kd => ktr_room); (case ku => ktr_units)); intro t9 h9 tk9 F9 N9; (try dsimp only); (try k_fold))
  k_with "! call ref" => (k_here; (with_reducible show wpAny _ _ (call (Value.ref 96) [Value.int _ _]) _ _ _); k_dflt (refine' t_lten _ _ _ _ _ _ _ _ _ _ _ _ _ _ _ _ _ _ _ _ _ _ _ _ ?k1 ?k2 ?k3 ?k4 ?k5 ?kK ?kp ?kd ?ku ?_; (case k1 => k_asm); (case k2 => k_asm); (case k3 => k_asm); (case k4 => k_asm); (case k5 => k_asm); (case kK => first | exact rfl | assumption); (case kp => exact ⟨by omega, by omega⟩); (case kd => ktr_room); (case ku => ktr_units)); intro t9 h9 tk9 F9 N9; (try dsimp only); (try k_fold))
  k_with "! binaryOp Pow int int" => (k_here; (with_reducible refine pow_int_small ?kb1 ?kb2 ?kb3 ?_); (case kb1 => omega); (case kb2 => omega); (case kb3 => decide))
  k_with "! execs cons" => (k_here; dsimp only)
  k_with "! execs nil" => (k_here; dsimp only)
  k_with "! UnrEndW" => (k_here; (fail_if_success plain_pass); k_dflt (walk_at "UnrEndW"))
  k_with "! eval Slice" => (k_here; dsimp only)
  k_with "! binaryOp Add ref ref" => (k_here; dsimp only)
  k_with "! exec Assign" => (k_here; dsimp only)
  k_with "! storeName" => (k_here; dsimp only)
  k_with "! exec For Name Name cons nil" => (k_here; (rename Fr _ _ _ _ => lF'); (with_unfolding_all refine' For_turns lF' ?_; k_whole))
  k_with "! pyIter ref" => (k_here; (with_reducible show wpAny _ _ (pyIter (Value.ref _)) (fun it s₂ => TurnsAt _ _ _ _ _ (PySem.Expr.Name (PySem.Str.ofString "number") _) _ _ _ it s₂) _ _); k_dflt (refine' list_zero [PySem.Str.ofString "number", PySem.Str.ofString "c", PySem.Str.ofString "size", PySem.Str.ofString "far", PySem.Str.ofString "side", PySem.Str.ofString "f", PySem.Str.ofString "a", PySem.Str.ofString "b"] ?hh ?F ?N ?hm ?hc ?hd ?_ ?_; (case hh => exact rfl); (case F => k_asm); (case N => k_asm); (case hm => k_mem); (case hc => exact rfl); (case hd => exact rfl)); (all_goals (first | (intro I9 l9 i9 v9 u9 h9 tk9 o9 c9 hv9 F9 N9; k_dflt (first | (have q9 := num_one hv9) | (have q9 := num_any (by assumption) hv9)); (obtain ⟨n9, t9, e9⟩ := q9); subst e9; clear hv9; (try k_lt l9); (have hc0 := c08_lo n9); (have hc1 := c08_hi n9); (have hf0 := far_lo n9); (have hf1 := far_hi n9); (try k_fold)) | ((intro u9 h9 tk9 F9 N9); (fail_if_success (with_reducible intro q9))))))
  k_with "! exec For Tuple Tuple cons nil" => (k_here; (rename Fr _ _ _ _ => lF'); (with_unfolding_all refine' For_turns lF' ?_; k_whole))
  k_with "! pyIter ref" => (k_here; (with_reducible show wpAny _ _ (pyIter (Value.ref _)) (fun it s₂ => TurnsAt _ _ _ _ _ (PySem.Expr.Tuple _ _ _) _ _ _ it s₂) _ _); k_dflt (refine' tup_zero (vs := [_, _, _, _]) [PySem.Str.ofString "side", PySem.Str.ofString "f", PySem.Str.ofString "a", PySem.Str.ofString "b"] ?hh ?F ?N ?hm ?hc ?hd ?_ ?_; (case hh => exact rfl); (case F => k_asm); (case N => k_asm); (case hm => k_mem); (case hc => exact rfl); (case hd => exact rfl)); (all_goals (first | (intro I9 l9 i9 v9 u9 h9 tk9 o9 c9 hv9 F9 N9; k_dflt (have q9 := pair_casesI (P := P8) N9 hv9 (by k_mem) (by k_mem) (by k_mem) (by k_mem) (by unfold P8; omega) (by unfold P8; omega) (by unfold P8; omega) (by unfold P8; omega)); (obtain ⟨T9, s9, sa9, f9, fb9, k9, e9, N9', hP9⟩ := q9); subst e9; clear hv9; (clear N9); k_dflt (obtain ⟨hsd9, hf90, hf91⟩ := hP9); (try k_lt l9); (try k_fold)) | ((intro u9 h9 tk9 F9 N9); (fail_if_success (with_reducible intro q9))))))
  k_with "! TurnEnd0" => ((dsimp only [TurnEnd0]); exact ⟨_, _, _, rfl, by k_asm, cb_drop (by k_asm) (by first | exact fun p hp => hp | exact fun p hp => List.mem_cons_of_mem _ hp | kcj_all), by (intro y h2; (simp only [List.contains_cons, List.contains_nil, Bool.or_false, Bool.or_eq_false_iff, beq_eq_false_iff_ne, ne_eq] at h2); (simp [h2]))⟩)
  k_with "! compareOp LtE int int" => (k_here; (with_reducible show wpAny _ _ (compareOp CmpOp.LtE (Value.int _ _) (Value.int (dlog10N _ _ _) _)) _ _ _); k_dflt (refine le_yes ?kne ?_; (case kne => k_extra "le")))
  k_with "! compareOp LtE int int" => (k_here; (with_reducible show wpAny _ _ (compareOp CmpOp.LtE (Value.int (dlog10N _ _ _) _) (Value.int _ _)) _ _ _); k_dflt (refine le_yes ?kne ?_; (case kne => k_extra "le")))
  k_with "! compareOp Gt int int" => (k_here; (with_reducible show wpAny _ _ (compareOp CmpOp.Gt (Value.int _ _) (Value.int _ _)) _ _ _); k_dflt (refine gt_no ?kne ?_; (case kne => k_extra "gt")))
  k_with "exec While Compare cons nil" => k_while_given ["c"] (fun c _ size => (1 ≤ size ∧ size ≤ 202) ∧ szP c size) (fun c _ size => (300 - size).toNat) "size"
  k_with "state" => (first | exact sz_start (by assumption) | exact sz_next (by assumption) ⟨⟨by assumption, by assumption⟩, by assumption⟩ (by assumption))
  k_with "pre" => exact L8.pre10 (mk8 (by assumption) (by assumption) (by assumption) (by assumption) (by assumption) (by assumption) (by assumption)) (by assumption) (by assumption) (by assumption)
  k_with "pre2" => exact L8.pre11 (mk8 (by assumption) (by assumption) (by assumption) (by assumption) (by assumption) (by assumption) (by assumption)) (by assumption) (by assumption) (by assumption)
  k_with "le" => (first | exact (L8.lo (mk8 (by assumption) (by assumption) (by assumption) (by assumption) (by assumption) (by assumption) (by assumption))).1 | exact (L8.lo (mk8 (by assumption) (by assumption) (by assumption) (by assumption) (by assumption) (by assumption) (by assumption))).2)
  k_with "gt" => (first | exact L8.two (mk8 (by assumption) (by assumption) (by assumption) (by assumption) (by assumption) (by assumption) (by assumption)) (.inl ⟨by assumption, rfl⟩) | exact L8.two (mk8 (by assumption) (by assumption) (by assumption) (by assumption) (by assumption) (by assumption) (by assumption)) (.inr rfl))
  k_with "mul" => (first | exact IntMulOk.of_bits (L8.abits (mk8 (by assumption) (by assumption) (by assumption) (by assumption) (by assumption) (by assumption) (by assumption))) ten_bits | exact IntMulOk.of_bits (L8.bbits (mk8 (by assumption) (by assumption) (by assumption) (by assumption) (by assumption) (by assumption) (by assumption))) one_bits | exact IntMulOk.of_left (intBits_le_64 (by omega) (by omega)))
  k_steps
  all_goals exact (len8 (by assumption) (by assumption)).elim)

end
end Mine
theorem PySem.Challenge.cw_dm0270_08_holds : PySem.Challenge.rw_dm0270_08.Holds := by
  exact Mine.foo
