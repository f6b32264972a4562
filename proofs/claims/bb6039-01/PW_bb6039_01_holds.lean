import PyProof.Rows.All
import Wide.All
import OpenK.AllK
import Wide.FinOn
import PySem.Challenge.RW_bb6039_01
set_option Elab.async false
set_option maxRecDepth 100000
set_option exponentiation.threshold 3000
namespace Mine
section
open PySem PySem.W PyProof.Rows
set_option maxHeartbeats 8000000
/-! the head, once -/
open_top hd for PySem.Challenge.rw_bb6039_01
/-- the lines for a file's top rest while the defs are walked -/
theorem rest : True := by
  w_top off
  trivial
end

/-! doubles that are halves of ints -/
section
open PySem PySem.Float64

/-- the double of n/2 -/
def hf (n : Int) : UInt64 := ofBin (decide (n < 0)) n.natAbs (-1)

theorem V_inj {t t' : Nat} (h : V t = V t') : t = t' := by
  rcases Nat.lt_trichotomy t t' with l | l | l
  · have := V_lt l; omega
  · exact l
  · have := V_lt l; omega

/-- n * 2^c is a double's magnitude -/
theorem rep {n c : Nat} (hn : n < 2 ^ 53) (hc : 52 ≤ c) (hc2 : c ≤ 1500) : ∃ t, t < infMag ∧ V t = n * 2 ^ c := by
  by_cases h0 : n = 0
  · subst h0
    exact ⟨0, by decide, by unfold V; simp⟩
  · have hl : n.log2 < 53 := (Nat.log2_lt h0).mpr hn
    have h1 : 2 ^ n.log2 ≤ n := Nat.log2_self_le h0
    have h2 : n < 2 ^ (n.log2 + 1) := Nat.lt_log2_self
    generalize n.log2 = l at *
    have e1 : 2 ^ l * 2 ^ (52 - l) = 2 ^ 52 := by rw [← Nat.pow_add]; congr 1; omega
    have e2 : 2 ^ (l + 1) * 2 ^ (52 - l) = 2 ^ 53 := by rw [← Nat.pow_add]; congr 1; omega
    have g1 : 2 ^ 52 ≤ n * 2 ^ (52 - l) := by rw [← e1]; exact Nat.mul_le_mul_right _ h1
    have g2 : n * 2 ^ (52 - l) < 2 ^ 53 := by rw [← e2]; exact Nat.mul_lt_mul_of_pos_right h2 (Nat.two_pow_pos _)
    refine ⟨(c - (52 - l)) * 2 ^ 52 + n * 2 ^ (52 - l), ?_, ?_⟩
    · unfold infMag; omega
    · rw [V_at (Nat.le_of_lt g2) (.inl g1), Nat.mul_assoc, ← Nat.pow_add]
      congr 2; omega

theorem small_fin {n c : Nat} (hn : n ≤ 2 ^ 53) (hc2 : c ≤ 1500) : ¬ (2 ^ 54 - 1) * 2 ^ 2045 ≤ 2 * (n * 2 ^ c) := by
  intro h
  have h1 : n * 2 ^ c ≤ 2 ^ 53 * 2 ^ 1500 := Nat.mul_le_mul hn (Nat.pow_le_pow_right (by decide) hc2)
  have h2 : 2 * (2 ^ 53 * 2 ^ 1500) < (2 ^ 54 - 1) * 2 ^ 2045 := by decide +kernel
  omega

theorem dist_zero {a b : Nat} (h : dist a b = 0) : a = b := by unfold dist at h; omega
theorem dist_self (a : Nat) : dist a a = 0 := by unfold dist; omega

/-- rounding of what is representable -/
theorem right_exact {r : UInt64} {neg : Bool} {W D n c : Nat} (h : Right r neg W D) (hD : 0 < D) (hn : n < 2 ^ 53) (hc : 52 ≤ c) (hc2 : c ≤ 1500) (hW : W = D * (n * 2 ^ c)) :
    ∃ t, r = pack neg t ∧ t < infMag ∧ V t = n * 2 ^ c := by
  obtain ⟨t', ht', hV⟩ := rep hn hc hc2
  obtain ⟨t, rfl, hle, hinf, hnear⟩ := h
  have hlt : t < infMag := by
    rcases Nat.lt_or_ge t infMag with l | l
    · exact l
    · exfalso
      have e : t = infMag := by omega
      have := hinf.mp e
      rw [hW, show 2 * (D * (n * 2 ^ c)) = D * (2 * (n * 2 ^ c)) by ac_rfl] at this
      exact small_fin (Nat.le_of_lt hn) hc2 (Nat.le_of_mul_le_mul_left this hD)
  refine ⟨t, rfl, hlt, ?_⟩
  have h1 := (hnear hlt t').1
  rw [hV, hW, dist_mul, dist_mul, dist_self, Nat.mul_zero] at h1
  have h2 : dist (n * 2 ^ c) (V t) = 0 := by
    rcases Nat.mul_eq_zero.mp (Nat.le_zero.mp h1) with q | q
    · omega
    · exact q
  exact (dist_zero h2).symm

theorem hf_right (n : Int) : Right (hf n) (decide (n < 0)) (n.natAbs * 2 ^ 1073) 1 := by
  unfold hf ofBin
  have hpos := shift_pos n.natAbs 1 (-1) (by decide)
  have h := shift_one n.natAbs (-1) 1074 (by omega)
  rw [show ((-1 : Int) + ((1074 : Nat) : Int)).toNat = 1073 from by omega] at h
  generalize shift n.natAbs 1 (-1) = z at *
  obtain ⟨z1, z2⟩ := z
  refine ofFrac_right hpos ?_ (by decide)
  rw [Nat.mul_one]
  exact h

theorem pow1073 : (2 : Nat) ^ 1074 = 2 * 2 ^ 1073 := by rw [show 1074 = 1073 + 1 from rfl, Nat.pow_succ, Nat.mul_comm]

theorem hf_pack {n : Int} (hn : n.natAbs < 2 ^ 53) : ∃ t, hf n = pack (decide (n < 0)) t ∧ t < infMag ∧ V t = n.natAbs * 2 ^ 1073 :=
  right_exact (hf_right n) (by decide) hn (by decide) (by decide) (by rw [Nat.one_mul])

theorem hf_of_right {r : UInt64} {n : Int} {W D : Nat} (h : Right r (decide (n < 0)) W D) (hD : 0 < D) (hn : n.natAbs < 2 ^ 53) (hW : W = D * (n.natAbs * 2 ^ 1073)) : r = hf n := by
  obtain ⟨t, e1, h1, h2⟩ := right_exact h hD hn (by decide) (by decide) hW
  obtain ⟨t', e2, h3, h4⟩ := hf_pack hn
  rw [e1, e2, V_inj (h2.trans h4.symm)]

theorem hf_dec {n : Int} (hn : n.natAbs < 2 ^ 53) : ∃ m e, decode (hf n) = .fin (decide (n < 0)) m e ∧ m * 2 ^ (e + 1074).toNat = n.natAbs * 2 ^ 1073 := by
  obtain ⟨t, e1, h1, h2⟩ := hf_pack hn
  obtain ⟨m, e, hd, hv⟩ := decode_pack (decide (n < 0)) h1
  exact ⟨m, e, by rw [e1]; exact hd, by rw [hv, h2]⟩

theorem sgn_decide (n : Int) : sgn (decide (n < 0)) n.natAbs = n := by
  unfold sgn
  by_cases h : n < 0 <;> simp [h] <;> omega

theorem hf_val {n : Int} (hn : n.natAbs < 2 ^ 53) : val (hf n) = n * ((2 ^ 1073 : Nat) : Int) := by
  obtain ⟨m, e, hd, hv⟩ := hf_dec hn
  rw [val_eq hd, hv, sgn_mul, sgn_decide]

theorem hf_zero : hf 0 = zero false := by
  show ofBin (decide ((0 : Int) < 0)) (0 : Int).natAbs (-1) = _
  decide +kernel

theorem ofInt_hf {i : Int} (hi : i.natAbs < 2 ^ 52) : ofInt i = hf (2 * i) := by
  have h := ofInt_right i
  have e : decide (i < 0) = decide (2 * i < 0) := by by_cases q : i < 0 <;> simp [q] <;> omega
  rw [e] at h
  refine hf_of_right h (by decide) (by omega) ?_
  rw [Nat.one_mul, show (2 * i).natAbs = 2 * i.natAbs from by omega, pow1073]
  ac_rfl

theorem pow_posI (k : Nat) : (0 : Int) < ((2 ^ k : Nat) : Int) := Int.ofNat_lt.mpr (Nat.two_pow_pos _)

theorem add_hf {a b : Int} (ha : a.natAbs < 2 ^ 52) (hb : b.natAbs < 2 ^ 52) : add (hf a) (hf b) = hf (a + b) := by
  obtain ⟨m, e, hd, hv⟩ := hf_dec (n := a) (by omega)
  obtain ⟨k, f, hd', hv'⟩ := hf_dec (n := b) (by omega)
  have h := add_right hd hd'
  rw [hf_val (by omega), hf_val (by omega), ← Int.add_mul] at h
  by_cases h0 : a + b = 0
  · rw [h.1 (by rw [h0, Int.zero_mul]), h0, hf_zero]
    by_cases ha0 : a < 0
    · have : ¬ b < 0 := by omega
      simp [ha0, this]
    · simp [ha0]
  · have hp := pow_posI 1073
    have hne : (a + b) * ((2 ^ 1073 : Nat) : Int) ≠ 0 := Int.mul_ne_zero h0 (Int.ne_of_gt hp)
    have h2 := h.2 hne
    have e1 : decide ((a + b) * ((2 ^ 1073 : Nat) : Int) < 0) = decide (a + b < 0) := by
      by_cases q : a + b < 0
      · simp only [q, decide_true, decide_eq_true_eq]; exact Int.mul_neg_of_neg_of_pos q hp
      · simp only [q, decide_false, decide_eq_false_iff_not, Int.not_lt]; exact Int.mul_nonneg (by omega) (Int.le_of_lt hp)
    rw [e1] at h2
    refine hf_of_right h2 (by decide) (by omega) ?_
    rw [Int.natAbs_mul, Int.natAbs_natCast, Nat.one_mul]

/-- negative of a half: no zero -/
theorem sub_hf {a b : Int} (ha : a.natAbs < 2 ^ 52) (hb : b.natAbs < 2 ^ 52) : sub (hf a) (hf b) = hf (a - b) := by
  obtain ⟨m, e, hd, hv⟩ := hf_dec (n := a) (by omega)
  obtain ⟨k, f, hd', hv'⟩ := hf_dec (n := b) (by omega)
  have h := sub_right hd hd'
  rw [hf_val (by omega), hf_val (by omega), ← Int.sub_mul] at h
  by_cases h0 : a - b = 0
  · rw [h.1 (by rw [h0, Int.zero_mul]), h0, hf_zero]
    have : a = b := by omega
    subst this
    by_cases ha0 : a < 0 <;> simp [ha0]
  · have hp := pow_posI 1073
    have hne : (a - b) * ((2 ^ 1073 : Nat) : Int) ≠ 0 := Int.mul_ne_zero h0 (Int.ne_of_gt hp)
    have h2 := h.2 hne
    have e1 : decide ((a - b) * ((2 ^ 1073 : Nat) : Int) < 0) = decide (a - b < 0) := by
      by_cases q : a - b < 0
      · simp only [q, decide_true, decide_eq_true_eq]; exact Int.mul_neg_of_neg_of_pos q hp
      · simp only [q, decide_false, decide_eq_false_iff_not, Int.not_lt]; exact Int.mul_nonneg (by omega) (Int.le_of_lt hp)
    rw [e1] at h2
    refine hf_of_right h2 (by decide) (by omega) ?_
    rw [Int.natAbs_mul, Int.natAbs_natCast, Nat.one_mul]

/-- an int (positive) times a half -/
theorem mul_hf {a k : Int} (hk : 0 < k) (hb : (k * a).natAbs < 2 ^ 52) (hk2 : k.natAbs < 2 ^ 52) (ha : a.natAbs < 2 ^ 52) : mul (hf a) (hf (2 * k)) = hf (k * a) := by
  obtain ⟨m, e, hd, hv⟩ := hf_dec (n := a) (by omega)
  obtain ⟨m', f, hd', hv'⟩ := hf_dec (n := 2 * k) (by omega)
  have h := mul_right hd hd'
  rw [hf_val (by omega), hf_val (by omega)] at h
  have hk0 : ¬ 2 * k < 0 := by omega
  have e1 : (decide (a < 0) != decide (2 * k < 0)) = decide (k * a < 0) := by
    by_cases q : a < 0
    · have := Int.mul_neg_of_pos_of_neg hk q
      simp [q, hk0, this]
    · have : ¬ k * a < 0 := by have := Int.mul_nonneg (Int.le_of_lt hk) (show 0 ≤ a by omega); omega
      rw [decide_eq_false q, decide_eq_false hk0, decide_eq_false this]; rfl
  rw [e1] at h
  refine hf_of_right h (Nat.two_pow_pos _) (by omega) ?_
  rw [Int.natAbs_mul, Int.natAbs_mul, Int.natAbs_natCast, Int.natAbs_mul, Int.natAbs_mul, show (2 : Int).natAbs = 2 from rfl, pow1073]
  ac_rfl
theorem mul_comm_hf {a k : Int} (hk : 0 < k) (hb : (k * a).natAbs < 2 ^ 52) (hk2 : k.natAbs < 2 ^ 52) (ha : a.natAbs < 2 ^ 52) : mul (hf (2 * k)) (hf a) = hf (k * a) := by
  obtain ⟨m, e, hd, hv⟩ := hf_dec (n := a) (by omega)
  obtain ⟨m', f, hd', hv'⟩ := hf_dec (n := 2 * k) (by omega)
  have h := mul_right hd' hd
  rw [hf_val (by omega), hf_val (by omega)] at h
  have hk0 : ¬ 2 * k < 0 := by omega
  have e1 : (decide (2 * k < 0) != decide (a < 0)) = decide (k * a < 0) := by
    by_cases q : a < 0
    · have := Int.mul_neg_of_pos_of_neg hk q
      simp [q, hk0, this]
    · have : ¬ k * a < 0 := by have := Int.mul_nonneg (Int.le_of_lt hk) (show 0 ≤ a by omega); omega
      rw [decide_eq_false q, decide_eq_false hk0, decide_eq_false this]; rfl
  rw [e1] at h
  refine hf_of_right h (Nat.two_pow_pos _) (by omega) ?_
  rw [Int.natAbs_mul, Int.natAbs_mul, Int.natAbs_natCast, Int.natAbs_mul, Int.natAbs_mul, show (2 : Int).natAbs = 2 from rfl, pow1073]
  ac_rfl

theorem powI1074 : (2 : Int) ^ 1074 = 2 * ((2 ^ 1073 : Nat) : Int) := by
  rw [show (2 : Int) ^ 1074 = ((2 ^ 1074 : Nat) : Int) from by simp, pow1073]; simp

theorem cmpInt_hf {a i : Int} (ha : a.natAbs < 2 ^ 53) : cmpInt (hf a) i = some (compare a (2 * i)) := by
  obtain ⟨m, e, hd, hv⟩ := hf_dec ha
  rw [cmpInt_right hd, hf_val ha, powI1074]
  have hp := pow_posI 1073
  generalize ((2 ^ 1073 : Nat) : Int) = K at *
  rw [show i * (2 * K) = 2 * i * K by rw [← Int.mul_assoc, Int.mul_comm i 2]]
  congr 1
  rcases Int.lt_trichotomy a (2 * i) with h | h | h
  · rw [Int.compare_eq_lt.mpr h, Int.compare_eq_lt.mpr (Int.mul_lt_mul_of_pos_right h hp)]
  · subst h; simp
  · rw [Int.compare_eq_gt.mpr h, Int.compare_eq_gt.mpr (Int.mul_lt_mul_of_pos_right h hp)]
end
section
open PySem PySem.Float64 PySem.Flt

theorem ediv_of {z M d : Int} (hM : 0 < M) (h1 : d * M ≤ z) (h2 : z < (d + 1) * M) : z / M = d := by
  apply Int.le_antisymm
  · exact Int.le_of_lt_add_one (Int.ediv_lt_of_lt_mul hM h2)
  · exact Int.le_ediv_of_mul_le hM h1

theorem floor_val {x : UInt64} {s : Bool} {m : Nat} {e : Int} (h : decode x = .fin s m e) : floorOf s m e = val x / ((2 ^ 1074 : Nat) : Int) := by
  have he := decode_ge h
  rw [val_eq h, sgn_mul]
  unfold floorOf
  have hpow : ∀ n : Nat, (2 : Int) ^ n = ((2 ^ n : Nat) : Int) := fun n => by simp
  split
  · rename_i h0
    rw [hpow, show (e + 1074).toNat = e.toNat + 1074 from by omega, Nat.pow_add, Int.natCast_mul, ← Int.mul_assoc]
    exact (Int.mul_ediv_cancel _ (Int.ne_of_gt (pow_posI 1074))).symm
  · rename_i h0
    rw [hpow, show 2 ^ 1074 = 2 ^ (-e).toNat * 2 ^ (e + 1074).toNat from by rw [← Nat.pow_add]; congr 1; omega, Int.natCast_mul]
    rw [Int.fdiv_eq_ediv_of_nonneg _ (Int.le_of_lt (pow_posI _))]
    exact (Int.mul_ediv_mul_of_pos_left _ _ (pow_posI _)).symm

theorem fin_of_dec {x : UInt64} {s : Bool} {m : Nat} {e : Int} (h : decode x = .fin s m e) : isFinite x = true ∧ isNaN x = false ∧ isInf x = false := by
  unfold isFinite isNaN isInf
  rw [h]; exact ⟨rfl, rfl, rfl⟩

theorem floor_hf {a : Int} (ha : a.natAbs < 2 ^ 53) : toInt floorOf (hf a) = a / 2 := by
  obtain ⟨m, e, hd, hv⟩ := hf_dec ha
  rw [toInt_fin hd, floor_val hd, hf_val ha, show 2 ^ 1074 = 2 * 2 ^ 1073 from pow1073, Int.natCast_mul]
  exact Int.mul_ediv_mul_of_pos_left _ _ (pow_posI _)
theorem fin_hf {a : Int} (ha : a.natAbs < 2 ^ 53) : isFinite (hf a) = true ∧ isNaN (hf a) = false ∧ isInf (hf a) = false := by
  obtain ⟨m, e, hd, hv⟩ := hf_dec ha
  exact fin_of_dec hd

/-- the floor of a rounded quotient -/
theorem quot_core {A k v K n rem : Nat} (hk : 0 < k) (hk2 : k < 2 ^ 20) (hK : 0 < K) (hn : A * 2 ^ 20 = k * n + rem) (hrem : rem < k)
    (hd : dist (A * 2 ^ 20 * K) (k * v) ≤ rem * K) :
    A / k * (2 ^ 20 * K) ≤ v ∧ v < (A / k + 1) * (2 ^ 20 * K) ∧ (A % k = 0 → v = A / k * (2 ^ 20 * K)) ∧ (A % k ≠ 0 → A / k * (2 ^ 20 * K) < v) := by
  have hA := Nat.div_add_mod A k
  have hr := Nat.mod_lt A hk
  generalize A / k = q at *
  generalize A % k = ρ at *
  have e0 : A * 2 ^ 20 * K = k * (q * (2 ^ 20 * K)) + ρ * (2 ^ 20 * K) := by
    rw [← hA, Nat.add_mul, Nat.add_mul]
    congr 1 <;> ac_rfl
  by_cases h0 : ρ = 0
  · subst h0
    have hrem0 : rem = 0 := by
      have e1 : k * n + rem = k * (q * 2 ^ 20) := by rw [← hn, ← hA]; ac_rfl
      have e2 : (k * n + rem) % k = rem := by rw [Nat.mul_add_mod]; exact Nat.mod_eq_of_lt hrem
      rw [e1, Nat.mul_mod_right] at e2
      exact e2.symm
    subst hrem0
    have h1 : k * (q * (2 ^ 20 * K)) = k * v := by
      rw [e0] at hd
      have := dist_zero (Nat.le_zero.mp (by simpa using hd))
      simpa using this
    have h2 := Nat.eq_of_mul_eq_mul_left hk h1
    have h3 : 0 < 2 ^ 20 * K := Nat.mul_pos (by decide) hK
    refine ⟨by omega, ?_, fun _ => h2.symm, fun x => absurd rfl x⟩
    rw [← h2, Nat.add_mul]; omega
  · have b1 : 1 * (2 ^ 20 * K) ≤ ρ * (2 ^ 20 * K) := Nat.mul_le_mul_right _ (by omega)
    have b2 : (ρ + 1) * (2 ^ 20 * K) ≤ k * (2 ^ 20 * K) := Nat.mul_le_mul_right _ hr
    have b3 : (rem + 1) * K ≤ k * K := Nat.mul_le_mul_right _ hrem
    have b4 : k * K ≤ 2 ^ 20 * K := Nat.mul_le_mul_right _ (Nat.le_of_lt hk2)
    have e3 : k * ((q + 1) * (2 ^ 20 * K)) = k * (q * (2 ^ 20 * K)) + k * (2 ^ 20 * K) := by rw [Nat.add_mul, Nat.mul_add, Nat.one_mul]
    rw [Nat.add_mul] at b2 b3
    rw [e0] at hd
    unfold dist at hd
    have g : k * (q * (2 ^ 20 * K)) < k * v ∧ k * v < k * ((q + 1) * (2 ^ 20 * K)) := by
      generalize ρ * (2 ^ 20 * K) = x1 at *
      generalize k * (q * (2 ^ 20 * K)) = x2 at *
      generalize k * (2 ^ 20 * K) = x3 at *
      generalize rem * K = x4 at *
      omega
    have g1 := Nat.lt_of_mul_lt_mul_left g.1
    have g2 := Nat.lt_of_mul_lt_mul_left g.2
    exact ⟨Nat.le_of_lt g1, g2, fun x => absurd x h0, fun _ => g1⟩

theorem pow1074 : (2 : Nat) ^ 1074 = 2 ^ 20 * 2 ^ 1054 := by rw [← Nat.pow_add]

theorem quot_floor {r : UInt64} {a : Int} {k c : Nat} (h : Right r (decide (a < 0)) (a.natAbs * 2 ^ 1074 * c) (k * c)) (hk : 0 < k) (hk2 : k < 2 ^ 20) (hc : 0 < c) (ha : a.natAbs < 2 ^ 32) :
    isFinite r = true ∧ toInt floorOf r = a / (k : Int) := by
  have hA := Nat.div_add_mod (a.natAbs * 2 ^ 20) k
  have hrem := Nat.mod_lt (a.natAbs * 2 ^ 20) hk
  have hnle : a.natAbs * 2 ^ 20 / k ≤ a.natAbs * 2 ^ 20 := Nat.div_le_self _ _
  obtain ⟨t', ht', hV⟩ := rep (n := a.natAbs * 2 ^ 20 / k) (c := 1054) (by omega) (by decide) (by decide)
  generalize a.natAbs * 2 ^ 20 / k = n at *
  generalize a.natAbs * 2 ^ 20 % k = rem at *
  obtain ⟨t, rfl, hle, hinf, hnear⟩ := h
  have hlt : t < infMag := by
    rcases Nat.lt_or_ge t infMag with l | l
    · exact l
    · exfalso
      have e : t = infMag := by omega
      have h1 := hinf.mp e
      refine small_fin (n := a.natAbs) (c := 1074) (by omega) (by decide) ?_
      have h2 : c * ((2 ^ 54 - 1) * 2 ^ 2045) ≤ k * c * ((2 ^ 54 - 1) * 2 ^ 2045) := Nat.mul_le_mul_right _ (by have := Nat.mul_le_mul_right c hk; omega)
      have h3 : c * ((2 ^ 54 - 1) * 2 ^ 2045) ≤ c * (2 * (a.natAbs * 2 ^ 1074)) := by
        rw [show c * (2 * (a.natAbs * 2 ^ 1074)) = 2 * (a.natAbs * 2 ^ 1074 * c) by ac_rfl]
        exact Nat.le_trans h2 h1
      exact Nat.le_of_mul_le_mul_left h3 hc
  have hd1 := (hnear hlt t').1
  have hd : dist (a.natAbs * 2 ^ 20 * 2 ^ 1054) (k * V t) ≤ rem * 2 ^ 1054 := by
    have e1 : a.natAbs * 2 ^ 1074 * c = c * (a.natAbs * 2 ^ 20 * 2 ^ 1054) := by rw [pow1074]; ac_rfl
    rw [hV, e1, show k * c * V t = c * (k * V t) by ac_rfl, show k * c * (n * 2 ^ 1054) = c * (k * (n * 2 ^ 1054)) by ac_rfl, dist_mul, dist_mul] at hd1
    have h2 := Nat.le_of_mul_le_mul_left hd1 hc
    have h3 : dist (a.natAbs * 2 ^ 20 * 2 ^ 1054) (k * (n * 2 ^ 1054)) = rem * 2 ^ 1054 := by
      rw [← hA, Nat.add_mul, show k * n * 2 ^ 1054 = k * (n * 2 ^ 1054) by ac_rfl]
      generalize k * (n * 2 ^ 1054) = x
      generalize rem * 2 ^ 1054 = y
      unfold dist; omega
    rw [h3] at h2
    exact h2
  have core := quot_core (A := a.natAbs) (k := k) (v := V t) (K := 2 ^ 1054) hk hk2 (Nat.two_pow_pos _) hA.symm hrem hd
  obtain ⟨m, e, hdec, hv⟩ := decode_pack (decide (a < 0)) hlt
  refine ⟨(fin_of_dec hdec).1, ?_⟩
  rw [toInt_fin hdec, floor_val hdec, val_pack _ hlt, pow1074]
  have hM : 0 < 2 ^ 20 * 2 ^ 1054 := Nat.mul_pos (by decide) (Nat.two_pow_pos _)
  obtain ⟨M, hMd⟩ : ∃ M, 2 ^ 20 * 2 ^ 1054 = M := ⟨_, rfl⟩
  rw [hMd] at core hM ⊢
  generalize V t = v at *
  have hM' : (0 : Int) < (M : Int) := Int.ofNat_lt.mpr hM
  obtain ⟨c1, c2, c3, c4⟩ := core
  have hdm := Nat.div_add_mod a.natAbs k
  have hml := Nat.mod_lt a.natAbs hk
  have hkI : (0 : Int) < (k : Int) := Int.ofNat_lt.mpr hk
  generalize a.natAbs / k = q at *
  generalize a.natAbs % k = ρ at *
  have c1' : ((q * M : Nat) : Int) ≤ (v : Int) := Int.ofNat_le.mpr c1
  have c2' : (v : Int) < (((q + 1) * M : Nat) : Int) := Int.ofNat_lt.mpr c2
  have hdm' : (k : Int) * (q : Int) + (ρ : Int) = (a.natAbs : Int) := by rw [← hdm]; simp
  rw [Int.natCast_mul] at c1' c2'
  unfold sgn
  by_cases hneg : a < 0
  · rw [decide_eq_true hneg, if_pos rfl]
    by_cases hρ : ρ = 0
    · have c3' := c3 hρ
      have e1 : -(v : Int) / (M : Int) = -(q : Int) := ediv_of hM' (by rw [c3', Int.natCast_mul, Int.neg_mul]; exact Int.le_refl _) (by rw [c3', Int.natCast_mul, Int.add_mul, Int.neg_mul]; omega)
      rw [e1]
      refine (ediv_of hkI ?_ ?_).symm
      · rw [Int.neg_mul, Int.mul_comm]; omega
      · rw [Int.add_mul, Int.neg_mul, Int.mul_comm]; omega
    · have c4' : (((q * M : Nat)) : Int) < (v : Int) := Int.ofNat_lt.mpr (c4 hρ)
      rw [Int.natCast_mul] at c4'
      have e1 : -(v : Int) / (M : Int) = -(q : Int) - 1 := by
        refine ediv_of hM' ?_ ?_
        · rw [Int.sub_mul, Int.neg_mul]
          rw [Int.natCast_add, Int.add_mul] at c2'
          omega
        · rw [show -(q : Int) - 1 + 1 = -(q : Int) by omega, Int.neg_mul]; omega
      rw [e1]
      refine (ediv_of hkI ?_ ?_).symm
      · rw [Int.sub_mul, Int.neg_mul, Int.mul_comm]; omega
      · rw [show -(q : Int) - 1 + 1 = -(q : Int) by omega, Int.neg_mul, Int.mul_comm]; omega
  · rw [decide_eq_false hneg, if_neg (by decide)]
    have e1 : (v : Int) / (M : Int) = (q : Int) := ediv_of hM' c1' (by rw [Int.natCast_add] at c2'; exact c2')
    rw [e1]
    refine (ediv_of hkI ?_ ?_).symm
    · rw [Int.mul_comm]; omega
    · rw [Int.add_mul, Int.mul_comm]; omega

/-- float / int, then floor -/
theorem div_floor {a : Int} {k : Int} (hk : 0 < k) (hk2 : k < 2 ^ 20) (ha : a.natAbs < 2 ^ 32) :
    isFinite (div (hf (2 * a)) (ofInt k)) = true ∧ toInt floorOf (div (hf (2 * a)) (ofInt k)) = a / k := by
  rw [ofInt_hf (by omega)]
  obtain ⟨m, e, hd, hv⟩ := hf_dec (n := 2 * a) (by omega)
  obtain ⟨m', f, hd', hv'⟩ := hf_dec (n := 2 * k) (by omega)
  have hm' : m' ≠ 0 := by
    rintro rfl
    rw [Nat.zero_mul] at hv'
    rcases Nat.mul_eq_zero.mp hv'.symm with q | q
    · omega
    · exact absurd q (Nat.ne_of_gt (Nat.two_pow_pos _))
  have h := div_right hd hd' hm'
  rw [hf_val (by omega), hf_val (by omega)] at h
  have e1 : (decide (2 * a < 0) != decide (2 * k < 0)) = decide (a < 0) := by
    rw [decide_eq_false (show ¬ 2 * k < 0 by omega)]
    by_cases q : a < 0
    · rw [decide_eq_true q, decide_eq_true (show 2 * a < 0 by omega)]; rfl
    · rw [decide_eq_false q, decide_eq_false (show ¬ 2 * a < 0 by omega)]; rfl
  rw [e1, Int.natAbs_mul, Int.natAbs_mul, Int.natAbs_mul, Int.natAbs_mul, Int.natAbs_natCast, show (2 : Int).natAbs = 2 from rfl] at h
  have e2 : 2 * a.natAbs * 2 ^ 1073 * 2 ^ 1074 = a.natAbs * 2 ^ 1074 * 2 ^ 1074 := by rw [pow1073]; ac_rfl
  have e3 : 2 * k.natAbs * 2 ^ 1073 = k.natAbs * 2 ^ 1074 := by rw [pow1073]; ac_rfl
  rw [e2, e3] at h
  have := quot_floor h (by omega) (by omega) (Nat.two_pow_pos _) ha
  rw [show ((k.natAbs : Nat) : Int) = k by omega] at this
  exact this

/-- int / int, then floor -/
theorem divi_floor {a k : Int} (hk : 0 < k) (hk2 : k < 2 ^ 20) (ha : a.natAbs < 2 ^ 32) :
    isFinite (ofFrac (decide (a < 0) != decide (k < 0)) a.natAbs k.natAbs) = true ∧ toInt floorOf (ofFrac (decide (a < 0) != decide (k < 0)) a.natAbs k.natAbs) = a / k := by
  have e1 : (decide (a < 0) != decide (k < 0)) = decide (a < 0) := by rw [decide_eq_false (show ¬ k < 0 by omega)]; cases decide (a < 0) <;> rfl
  rw [e1]
  have h := ofFrac_right (neg := decide (a < 0)) (n := a.natAbs) (d := k.natAbs) (W := a.natAbs * 2 ^ 1074 * 1) (D := k.natAbs * 1) (by omega) (by ac_rfl) (by omega)
  have := quot_floor h (by omega) (by omega) (by decide) ha
  rw [show ((k.natAbs : Nat) : Int) = k by omega] at this
  exact this
end
section
open PySem PySem.Float64 PySem.Flt

theorem cmp_hf {a b : Int} (ha : a.natAbs < 2 ^ 53) (hb : b.natAbs < 2 ^ 53) : cmp (hf a) (hf b) = some (compare a b) := by
  obtain ⟨m, e, hd, hv⟩ := hf_dec ha
  obtain ⟨m', f, hd', hv'⟩ := hf_dec hb
  rw [cmp_right hd hd', hf_val ha, hf_val hb]
  have hp := pow_posI 1073
  generalize ((2 ^ 1073 : Nat) : Int) = K at *
  congr 1
  rcases Int.lt_trichotomy a b with h | h | h
  · rw [Int.compare_eq_lt.mpr h, Int.compare_eq_lt.mpr (Int.mul_lt_mul_of_pos_right h hp)]
  · subst h; simp
  · rw [Int.compare_eq_gt.mpr h, Int.compare_eq_gt.mpr (Int.mul_lt_mul_of_pos_right h hp)]

theorem cmp_lt_beq {a b : Int} : ((some (compare a b) : Option Ordering) == some .lt) = decide (a < b) := by
  rcases Int.lt_trichotomy a b with h | h | h
  · rw [Int.compare_eq_lt.mpr h, decide_eq_true h]; rfl
  · subst h; simp
  · rw [Int.compare_eq_gt.mpr h, decide_eq_false (by omega)]; rfl
theorem cmp_gt_beq {a b : Int} : ((some (compare a b) : Option Ordering) == some .gt) = decide (b < a) := by
  rcases Int.lt_trichotomy a b with h | h | h
  · rw [Int.compare_eq_lt.mpr h, decide_eq_false (by omega)]; rfl
  · subst h; simp
  · rw [Int.compare_eq_gt.mpr h, decide_eq_true h]; rfl
theorem cmp_eq_beq {a b : Int} : ((some (compare a b) : Option Ordering) == some .eq) = decide (a = b) := by
  rcases Int.lt_trichotomy a b with h | h | h
  · rw [Int.compare_eq_lt.mpr h, decide_eq_false (by omega)]; rfl
  · subst h; simp
  · rw [Int.compare_eq_gt.mpr h, decide_eq_false (by omega)]; rfl

theorem lt_hf {a b : Int} (ha : a.natAbs < 2 ^ 53) (hb : b.natAbs < 2 ^ 53) : lt (hf a) (hf b) = decide (a < b) := by
  unfold lt; rw [cmp_hf ha hb, cmp_lt_beq]

theorem isZero_hf {n : Int} (hn : n.natAbs < 2 ^ 53) (h0 : n ≠ 0) : isZero (hf n) = false := by
  obtain ⟨m, e, hd, hv⟩ := hf_dec hn
  unfold isZero
  rw [hd]
  split
  · rename_i h
    cases h
    rw [Nat.zero_mul] at hv
    rcases Nat.mul_eq_zero.mp hv.symm with q | q
    · omega
    · exact absurd q (Nat.ne_of_gt (Nat.two_pow_pos _))
  · rfl

theorem fmod_right {x y : UInt64} {a b : Bool} {m k : Nat} {e f : Int} (hx : decode x = .fin a m e) (hy : decode y = .fin b k f) (hk : k ≠ 0) :
    Right (fmod x y) a ((val x).natAbs % (val y).natAbs) 1 := by
  have he := decode_ge hx
  have hf' := decode_ge hy
  have hmod : fmod x y = ofBin a ((m * 2 ^ (e - min e f).toNat) % (k * 2 ^ (f - min e f).toNat)) (min e f) := by
    unfold fmod
    rw [hx, hy]
    simp only
    rw [if_neg (by simpa using hk)]
    rfl
  have e1 : (val x).natAbs = m * 2 ^ (e - min e f).toNat * 2 ^ (min e f + 1074).toNat := by
    rw [val_natAbs hx, Nat.mul_assoc, ← Nat.pow_add]; congr 2; omega
  have e2 : (val y).natAbs = k * 2 ^ (f - min e f).toNat * 2 ^ (min e f + 1074).toNat := by
    rw [val_natAbs hy, Nat.mul_assoc, ← Nat.pow_add]; congr 2; omega
  rw [hmod, e1, e2, Nat.mul_mod_mul_right]
  generalize m * 2 ^ (e - min e f).toNat % (k * 2 ^ (f - min e f).toNat) = z
  unfold ofBin
  have hpos := shift_pos z 1 (min e f) (by decide)
  have h := shift_one z (min e f) 1074 (by omega)
  generalize shift z 1 (min e f) = u at *
  obtain ⟨u1, u2⟩ := u
  refine ofFrac_right hpos ?_ (by decide)
  rw [Nat.mul_one]
  exact h

theorem signBit_hf {n : Int} (hn : n.natAbs < 2 ^ 53) (h0 : 0 ≤ n) : signBit (hf n) = false := by
  obtain ⟨t, e1, h1, h2⟩ := hf_pack hn
  rw [e1, decide_eq_false (by omega)]
  have ht : t < 2 ^ 63 := by unfold infMag at h1; omega
  unfold signBit
  rw [pack_toNat false ht]
  simp only [Bool.false_eq_true, if_false, Nat.zero_add]
  rw [show t / 2 ^ 63 = 0 from Nat.div_eq_of_lt ht]
  rfl

theorem right_zero {r : UInt64} {neg : Bool} (h : Right r neg 0 1) : r = zero neg := by
  obtain ⟨t, e, h1, h2⟩ := right_exact (n := 0) (c := 52) h (by decide) (by decide) (by decide) (by decide) (by simp)
  have : t = 0 := V_inj (by rw [h2, V_zero])
  rw [e, this]; rfl

theorem mod_hf {a k : Int} (hk : 0 < k) (hk2 : k < 2 ^ 20) (ha : a.natAbs < 2 ^ 32) : (divmod (hf (2 * a)) (ofInt k)).2 = hf (2 * (a % k)) := by
  rw [ofInt_hf (by omega)]
  obtain ⟨m, e, hd, hv⟩ := hf_dec (n := 2 * a) (by omega)
  obtain ⟨m', f, hd', hv'⟩ := hf_dec (n := 2 * k) (by omega)
  have hm' : m' ≠ 0 := by
    rintro rfl
    rw [Nat.zero_mul] at hv'
    rcases Nat.mul_eq_zero.mp hv'.symm with q | q
    · omega
    · exact absurd q (Nat.ne_of_gt (Nat.two_pow_pos _))
  have h := fmod_right hd hd' hm'
  rw [hf_val (by omega), hf_val (by omega), Int.natAbs_mul, Int.natAbs_mul (2 * k), Int.natAbs_natCast, Nat.mul_mod_mul_right] at h
  have e0 : (2 * a).natAbs % (2 * k).natAbs = 2 * (a.natAbs % k.natAbs) := by
    rw [Int.natAbs_mul, Int.natAbs_mul, show (2 : Int).natAbs = 2 from rfl, Nat.mul_mod_mul_left]
  rw [e0] at h
  have hml := Nat.mod_lt a.natAbs (show k.natAbs > 0 by omega)
  have hdm := Nat.div_add_mod a.natAbs k.natAbs
  have hsgn : decide (2 * a < 0) = decide (a < 0) := by
    by_cases q : a < 0
    · rw [decide_eq_true q, decide_eq_true (by omega)]
    · rw [decide_eq_false q, decide_eq_false (by omega)]
  rw [hsgn] at h
  unfold divmod
  simp only
  generalize hq : a.natAbs / k.natAbs = q at *
  generalize hρ : a.natAbs % k.natAbs = ρ at *
  have hkk : ((k.natAbs : Nat) : Int) = k := by omega
  have hdm' : k * (q : Int) + (ρ : Int) = (a.natAbs : Int) := by
    have : (((k.natAbs * q + ρ : Nat)) : Int) = (a.natAbs : Int) := by rw [hdm]
    rw [Int.natCast_add, Int.natCast_mul, hkk] at this; exact this
  by_cases h0 : ρ = 0
  · subst h0
    have hz := right_zero (by simpa using h)
    rw [hz, if_pos (by cases decide (a < 0) <;> decide +kernel)]
    have e1 : a % k = 0 := by
      apply Int.emod_eq_zero_of_dvd
      by_cases hn : a < 0
      · exact ⟨-(q : Int), by rw [Int.mul_neg]; omega⟩
      · exact ⟨(q : Int), by omega⟩
    rw [e1]
    show copysign (zero false) (hf (2 * k)) = hf (2 * 0)
    unfold copysign
    rw [signBit_hf (by omega) (by omega)]
    decide +kernel
  · by_cases hn : a < 0
    · have e1 : a % k = k - ρ := by
        have : a = k * (-(q : Int) - 1) + (k - ρ) := by rw [Int.mul_sub, Int.mul_neg]; omega
        rw [this, Int.mul_add_emod_self_left]
        exact Int.emod_eq_of_lt (by omega) (by omega)
      have hm : fmod (hf (2 * a)) (hf (2 * k)) = hf (-(2 * (ρ : Int))) := by
        refine hf_of_right (n := -(2 * (ρ : Int))) (by rw [decide_eq_true (show -(2 * (ρ : Int)) < 0 by omega)]; rw [decide_eq_true hn] at h; exact h) (by decide) (by omega) ?_
        rw [Nat.one_mul, show (-(2 * (ρ : Int))).natAbs = 2 * ρ by omega]
      rw [hm, if_neg (by rw [isZero_hf (by omega) (by omega)]; decide)]
      have e2 : (lt (hf (2 * k)) (zero false) != lt (hf (-(2 * (ρ : Int)))) (zero false)) = true := by
        rw [← hf_zero, lt_hf (by omega) (by omega), lt_hf (by omega) (by omega), decide_eq_false (by omega), decide_eq_true (by omega)]; rfl
      rw [if_pos e2, e1]
      show add (hf (-(2 * (ρ : Int)))) (hf (2 * k)) = _
      rw [add_hf (by omega) (by omega)]
      congr 1; omega
    · have e1 : a % k = ρ := by
        have : a = k * (q : Int) + ρ := by omega
        rw [this, Int.mul_add_emod_self_left]
        exact Int.emod_eq_of_lt (by omega) (by omega)
      have hm : fmod (hf (2 * a)) (hf (2 * k)) = hf (2 * (ρ : Int)) := by
        refine hf_of_right (n := 2 * (ρ : Int)) (by rw [decide_eq_false (show ¬ 2 * (ρ : Int) < 0 by omega)]; rw [decide_eq_false hn] at h; exact h) (by decide) (by omega) ?_
        rw [Nat.one_mul, show (2 * (ρ : Int)).natAbs = 2 * ρ by omega]
      rw [hm, if_neg (by rw [isZero_hf (by omega) (by omega)]; decide)]
      have e2 : (lt (hf (2 * k)) (zero false) != lt (hf (2 * (ρ : Int))) (zero false)) = false := by
        rw [← hf_zero, lt_hf (by omega) (by omega), lt_hf (by omega) (by omega), decide_eq_false (by omega), decide_eq_false (by omega)]; rfl
      rw [if_neg (by rw [e2]; decide), e1]

theorem epoch_hf : (4700144277945057280 : UInt64) = hf 3442851 := by decide +kernel
theorem epochP_hf : (4701118784549683200 : UInt64) = hf 3896641 := by decide +kernel
theorem half_hf : (4602678819172646912 : UInt64) = hf 1 := by decide +kernel

theorem int_fin {a : Int} (ha : a.natAbs < 2 ^ 53) : isFinite (hf a) = true := (fin_hf ha).1
/-- a half over the tropical year is finite -/
theorem trop_fin {a : Int} (ha : a.natAbs < 2 ^ 40) : isFinite (div (hf a) 4645133024903820211) = true := by
  obtain ⟨m, e, hd, hv⟩ := hf_dec (n := a) (by omega)
  have hd' : decode 4645133024903820211 = .fin false 6425408712209331 (-44) := by
    have : (4645133024903820211 : UInt64).toNat = 4645133024903820211 := by decide
    unfold decode; rw [this]; rfl
  have h := div_right hd hd' (by decide)
  rw [hf_val (by omega), val_eq hd'] at h
  obtain ⟨t, ht, hle, hinf, hnear⟩ := h
  have hlt : t < infMag := by
    rcases Nat.lt_or_ge t infMag with l | l
    · exact l
    · exfalso
      have e : t = infMag := by omega
      have h1 := hinf.mp e
      have h2 : (a * ((2 ^ 1073 : Nat) : Int)).natAbs ≤ 2 ^ 40 * 2 ^ 1073 := by
        rw [Int.natAbs_mul, Int.natAbs_natCast]; exact Nat.mul_le_mul_right _ (by omega)
      have h3 : 2 * ((a * ((2 ^ 1073 : Nat) : Int)).natAbs * 2 ^ 1074) ≤ 2 * (2 ^ 40 * 2 ^ 1073 * 2 ^ 1074) := Nat.mul_le_mul_left _ (Nat.mul_le_mul_right _ h2)
      have h4 := Nat.le_trans h1 h3
      revert h4
      decide +kernel
  obtain ⟨m2, e2, hdec, _⟩ := decode_pack (decide (a < 0) != false) hlt
  rw [ht]
  exact (fin_of_dec hdec).1
end

/-! the plain law: years and rows -/
section
def leapB (y : Int) : Bool := decide (y % 4 = 0) && (decide (y % 100 ≠ 0) || decide (y % 400 = 0))
def jan (y : Int) : Int := 1721426 + 146097 * ((y - 1) / 400) + 365 * ((y - 1) % 400) + ((y - 1) % 400) / 4 - ((y - 1) % 400) / 100
theorem jan_alt (y : Int) : jan y = 1721426 + 365 * (y - 1) + (y - 1) / 4 - (y - 1) / 100 + (y - 1) / 400 := by unfold jan; omega
theorem jan_step (y : Int) : jan y + 365 ≤ jan (y + 1) ∧ jan (y + 1) ≤ jan y + 366 := by rw [jan_alt, jan_alt]; omega
def yearOf (D : Int) : Int :=
  400 * (D / 146097) + 100 * (D % 146097 / 36524) + 4 * (D % 146097 % 36524 / 1461) + D % 146097 % 36524 % 1461 / 365 + (if D % 146097 / 36524 = 4 ∨ D % 146097 % 36524 % 1461 / 365 = 4 then 0 else 1)
theorem yearOf_spec (D : Int) : jan (yearOf D) ≤ D + 1721426 ∧ D + 1721426 < jan (yearOf D + 1) := by
  have h1 := Int.mul_ediv_add_emod D 146097
  have h2 := Int.emod_nonneg D (b := 146097) (by decide)
  have h3 := Int.emod_lt_of_pos D (b := 146097) (by decide)
  unfold yearOf
  generalize D / 146097 = qc at *
  generalize D % 146097 = dqc at *
  have h4 := Int.mul_ediv_add_emod dqc 36524
  have h5 := Int.emod_nonneg dqc (b := 36524) (by decide)
  have h6 := Int.emod_lt_of_pos dqc (b := 36524) (by decide)
  have h7 : 0 ≤ dqc / 36524 ∧ dqc / 36524 ≤ 4 := by omega
  generalize dqc / 36524 = cent at *
  generalize dqc % 36524 = dcent at *
  have h8 := Int.mul_ediv_add_emod dcent 1461
  have h9 := Int.emod_nonneg dcent (b := 1461) (by decide)
  have h10 := Int.emod_lt_of_pos dcent (b := 1461) (by decide)
  have h11 : 0 ≤ dcent / 1461 ∧ dcent / 1461 ≤ 24 := by omega
  generalize dcent / 1461 = quad at *
  generalize dcent % 1461 = dquad at *
  have h12 : 0 ≤ dquad / 365 ∧ dquad / 365 ≤ 4 := by omega
  have h13 := Int.mul_ediv_add_emod dquad 365
  have h14 := Int.emod_nonneg dquad (b := 365) (by decide)
  have h15 := Int.emod_lt_of_pos dquad (b := 365) (by decide)
  generalize dquad / 365 = yi at *
  generalize dquad % 365 = rest at *
  by_cases hc : cent = 4
  · have e : 400 * qc + 100 * cent + 4 * quad + yi + (if cent = 4 ∨ yi = 4 then 0 else 1) = 400 * qc + 399 + 1 := by rw [if_pos (.inl hc)]; omega
    rw [e, jan_alt, jan_alt]
    have f1 : (400 * qc + 399 + 1 - 1) / 4 = 100 * qc + 99 := by omega
    have f2 : (400 * qc + 399 + 1 - 1) / 100 = 4 * qc + 3 := by omega
    have f3 : (400 * qc + 399 + 1 - 1) / 400 = qc := by omega
    have f4 : (400 * qc + 399 + 1 + 1 - 1) / 4 = 100 * qc + 100 := by omega
    have f5 : (400 * qc + 399 + 1 + 1 - 1) / 100 = 4 * qc + 4 := by omega
    have f6 : (400 * qc + 399 + 1 + 1 - 1) / 400 = qc + 1 := by omega
    rw [f1, f2, f3, f4, f5, f6]
    omega
  · by_cases hy : yi = 4
    · have e : 400 * qc + 100 * cent + 4 * quad + yi + (if cent = 4 ∨ yi = 4 then 0 else 1) = 400 * qc + 100 * cent + 4 * quad + 4 := by rw [if_pos (.inr hy)]; omega
      rw [e, jan_alt, jan_alt]
      have f1 : (400 * qc + 100 * cent + 4 * quad + 4 - 1) / 4 = 100 * qc + 25 * cent + quad := by omega
      have f2 : (400 * qc + 100 * cent + 4 * quad + 4 - 1) / 100 = 4 * qc + cent := by omega
      have f3 : (400 * qc + 100 * cent + 4 * quad + 4 - 1) / 400 = qc := by omega
      have f4 : (400 * qc + 100 * cent + 4 * quad + 4 + 1 - 1) / 4 = 100 * qc + 25 * cent + quad + 1 := by omega
      have f5 : (400 * qc + 100 * cent + 4 * quad + 4 + 1 - 1) / 100 = 4 * qc + cent := by omega
      have f6 : (400 * qc + 100 * cent + 4 * quad + 4 + 1 - 1) / 400 = qc := by omega
      rw [f1, f2, f3, f4, f5, f6]
      omega
    · have e : 400 * qc + 100 * cent + 4 * quad + yi + (if cent = 4 ∨ yi = 4 then 0 else 1) = 400 * qc + 100 * cent + 4 * quad + yi + 1 := by rw [if_neg (by omega)]
      rw [e]
      have g := (jan_step (400 * qc + 100 * cent + 4 * quad + yi + 1)).1
      have f0 : jan (400 * qc + 100 * cent + 4 * quad + yi + 1) = 1721426 + 146097 * qc + 36524 * cent + 1461 * quad + 365 * yi := by
        rw [jan_alt]
        have f1 : (400 * qc + 100 * cent + 4 * quad + yi + 1 - 1) / 4 = 100 * qc + 25 * cent + quad := by omega
        have f2 : (400 * qc + 100 * cent + 4 * quad + yi + 1 - 1) / 100 = 4 * qc + cent := by omega
        have f3 : (400 * qc + 100 * cent + 4 * quad + yi + 1 - 1) / 400 = qc := by omega
        rw [f1, f2, f3]
        omega
      omega

/-- the row's law -/
structure RowLaw (late : Int) (row : Int → Int) : Prop where
  l0 : 0 ≤ late
  l1 : late ≤ 20
  at' : ∀ y, jan (y + late) ≤ row y ∧ row y < jan (y + late) + 365

theorem RowLaw.step {late : Int} {row : Int → Int} (R : RowLaw late row) (y : Int) : row y < row (y + 1) := by
  have a := R.at' y
  have b := R.at' (y + 1)
  have c := (jan_step (y + late)).1
  rw [show y + 1 + late = y + late + 1 by omega] at b
  omega
theorem RowLaw.mono {late : Int} {row : Int → Int} (R : RowLaw late row) (y : Int) (n : Nat) : row y + n ≤ row (y + n) := by
  induction n with
  | zero => simp
  | succ k ih => have := R.step (y + k); rw [show y + ((k + 1 : Nat) : Int) = y + k + 1 by omega]; omega
theorem RowLaw.le {late : Int} {row : Int → Int} (R : RowLaw late row) {y z : Int} (h : y ≤ z) : row y ≤ row z := by
  have := R.mono y (z - y).toNat
  rw [show y + (((z - y).toNat : Nat) : Int) = z by omega] at this
  omega
/-- one place only -/
theorem RowLaw.uniq {late : Int} {row : Int → Int} (R : RowLaw late row) {a g g' : Int} (h1 : 2 * row g ≤ a) (h2 : a < 2 * row (g + 1)) (h3 : 2 * row g' ≤ a) (h4 : a < 2 * row (g' + 1)) : g = g' := by
  rcases Int.lt_trichotomy g g' with h | h | h
  · have := R.le (show g + 1 ≤ g' by omega); omega
  · exact h
  · have := R.le (show g' + 1 ≤ g by omega); omega
theorem jan_bound {y : Int} (h : -2000000 ≤ y) (h2 : y ≤ 2000000) : -1000000000 ≤ jan y ∧ jan y ≤ 1000000000 := by rw [jan_alt]; omega
theorem jan_add (y : Int) (n : Nat) : jan y + 365 * n ≤ jan (y + n) := by
  induction n with
  | zero => simp
  | succ k ih => have := (jan_step (y + k)).1; rw [show y + ((k + 1 : Nat) : Int) = y + k + 1 by omega]; omega
theorem jan_le {y z : Int} (h : y ≤ z) : jan y + 365 * (z - y) ≤ jan z := by
  have := jan_add y (z - y).toNat
  rw [show y + (((z - y).toNat : Nat) : Int) = z by omega] at this
  omega
theorem jan_back {y z : Int} (h : jan y < jan (z + 1)) : y ≤ z := by
  rcases Int.lt_or_le z y with l | l
  · have := jan_le (show z + 1 ≤ y by omega); omega
  · exact l
end

/-! rules of the walk for halves -/
section
open PySem PySem.W PyProof.Rows PySem.Calls

theorem fitB {n : Int} (h : -1000000000000 ≤ n ∧ n ≤ 1000000000000) : n.natAbs < 2 ^ 1023 :=
  Nat.lt_of_lt_of_le (show n.natAbs < 2 ^ 50 by omega) (Nat.pow_le_pow_right (by decide) (by decide))

section
variable {prog : Program} {w : World} {A : Around} {E : Value → Shared → Prop} {s : Shared} {Q : Value → Shared → Prop} {x y : UInt64} {a b c n : Int} {t u : Tok}

theorem w_sub_if (hx : x = hf b) (hn : -1000000000000 ≤ n ∧ n ≤ 1000000000000) (hb : -1000000000000 ≤ b ∧ b ≤ 1000000000000) (he : 2 * n - b = c)
    (h : Q (.float (hf c) s.toks) { s with toks := s.toks + 1 }) : wpAny (model prog w) A (binaryOp .Sub (.int n u) (.float x t)) Q E s := by
  refine sub_if_fits (fitB hn) ?_
  rw [hx, ofInt_hf (by omega), sub_hf (by omega) (by omega), he]; exact h
theorem w_sub_fi (hx : x = hf a) (hn : -1000000000000 ≤ n ∧ n ≤ 1000000000000) (hb : -1000000000000 ≤ a ∧ a ≤ 1000000000000) (he : a - 2 * n = c)
    (h : Q (.float (hf c) s.toks) { s with toks := s.toks + 1 }) : wpAny (model prog w) A (binaryOp .Sub (.float x t) (.int n u)) Q E s := by
  refine sub_fi_fits (fitB hn) ?_
  rw [hx, ofInt_hf (by omega), sub_hf (by omega) (by omega), he]; exact h
theorem w_sub_ff (hx : x = hf a) (hy : y = hf b) (hn : -1000000000000 ≤ a ∧ a ≤ 1000000000000) (hb : -1000000000000 ≤ b ∧ b ≤ 1000000000000) (he : a - b = c)
    (h : Q (.float (hf c) s.toks) { s with toks := s.toks + 1 }) : wpAny (model prog w) A (binaryOp .Sub (.float x t) (.float y u)) Q E s := by
  refine sub_float ?_
  rw [hx, hy, sub_hf (by omega) (by omega), he]; exact h
theorem w_add_if (hx : x = hf b) (hn : -1000000000000 ≤ n ∧ n ≤ 1000000000000) (hb : -1000000000000 ≤ b ∧ b ≤ 1000000000000) (he : 2 * n + b = c)
    (h : Q (.float (hf c) s.toks) { s with toks := s.toks + 1 }) : wpAny (model prog w) A (binaryOp .Add (.int n u) (.float x t)) Q E s := by
  refine add_if_fits (fitB hn) ?_
  rw [hx, ofInt_hf (by omega), add_hf (by omega) (by omega), he]; exact h
theorem w_add_fi (hx : x = hf a) (hn : -1000000000000 ≤ n ∧ n ≤ 1000000000000) (hb : -1000000000000 ≤ a ∧ a ≤ 1000000000000) (he : a + 2 * n = c)
    (h : Q (.float (hf c) s.toks) { s with toks := s.toks + 1 }) : wpAny (model prog w) A (binaryOp .Add (.float x t) (.int n u)) Q E s := by
  refine add_fi_fits (fitB hn) ?_
  rw [hx, ofInt_hf (by omega), add_hf (by omega) (by omega), he]; exact h
theorem w_mul_fi (hx : x = hf a) (hn : 0 < n ∧ n ≤ 1000) (hb : -1000000000000 ≤ a ∧ a ≤ 1000000000000) (he : n * a = c)
    (h : Q (.float (hf c) s.toks) { s with toks := s.toks + 1 }) : wpAny (model prog w) A (binaryOp .Mult (.float x t) (.int n u)) Q E s := by
  refine mul_fi_fits (fitB (by omega)) ?_
  have hna : (n * a).natAbs < 2 ^ 52 := by
    rw [Int.natAbs_mul]
    have := Nat.mul_le_mul (show n.natAbs ≤ 1000 by omega) (show a.natAbs ≤ 1000000000000 by omega)
    omega
  rw [hx, ofInt_hf (by omega), mul_hf hn.1 hna (by omega) (by omega), he]; exact h
theorem w_mul_if (hx : x = hf a) (hn : 0 < n ∧ n ≤ 1000) (hb : -1000000000000 ≤ a ∧ a ≤ 1000000000000) (he : n * a = c)
    (h : Q (.float (hf c) s.toks) { s with toks := s.toks + 1 }) : wpAny (model prog w) A (binaryOp .Mult (.int n u) (.float x t)) Q E s := by
  refine mul_if_fits (fitB (by omega)) ?_
  have hna : (n * a).natAbs < 2 ^ 52 := by
    rw [Int.natAbs_mul]
    have := Nat.mul_le_mul (show n.natAbs ≤ 1000 by omega) (show a.natAbs ≤ 1000000000000 by omega)
    omega
  rw [hx, ofInt_hf (by omega), mul_comm_hf hn.1 hna (by omega) (by omega), he]; exact h

/-- a float over an int, still to be floored: the quotient is told by the two -/
def qf (a k : Int) : UInt64 := Float64.div (hf (2 * a)) (Float64.ofInt k)
def qi (a k : Int) : UInt64 := Float64.ofFrac (decide (a < 0) != decide (k < 0)) a.natAbs k.natAbs
theorem notInf_ofInt {n : Int} (h : -1000000000000 ≤ n ∧ n ≤ 1000000000000) : ¬ Float64.isInf (Float64.ofInt n) = true := by
  rw [ofInt_hf (by omega), (fin_hf (by omega)).2.2]; decide
theorem notZero_ofInt {n : Int} (h : -1000000000000 ≤ n ∧ n ≤ 1000000000000) (h0 : n ≠ 0) : ¬ Float64.isZero (Float64.ofInt n) = true := by
  rw [ofInt_hf (by omega), isZero_hf (by omega) (by omega)]; decide
theorem w_div_fi (hx : x = hf a) (he : a = 2 * b) (hn : 0 < n ∧ n < 1000000)
    (h : Q (.float (qf b n) s.toks) { s with toks := s.toks + 1 }) : wpAny (model prog w) A (binaryOp .Div (.float x t) (.int n u)) Q E s := by
  refine AutoFloatOps.truediv_fi_2 (notInf_ofInt (by omega)) (notZero_ofInt (by omega) (by omega)) ?_
  rw [hx, he]; exact h
theorem w_mod_fi (hx : x = hf a) (he : a = 2 * b) (hn : 0 < n ∧ n < 1000000) (hb : -4000000000 ≤ b ∧ b ≤ 4000000000)
    (h : Q (.float (hf (2 * (b % n))) s.toks) { s with toks := s.toks + 1 }) : wpAny (model prog w) A (binaryOp .Mod (.float x t) (.int n u)) Q E s := by
  refine AutoFloatOps.mod_fi_2 (notInf_ofInt (by omega)) (notZero_ofInt (by omega) (by omega)) ?_
  rw [hx, he, mod_hf hn.1 (by omega) (by omega)]; exact h
theorem w_div_ii {k : Int} (hk : 0 < k ∧ k < 1000000) (ha : -4000000000 ≤ a ∧ a ≤ 4000000000)
    (h : Q (.float (qi a k) s.toks) { s with toks := s.toks + 1 }) : wpAny (model prog w) A (binaryOp .Div (.int a t) (.int k u)) Q E s := by
  have hf := (divi_floor (a := a) hk.1 (by omega) (by omega)).1
  refine AutoIntOps.truediv_2 (by simp; omega) ?_ h
  intro hi
  unfold Float64.isFinite at hf
  unfold Float64.isInf at hi
  split at hi
  · rename_i hd; rw [hd] at hf; cases hf
  · cases hi

theorem finite_not {x : UInt64} (h : Float64.isFinite x = true) : (Float64.isNaN x = true → False) ∧ (Float64.isInf x = true → False) := by
  unfold Float64.isFinite at h
  unfold Float64.isInf Float64.isNaN
  split at h
  · rename_i hd; rw [hd]; exact ⟨by simp, by simp⟩
  · cases h
theorem w_floor_any (hA : A.handled = none) (hf : Float64.isFinite x = true) (he : Flt.toInt Float64.floorOf x = c) (h : Q (.int c s.toks) { s with toks := s.toks + 1 }) :
    wpAny (model prog w) A (call (.builtin "math.floor") [.float x t]) Q E s := by
  refine Flt.call_floor_float hA (fun e => absurd e fun e => (finite_not hf).1 e) (fun e => absurd e fun e => (finite_not hf).2 e) fun _ => ?_
  rw [he]; exact h
theorem w_int_any (hA : A.handled = none) (hf : Float64.isFinite x = true) (h : ∀ c, Q (.int c s.toks) { s with toks := s.toks + 1 }) :
    wpAny (model prog w) A (call (.type "int") [.float x t]) Q E s :=
  Flt.call_int_float3 hA (fun e => absurd e fun e => (finite_not hf).1 e) (fun e => absurd e fun e => (finite_not hf).2 e) fun _ => h _
theorem w_round_any (hA : A.handled = none) (hf : Float64.isFinite x = true) (h : ∀ c, Q (.int c s.toks) { s with toks := s.toks + 1 }) :
    wpAny (model prog w) A (call (.builtin "round") [.float x t]) Q E s :=
  Flt.call_round_float hA (fun e => absurd e fun e => (finite_not hf).1 e) (fun e => absurd e fun e => (finite_not hf).2 e) fun _ => h _
theorem w_floor_hf (hA : A.handled = none) (hx : x = hf a) (ha : -1000000000000 ≤ a ∧ a ≤ 1000000000000) (he : a / 2 = c) (h : Q (.int c s.toks) { s with toks := s.toks + 1 }) :
    wpAny (model prog w) A (call (.builtin "math.floor") [.float x t]) Q E s := by
  subst hx
  exact w_floor_any hA (fin_hf (by omega)).1 ((floor_hf (by omega)).trans he) h
theorem w_floor_qf {k : Int} (hA : A.handled = none) (hk : 0 < k ∧ k < 1000000) (ha : -4000000000 ≤ a ∧ a ≤ 4000000000) (h : Q (.int (a / k) s.toks) { s with toks := s.toks + 1 }) :
    wpAny (model prog w) A (call (.builtin "math.floor") [.float (qf a k) t]) Q E s :=
  have d := div_floor (a := a) hk.1 (by omega) (by omega)
  w_floor_any hA d.1 d.2 h
theorem w_floor_qi {k : Int} (hA : A.handled = none) (hk : 0 < k ∧ k < 1000000) (ha : -4000000000 ≤ a ∧ a ≤ 4000000000) (h : Q (.int (a / k) s.toks) { s with toks := s.toks + 1 }) :
    wpAny (model prog w) A (call (.builtin "math.floor") [.float (qi a k) t]) Q E s :=
  have d := divi_floor (a := a) hk.1 (by omega) (by omega)
  w_floor_any hA d.1 d.2 h
theorem w_int_hf (hA : A.handled = none) (hx : x = hf a) (ha : -1000000000000 ≤ a ∧ a ≤ 1000000000000) (h : ∀ c, Q (.int c s.toks) { s with toks := s.toks + 1 }) :
    wpAny (model prog w) A (call (.type "int") [.float x t]) Q E s := by
  subst hx
  exact w_int_any hA (fin_hf (by omega)).1 h
theorem w_lt_fi (hx : x = hf a) (ha : -1000000000000 ≤ a ∧ a ≤ 1000000000000) (h : Q (.bool (decide (a < 2 * n))) s) : wpAny (model prog w) A (compareOp .Lt (.float x t) (.int n u)) Q E s := by
  refine lt_fi ?_
  rw [hx, cmpInt_hf (by omega), cmp_lt_beq]; exact h
theorem w_ne_fi (hx : x = hf a) (ha : -1000000000000 ≤ a ∧ a ≤ 1000000000000) (h : Q (.bool (decide (a ≠ 2 * n))) s) : wpAny (model prog w) A (compareOp .NotEq (.float x t) (.int n u)) Q E s := by
  refine ne_fi ?_
  rw [hx, cmpInt_hf (by omega), bne, cmp_eq_beq]
  rw [show (!decide (a = 2 * n)) = decide (a ≠ 2 * n) by simp]; exact h
theorem w_gt_if (hx : x = hf a) (ha : -1000000000000 ≤ a ∧ a ≤ 1000000000000) (h : Q (.bool (decide (a < 2 * n))) s) : wpAny (model prog w) A (compareOp .Gt (.int n u) (.float x t)) Q E s := by
  refine gt_if ?_
  rw [hx, cmpInt_hf (by omega), cmp_lt_beq]; exact h
theorem w_le_if (hx : x = hf a) (ha : -1000000000000 ≤ a ∧ a ≤ 1000000000000) (h : Q (.bool (decide (2 * n ≤ a))) s) : wpAny (model prog w) A (compareOp .LtE (.int n u) (.float x t)) Q E s := by
  refine le_if ?_
  rw [hx, cmpInt_hf (by omega), cmp_gt_beq, cmp_eq_beq]
  rw [show (decide (2 * n < a) || decide (a = 2 * n)) = decide (2 * n ≤ a) by rw [Bool.eq_iff_iff]; simp; omega]; exact h
theorem w_div_ff (hx : x = hf a) (hA : A.handled = none) (ha : -1000000000000 ≤ a ∧ a ≤ 1000000000000) (h : ∀ r, Float64.isFinite r = true → Q (.float r s.toks) { s with toks := s.toks + 1 }) :
    wpAny (model prog w) A (binaryOp .Div (.float x t) (.float 4645133024903820211 u)) Q E s := by
  refine truediv_float_or hA ?_ fun _ => ?_
  · intro e; exact absurd e (by decide +kernel)
  · subst hx; exact h _ (trop_fin (by omega))

theorem month_K {mo adj : Int} (h1 : 1 ≤ mo ∧ mo ≤ 13) (h2 : adj = 0 ∨ adj = -1 ∨ adj = -2) :
    Float64.isFinite (Float64.add (Float64.add (qi (367 * mo - 362) 12) (Float64.ofInt adj)) (Float64.ofInt 1)) = true ∧
    -10 ≤ Flt.toInt Float64.floorOf (Float64.add (Float64.add (qi (367 * mo - 362) 12) (Float64.ofInt adj)) (Float64.ofInt 1)) ∧
    Flt.toInt Float64.floorOf (Float64.add (Float64.add (qi (367 * mo - 362) 12) (Float64.ofInt adj)) (Float64.ofInt 1)) ≤ 400 ∧
    (mo = 1 → adj = 0 → Flt.toInt Float64.floorOf (Float64.add (Float64.add (qi (367 * mo - 362) 12) (Float64.ofInt adj)) (Float64.ofInt 1)) = 1) := by
  have h3 : mo = 1 ∨ mo = 2 ∨ mo = 3 ∨ mo = 4 ∨ mo = 5 ∨ mo = 6 ∨ mo = 7 ∨ mo = 8 ∨ mo = 9 ∨ mo = 10 ∨ mo = 11 ∨ mo = 12 ∨ mo = 13 := by omega
  rcases h2 with rfl | rfl | rfl <;> rcases h3 with rfl | rfl | rfl | rfl | rfl | rfl | rfl | rfl | rfl | rfl | rfl | rfl | rfl <;> decide +kernel
theorem w_floor_month {mo adj : Int} (hA : A.handled = none) (h1 : 1 ≤ mo ∧ mo ≤ 13) (h2 : adj = 0 ∨ adj = -1 ∨ adj = -2)
    (h : ∀ K : Int, -10 ≤ K ∧ K ≤ 400 ∧ (mo = 1 → adj = 0 → K = 1) → Q (.int K s.toks) { s with toks := s.toks + 1 }) :
    wpAny (model prog w) A (call (.builtin "math.floor") [.float (Float64.add (Float64.add (qi (367 * mo - 362) 12) (Float64.ofInt adj)) (Float64.ofInt 1)) t]) Q E s :=
  have k := month_K h1 h2
  w_floor_any hA k.1 rfl (h _ k.2)
end
end

/-! the contracts: one a def -/
section
open PySem PySem.W PyProof.Rows
set_option maxHeartbeats 8000000
theorem fm (a : Int) (b : Int) (h : 0 ≤ b) : a.fmod b = a % b := Int.fmod_eq_emod_of_nonneg a h
theorem fd (a : Int) (b : Int) (h : 0 ≤ b) : a.fdiv b = a / b := Int.fdiv_eq_ediv_of_nonneg a h
section
variable {w : World} {p : Program} {loose : List Str} {mean : ExcName → Option Value} {mg mb : Str → Option Value}
  {dp un : Nat} {gd : Option (List Code)} {cn : Str} {cs : Scope} {a : Addr} {ccd : Value} {cl : List (Str × Addr)} {outer : List Env} {A₀ : Around} {base h₀ : Heap} {L : Addr} {m : Str → Option Value} {s : Shared} {Q E : Value → Shared → Prop} {news : List (Addr × Obj)}
theorem isleap_c (y : Int) (ty : Tok)
    (B : Below A₀ base outer h₀) (F : Fr h₀ L s.heap m) (X : (hd.heap_39 w.params).In h₀) (N : News h₀ L s.heap news) (T : Top p loose mean mg mb h₀) (hk : cs.kind = .function)
    (hdp : dp + 1 < recursionLimit)
    (hret : ∀ (t : Tok) h' tk', Fr h₀ L h' m → News h₀ L h' news → Q (.bool (leapB y)) { s with heap := h', toks := tk' }) :
    wpAny (model PySem.Challenge.rw_bb6039_01.row.prog w) (ktrTop dp un gd cn cs L a ccd cl outer) (call (.ref 50) [.int y ty]) Q E s := by
  refine wpAny_call ?_
  k_dflt cell_enter
  k_steps
  all_goals (refine' cb_retB (Q := Q) hret ?e1 ?e2 ?e3; (case e2 => k_asm); (case e3 => k_asm); (case e1 => simp only [leapB, fm _ _ (show (0 : Int) ≤ 4 by decide), fm _ _ (show (0 : Int) ≤ 100 by decide), fm _ _ (show (0 : Int) ≤ 400 by decide)] at *; first | rfl | (simp_all [bne]; done) | (simp_all [bne]; rfl)))
theorem january_c (y : Int) (ty : Tok)
    (B : Below A₀ base outer h₀) (F : Fr h₀ L s.heap m) (X : (hd.heap_39 w.params).In h₀) (N : News h₀ L s.heap news) (T : Top p loose mean mg mb h₀) (hk : cs.kind = .function)
    (hdp : dp + 1 < recursionLimit)
    (hret : ∀ t h' tk', Fr h₀ L h' m → News h₀ L h' news → Q (.int (jan y) t) { s with heap := h', toks := tk' }) :
    wpAny (model PySem.Challenge.rw_bb6039_01.row.prog w) (ktrTop dp un gd cn cs L a ccd cl outer) (call (.ref 99) [.int y ty]) Q E s := by
  refine wpAny_call ?_
  k_dflt cell_enter
  k_steps
  all_goals (refine' cb_retI (Q := Q) hret ?e1 ?e2 ?e3; (case e2 => k_asm); (case e3 => first | k_asm | (refine' cb_drop ?cbN ?cbS; (case cbN => assumption); (case cbS => kcj_all))); (case e1 => simp only [jan, fm _ _ (show (0 : Int) ≤ 400 by decide), fd _ _ (show (0 : Int) ≤ 400 by decide), fd _ _ (show (0 : Int) ≤ 100 by decide), fd _ _ (show (0 : Int) ≤ 4 by decide)]))
local macro_rules | `(tactic| walk_at "call ref") => `(tactic| (k_here; (with_reducible show wpAny _ _ (call (Value.ref 50) [Value.int _ _]) _ _ _); k_dflt (refine' isleap_c _ _ ?B ?F ?X ?N ?T ?K ?D ?_; (case B => k_asm); (case F => k_asm); (case X => k_asm); (case N => k_asm); (case T => k_asm); (case K => first | exact rfl | assumption); (case D => ktr_room)); intro t9 h9 tk9 F9 N9; (try dsimp only); (try k_fold)))
theorem in_top {x : Int} {u : Tok} {prog : Program} {A : Around} (F : Fr h₀ L s.heap m) (X : (hd.heap_39 w.params).In h₀) (h : Q (.bool ([4, 6, 9, 11].any (· == x))) s) :
    wpAny (model prog w) A (compareOp .In (.int x u) (.ref 43)) Q E s :=
  in_tuple_ints (tupK (l := [.int 4 394, .int 6 395, .int 9 396, .int 11 397]) (X.keeps F.keep) (by k_is)) (.cons _ _ (.cons _ _ (.cons _ _ (.cons _ _ .nil)))) h
local macro_rules | `(tactic| walk_at "compareOp In int ref") => `(tactic| (k_here; k_dflt (refine' in_top ?F ?X ?_; (case F => k_asm); (case X => k_asm))))
theorem legal_c (y mo d : Int) (ty tmo td : Tok) (hd1 : 1 ≤ d ∧ d ≤ 28)
    (B : Below A₀ base outer h₀) (F : Fr h₀ L s.heap m) (X : (hd.heap_39 w.params).In h₀) (N : News h₀ L s.heap news) (T : Top p loose mean mg mb h₀) (hk : cs.kind = .function)
    (hdp : dp + 2 < recursionLimit)
    (hret : ∀ (t : Tok) h' tk', Fr h₀ L h' m → News h₀ L h' news → Q (.bool true) { s with heap := h', toks := tk' }) :
    wpAny (model PySem.Challenge.rw_bb6039_01.row.prog w) (ktrTop dp un gd cn cs L a ccd cl outer) (call (.ref 57) [.int y ty, .int mo tmo, .int d td]) Q E s := by
  refine wpAny_call ?_
  k_dflt cell_enter
  k_steps
  all_goals (try (refine' cb_retB (Q := Q) hret ?e1 ?e2 ?e3; (case e2 => k_asm); (case e3 => k_asm); (case e1 => rfl)))
local macro_rules | `(tactic| walk_at "call ref") => `(tactic| (k_here; (with_reducible show wpAny _ _ (call (Value.ref 57) [Value.int _ _, Value.int _ _, Value.int _ _]) _ _ _); k_dflt (refine' legal_c _ _ _ _ _ _ ?R ?B ?F ?X ?N ?T ?K ?D ?_; (case R => omega); (case B => k_asm); (case F => k_asm); (case X => k_asm); (case N => k_asm); (case T => k_asm); (case K => first | exact rfl | assumption); (case D => ktr_room)); intro t9 h9 tk9 F9 N9; (try dsimp only); (try k_fold)))
local macro_rules | `(tactic| walk_at "hf_is") => `(tactic| first | (with_reducible exact rfl) | exact epoch_hf | exact epochP_hf | exact half_hf)
local macro_rules | `(tactic| walk_at "hf_e") => `(tactic| first | (with_reducible assumption) | exact rfl)
local macro_rules | `(tactic| walk_at "binaryOp Sub int float") => `(tactic| ((with_reducible refine' w_sub_if ?hx ?hn ?hb ?he ?_; (case hx => walk_at "hf_is"); (case he => walk_at "hf_e"); (case hn => omega); (case hb => omega)); (try dsimp only)))
local macro_rules | `(tactic| walk_at "binaryOp Sub float int") => `(tactic| ((with_reducible refine' w_sub_fi ?hx ?hn ?hb ?he ?_; (case hx => walk_at "hf_is"); (case he => walk_at "hf_e"); (case hn => omega); (case hb => omega)); (try dsimp only)))
local macro_rules | `(tactic| walk_at "binaryOp Sub float float") => `(tactic| ((with_reducible refine' w_sub_ff ?hx ?hy ?hn ?hb ?he ?_; (case hx => walk_at "hf_is"); (case hy => walk_at "hf_is"); (case he => walk_at "hf_e"); (case hn => omega); (case hb => omega)); (try dsimp only)))
local macro_rules | `(tactic| walk_at "binaryOp Add int float") => `(tactic| ((with_reducible refine' w_add_if ?hx ?hn ?hb ?he ?_; (case hx => walk_at "hf_is"); (case he => walk_at "hf_e"); (case hn => omega); (case hb => omega)); (try dsimp only)))
local macro_rules | `(tactic| walk_at "binaryOp Add float int") => `(tactic| ((with_reducible refine' w_add_fi ?hx ?hn ?hb ?he ?_; (case hx => walk_at "hf_is"); (case he => walk_at "hf_e"); (case hn => omega); (case hb => omega)); (try dsimp only)))
local macro_rules | `(tactic| walk_at "binaryOp Mult float int") => `(tactic| ((with_reducible refine' w_mul_fi ?hx ?hn ?hb ?he ?_; (case hx => walk_at "hf_is"); (case he => walk_at "hf_e"); (case hn => omega); (case hb => omega)); (try dsimp only)))
local macro_rules | `(tactic| walk_at "binaryOp Mult int float") => `(tactic| ((with_reducible refine' w_mul_if ?hx ?hn ?hb ?he ?_; (case hx => walk_at "hf_is"); (case he => walk_at "hf_e"); (case hn => omega); (case hb => omega)); (try dsimp only)))
local macro_rules | `(tactic| walk_at "binaryOp Div int int") => `(tactic| ((with_reducible refine' w_div_ii ?hk ?ha ?_; (case hk => omega); (case ha => omega)); (try dsimp only)))
local macro_rules | `(tactic| walk_at "call builtin:math.floor") => `(tactic| (first
  | ((with_reducible refine' w_floor_month ?hA ?h1 ?h2 ?_); (case hA => k_dflt (exact rfl)); (case h1 => omega); (case h2 => omega); intro K9 hK9; (try dsimp only))
  | ((with_reducible refine' w_floor_qi ?hA ?hk ?ha ?_); (case hA => k_dflt (exact rfl)); (case hk => omega); (case ha => omega); (try dsimp only))
  | ((with_reducible refine' w_floor_qf ?hA ?hk ?ha ?_); (case hA => k_dflt (exact rfl)); (case hk => omega); (case ha => omega); (try dsimp only))
  | ((with_reducible refine' w_floor_hf ?hA ?hx ?ha ?he ?_); (case hx => walk_at "hf_is"); (case hA => k_dflt (exact rfl)); (case ha => omega); (case he => walk_at "hf_e"); (try dsimp only))))
theorem retF {x y : Int} {t : Tok} {h' : Heap} {tk' : Nat} (h : Q (.float (hf x) t) { s with heap := h', toks := tk' }) (e : y = x) : Q (.float (hf y) t) { s with heap := h', toks := tk' } := e ▸ h

theorem tojd_c (y mo : Int) (ty tmo td : Tok) (hy : -3000000 ≤ y ∧ y ≤ 3000000) (hmo : 1 ≤ mo ∧ mo ≤ 13)
    (B : Below A₀ base outer h₀) (F : Fr h₀ L s.heap m) (X : (hd.heap_39 w.params).In h₀) (N : News h₀ L s.heap news) (T : Top p loose mean mg mb h₀) (hk : cs.kind = .function)
    (hdp : dp + 3 < recursionLimit)
    (hret : ∀ (K : Int) (t : Tok) h' tk', -10 ≤ K ∧ K ≤ 400 → (mo = 1 → K = 1) → Fr h₀ L h' m → News h₀ L h' news → Q (.float (hf (2 * (jan y + K) - 3)) t) { s with heap := h', toks := tk' }) :
    wpAny (model PySem.Challenge.rw_bb6039_01.row.prog w) (ktrTop dp un gd cn cs L a ccd cl outer) (call (.ref 64) [.int y ty, .int mo tmo, .int 1 td]) Q E s := by
  refine wpAny_call ?_
  k_dflt cell_enter
  k_steps
  all_goals ((rename Int => K); (rename -10 ≤ K ∧ _ => hK); (refine' retF (Q := Q) (hret K _ _ _ ?k1 ?k2 ?e2 ?e3) ?e1; (case k1 => exact ⟨hK.1, hK.2.1⟩); (case k2 => omega); (case e2 => k_asm); (case e3 => k_asm); (case e1 => rw [jan_alt]; omega)))
theorem tojd1_c (y : Int) (ty tmo td : Tok) (hy : -3000000 ≤ y ∧ y ≤ 3000000)
    (B : Below A₀ base outer h₀) (F : Fr h₀ L s.heap m) (X : (hd.heap_39 w.params).In h₀) (N : News h₀ L s.heap news) (T : Top p loose mean mg mb h₀) (hk : cs.kind = .function)
    (hdp : dp + 3 < recursionLimit)
    (hret : ∀ (t : Tok) h' tk', Fr h₀ L h' m → News h₀ L h' news → Q (.float (hf (2 * jan y - 1)) t) { s with heap := h', toks := tk' }) :
    wpAny (model PySem.Challenge.rw_bb6039_01.row.prog w) (ktrTop dp un gd cn cs L a ccd cl outer) (call (.ref 64) [.int y ty, .int 1 tmo, .int 1 td]) Q E s := by
  refine tojd_c y 1 ty tmo td hy (by decide) B F X N T hk hdp ?_
  intro K t h' tk' hK h1 F' N'
  have e : 2 * (jan y + K) - 3 = 2 * jan y - 1 := by have := h1 rfl; omega
  rw [e]
  exact hret t h' tk' F' N'
local macro_rules | `(tactic| walk_at "call ref") => `(tactic| (k_here; (with_reducible show wpAny _ _ (call (Value.ref 64) [Value.int _ _, Value.int _ _, Value.int 1 _]) _ _ _); k_dflt (refine' tojd_c _ _ _ _ _ ?R ?M ?B ?F ?X ?N ?T ?K ?D ?_; (case R => omega); (case M => omega); (case B => k_asm); (case F => k_asm); (case X => k_asm); (case N => k_asm); (case T => k_asm); (case K => first | exact rfl | assumption); (case D => ktr_room)); intro K9 t9 h9 tk9 hK9 hK8 F9 N9; (try dsimp only); (try k_fold)))
local macro_rules | `(tactic| walk_at "call ref") => `(tactic| (k_here; (with_reducible show wpAny _ _ (call (Value.ref 64) [Value.int _ _, Value.int 1 _, Value.int 1 _]) _ _ _); k_dflt (refine' tojd1_c _ _ _ _ ?R ?B ?F ?X ?N ?T ?K ?D ?_; (case R => omega); (case B => k_asm); (case F => k_asm); (case X => k_asm); (case N => k_asm); (case T => k_asm); (case K => first | exact rfl | assumption); (case D => ktr_room)); intro t9 h9 tk9 F9 N9; (try dsimp only); (try k_fold)))
theorem w_div_fi2 {prog : Program} {A : Around} {x : UInt64} {a n : Int} {t u : Tok} (hx : x = hf a) (he : a % 2 = 0) (hn : 0 < n ∧ n < 1000000)
    (h : Q (.float (qf (a / 2) n) s.toks) { s with toks := s.toks + 1 }) : wpAny (model prog w) A (binaryOp .Div (.float x t) (.int n u)) Q E s :=
  w_div_fi hx (b := a / 2) (by omega) hn h
local macro_rules | `(tactic| walk_at "binaryOp Div float int") => `(tactic| (first
  | ((with_reducible refine' w_div_fi ?hx ?he ?hn ?_; (case hx => walk_at "hf_is"); (case he => walk_at "hf_e"); (case hn => omega)); (try dsimp only))
  | ((with_reducible refine' w_div_fi2 ?hx ?he ?hn ?_; (case hx => walk_at "hf_is"); (case he => omega); (case hn => omega)); (try dsimp only))))
local macro_rules | `(tactic| walk_at "binaryOp Mod float int") => `(tactic| ((with_reducible refine' w_mod_fi ?hx ?he ?hn ?hb ?_; (case hx => walk_at "hf_is"); (case he => walk_at "hf_e"); (case hn => omega); (case hb => omega)); (try dsimp only)))
local macro_rules | `(tactic| walk_at "call type:int") => `(tactic| ((with_reducible refine' w_int_hf ?hA ?hx ?ha ?_); (case hx => walk_at "hf_is"); (case hA => k_dflt (exact rfl)); (case ha => omega); intro c9; (try dsimp only)))
local macro_rules | `(tactic| walk_at "compareOp Lt float int") => `(tactic| ((with_reducible refine' w_lt_fi ?hx ?ha ?_); (case hx => walk_at "hf_is"); (case ha => omega); (try dsimp only)))
local macro_rules | `(tactic| walk_at "compareOp NotEq float int") => `(tactic| ((with_reducible refine' w_ne_fi ?hx ?ha ?_); (case hx => walk_at "hf_is"); (case ha => omega); (try dsimp only)))
local macro_rules | `(tactic| walk_at "compareOp Gt int float") => `(tactic| ((with_reducible refine' w_gt_if ?hx ?ha ?_); (case hx => walk_at "hf_is"); (case ha => omega); (try dsimp only)))
local macro_rules | `(tactic| walk_at "compareOp LtE int float") => `(tactic| ((with_reducible refine' w_le_if ?hx ?ha ?_); (case hx => walk_at "hf_is"); (case ha => omega); (try dsimp only)))
section
abbrev y0Of (D : Int) : Int := D / 146097 * 400 + D % 146097 / 36524 * 100 + D % 146097 % 36524 / 1461 * 4 + D % 146097 % 36524 % 1461 / 365
theorem y0_facts (D : Int) :
    (D % 146097 / 36524 = 4 → y0Of D = yearOf D ∧ jan (y0Of D) ≤ D + 1721426 ∧ D + 1721426 ≤ jan (y0Of D) + 365) ∧
    (D % 146097 % 36524 % 1461 / 365 = 4 → y0Of D = yearOf D ∧ jan (y0Of D) ≤ D + 1721426 ∧ D + 1721426 ≤ jan (y0Of D) + 365) ∧
    (D % 146097 / 36524 ≠ 4 → D % 146097 % 36524 % 1461 / 365 ≠ 4 → y0Of D + 1 = yearOf D ∧ jan (y0Of D + 1) ≤ D + 1721426 ∧ D + 1721426 ≤ jan (y0Of D + 1) + 365) := by
  have h := yearOf_spec D
  have h2 := (jan_step (yearOf D)).2
  refine ⟨fun e => ?_, fun e => ?_, fun e e' => ?_⟩
  · have : y0Of D = yearOf D := by unfold yearOf y0Of; rw [if_pos (.inl e)]; omega
    rw [this]; omega
  · have : y0Of D = yearOf D := by unfold yearOf y0Of; rw [if_pos (.inr e)]; omega
    rw [this]; omega
  · have : y0Of D + 1 = yearOf D := by unfold yearOf y0Of; rw [if_neg (by omega)]; omega
    rw [this]; omega

theorem w_sub_v {prog : Program} {A : Around} {n : Int} {v : Value} {t : Tok} {x : UInt64} (hx : x = hf 1) (hv : (∃ t, v = .int n t) ∨ (∃ t, v = .float (hf (2 * n - 1)) t)) (hn : -800000000 ≤ n ∧ n ≤ 800000000)
    (h : ∀ c, c / 2 = n - 1 → -1600000002 ≤ c ∧ c ≤ 1600000002 → Q (.float (hf c) s.toks) { s with toks := s.toks + 1 }) : wpAny (model prog w) A (binaryOp .Sub v (.float x t)) Q E s := by
  rcases hv with ⟨u, rfl⟩ | ⟨u, rfl⟩
  · exact w_sub_if hx (by omega) (by omega) rfl (h _ (by omega) (by omega))
  · exact w_sub_ff rfl hx (by omega) (by omega) rfl (h _ (by omega) (by omega))
theorem tupN {Y Y' mo d : Int} {t1 t2 t3 : Tok} {x : Addr} {h' : Heap} (e : Y = Y') (N : News h₀ L h' ((x, { cls := .type "tuple", data := .seq #[.int Y t1, .int mo t2, .int d t3] }) :: news)) :
    News h₀ L h' ((x, { cls := .type "tuple", data := .seq #[.int Y' t1, .int mo t2, .int d t3] }) :: news) := e ▸ N
local macro_rules | `(tactic| walk_at "binaryOp Sub float") => `(tactic| (k_here; (with_reducible refine' w_sub_v ?hx ?hv ?hn ?_; (case hx => walk_at "hf_is"); (case hv => assumption); (case hn => omega)); intro c9 hc9 hc8; (try dsimp only)))
theorem fromjd_c (n : Int) (v : Value) (hv : (∃ t, v = .int n t) ∨ (∃ t, v = .float (hf (2 * n - 1)) t)) (hn : -800000000 ≤ n ∧ n ≤ 800000000)
    (B : Below A₀ base outer h₀) (F : Fr h₀ L s.heap m) (X : (hd.heap_39 w.params).In h₀) (N : News h₀ L s.heap news) (T : Top p loose mean mg mb h₀) (hk : cs.kind = .function)
    (hdp : dp + 4 < recursionLimit)
    (hret : ∀ x (mo d : Int) (t1 t2 t3 : Tok) h' tk', Fr h₀ L h' m → News h₀ L h' ((x, { cls := .type "tuple", data := .seq #[.int (yearOf (n - 1721426)) t1, .int mo t2, .int d t3] }) :: news) → Q (.ref x) { s with heap := h', toks := tk' }) :
    wpAny (model PySem.Challenge.rw_bb6039_01.row.prog w) (ktrTop dp un gd cn cs L a ccd cl outer) (call (.ref 71) [v]) Q E s := by
  obtain ⟨D, rfl⟩ : ∃ D, n = D + 1721426 := ⟨n - 1721426, by omega⟩
  rw [show D + 1721426 - 1721426 = D by omega] at hret
  have f3 : 2 * (D + 1721426 - 1) + 1 = 2 * D + 3442851 := by omega
  have f4 : 2 * D + 3442851 - 3442851 = 2 * D := by omega
  obtain ⟨f7, f8, f9⟩ := y0_facts D
  dsimp only [y0Of] at f7 f8 f9
  refine wpAny_call ?_
  k_dflt cell_enter
  k_steps
  all_goals (refine' hret _ _ _ _ _ _ _ _ ?F ?N; (case F => k_asm); (case N => refine' tupN ?e ?n; (case n => k_asm); (case e => omega)))
end
/-- calling f with an int tells the row -/
structure RowOK (w : World) (news : List (Addr × Obj)) (f : Addr) (row : Int → Int) : Prop where
  fn : ∃ oc od fd sl, (f, (⟨oc, od, .func fd, sl⟩ : Obj)) ∈ news
  call : ∀ {p : Program} {loose : List Str} {mean : ExcName → Option Value} {mg mb : Str → Option Value}
    {dp un : Nat} {gd : Option (List Code)} {cn : Str} {cs : Scope} {a : Addr} {ccd : Value} {cl : List (Str × Addr)} {outer : List Env} {A₀ : Around} {base h₀ : Heap} {L : Addr} {m : Str → Option Value} {s : Shared} {Q E : Value → Shared → Prop} {news' : List (Addr × Obj)} (y : Int) (ty : Tok),
    (∀ q ∈ news, q ∈ news') → (-2500000 ≤ y ∧ y ≤ 2500000) → Below A₀ base outer h₀ → Fr h₀ L s.heap m → (hd.heap_39 w.params).In h₀ → News h₀ L s.heap news' → Top p loose mean mg mb h₀ → cs.kind = .function → dp + 2 < recursionLimit →
    (∀ (t : Tok) (h' : Heap) (tk' : Nat), Fr h₀ L h' m → News h₀ L h' news' → Q (.int (row y) t) { s with heap := h', toks := tk' }) →
    wpAny (model PySem.Challenge.rw_bb6039_01.row.prog w) (ktrTop dp un gd cn cs L a ccd cl outer) (PySem.call (.ref f) [.int y ty]) Q E s

theorem RowOK.fnAt {f : Addr} {row : Int → Int} {news' : List (Addr × Obj)} {h : Heap} (R : RowOK w news f row) (N : News h₀ L h news') (hs : ∀ q ∈ news, q ∈ news') : FnAt f h :=
  let ⟨_, _, _, _, hm⟩ := R.fn; FnAt.of N (hs _ hm)
theorem RowOK.mono {f : Addr} {row : Int → Int} {news' : List (Addr × Obj)} (R : RowOK w news f row) (hs : ∀ q ∈ news, q ∈ news') : RowOK w news' f row where
  fn := let ⟨a, b, c, d, hm⟩ := R.fn; ⟨a, b, c, d, hs _ hm⟩
  call := fun y ty h2 => R.call y ty fun q hq => h2 q (hs q hq)

/-- a turn's end -/
def W1End (h₀ : Heap) (L : Addr) (s : Shared) (news : List (Addr × Obj)) (fm : Int → Tok → Tok → Str → Option Value) (P : Int → Prop) (μ : Int → Nat) (Q : Flow → Shared → Prop) (g : Int) (f : Flow) (s₂ : Shared) : Prop :=
  match f with
  | .ret v => Q (.ret v) s₂
  | .brk => Q .next s₂
  | _ => ∃ (g' : Int) (t1 t2 : Tok) (h' : Heap) (tk : Nat) (m' : Str → Option Value) (news' : List (Addr × Obj)), s₂ = { s with heap := h', toks := tk } ∧ Fr h₀ L h' m' ∧ (∀ y, m' y = fm g' t1 t2 y) ∧ News h₀ L h' news' ∧ (∀ q ∈ news, q ∈ news') ∧ P g' ∧ μ g' < μ g
theorem w1end {fm : Int → Tok → Tok → Str → Option Value} {P : Int → Prop} {μ : Int → Nat} {Q : Flow → Shared → Prop} {g : Int} {h' : Heap} {tk : Nat} {m' : Str → Option Value} {news' : List (Addr × Obj)} (g' : Int) (t1 t2 : Tok)
    (F : Fr h₀ L h' m') (e : ∀ y, m' y = fm g' t1 t2 y) (N : News h₀ L h' news') (hs : ∀ q ∈ news, q ∈ news') (hp : P g') (hm : μ g' < μ g) :
    W1End h₀ L s news fm P μ Q g .next { s with heap := h', toks := tk } := ⟨g', t1, t2, h', tk, m', news', rfl, F, e, N, hs, hp, hm⟩
theorem while1 {prog : Program} {A : Around} {env : Env} {test : Expr} {body : List Stmt} {pos : Pos} {Q : Flow → Shared → Prop} (fm : Int → Tok → Tok → Str → Option Value) (P : Int → Prop) (μ : Int → Nat) (g0 : Int) (t1 t2 : Tok)
    (F : Fr h₀ L s.heap (fm g0 t1 t2)) (N : News h₀ L s.heap news) (hP : P g0)
    (turn : ∀ g t1 t2 h tk, P g → Fr h₀ L h (fm g t1 t2) → News h₀ L h news →
      wpAny (model prog w) A (isTrue test env (eval test env)) (fun b s₂ =>
        if b = true then wpAny (model prog w) A (execs body env) (W1End h₀ L s news fm P μ Q g) E s₂ else Q .next s₂) E { s with heap := h, toks := tk })
    (hE : PassesOwn (model prog w) A env E := by passes_own) :
    wpAny (model prog w) A (exec (.While test body [] pos) env) Q E s := by
  refine While_inv2 (fun n m' nx => ∃ g t1 t2, m' = fm g t1 t2 ∧ nx = news ∧ P g ∧ n = μ g) F N ⟨g0, t1, t2, rfl, rfl, hP, rfl⟩ ?_ hE
  rintro n m₁ nx h tk F₁ N₁ ⟨g, u1, u2, rfl, rfl, hP', rfl⟩
  refine wpAny_mono (turn g u1 u2 h tk hP' F₁ N₁) (fun b s₂ p => ?_) fun _ _ x => x
  cases b with
  | false => simpa using p
  | true =>
    simp only [if_true] at p ⊢
    refine wpAny_mono p (fun f s₃ q => ?_) fun _ _ x => x
    cases f with
    | ret v => exact q
    | brk => exact q
    | next =>
      obtain ⟨g', v1, v2, h', tk', m', news', rfl, F', e, N', hs, hp, hm⟩ := q
      exact ⟨h', tk', m', nx, μ g', rfl, F', fun q hq => N' q (hs q hq), hm, g', v1, v2, funext e, rfl, hp, rfl⟩
    | cont =>
      obtain ⟨g', v1, v2, h', tk', m', news', rfl, F', e, N', hs, hp, hm⟩ := q
      exact ⟨h', tk', m', nx, μ g', rfl, F', fun q hq => N' q (hs q hq), hm, g', v1, v2, funext e, rfl, hp, rfl⟩

/-- a moment: an int (a noon) or a half (a midnight); a: its double -/
def JdV (v : Value) (n a : Int) : Prop := ((∃ t, v = .int n t) ∧ a = 2 * n) ∨ ((∃ t, v = .float (hf (2 * n - 1)) t) ∧ a = 2 * n - 1)
theorem JdV.half {v : Value} {n a : Int} (h : JdV v n a) : (∃ t, v = .int n t) ∨ (∃ t, v = .float (hf (2 * n - 1)) t) := h.imp And.left And.left
theorem JdV.le {v : Value} {n a : Int} (h : JdV v n a) : 2 * n - 1 ≤ a ∧ a ≤ 2 * n := by rcases h with ⟨_, h⟩ | ⟨_, h⟩ <;> omega
section
variable {prog : Program} {A : Around} {v : Value} {n a k : Int} {u : Tok}
theorem w_gt_v (hv : JdV v n a) (hn : -800000000 ≤ n ∧ n ≤ 800000000) (h : Q (.bool (decide (a < 2 * k))) s) : wpAny (model prog w) A (compareOp .Gt (.int k u) v) Q E s := by
  rcases hv with ⟨⟨t, rfl⟩, rfl⟩ | ⟨⟨t, rfl⟩, rfl⟩
  · exact PyProof.Rows.gt_int (by rw [show decide (n < k) = decide (2 * n < 2 * k) by rw [decide_eq_decide]; omega]; exact h)
  · exact w_gt_if rfl (by omega) h
theorem w_le_v (hv : JdV v n a) (hn : -800000000 ≤ n ∧ n ≤ 800000000) (h : Q (.bool (decide (2 * k ≤ a))) s) : wpAny (model prog w) A (compareOp .LtE (.int k u) v) Q E s := by
  rcases hv with ⟨⟨t, rfl⟩, rfl⟩ | ⟨⟨t, rfl⟩, rfl⟩
  · exact PyProof.Rows.le_int (by rw [show decide (k ≤ n) = decide (2 * k ≤ 2 * n) by rw [decide_eq_decide]; omega]; exact h)
  · exact w_le_if rfl (by omega) h
theorem w_lt_v (hv : JdV v n a) (hn : -800000000 ≤ n ∧ n ≤ 800000000) (h : Q (.bool (decide (a < 2 * k))) s) : wpAny (model prog w) A (compareOp .Lt v (.int k u)) Q E s := by
  rcases hv with ⟨⟨t, rfl⟩, rfl⟩ | ⟨⟨t, rfl⟩, rfl⟩
  · exact PyProof.Rows.lt_int (by rw [show decide (n < k) = decide (2 * n < 2 * k) by rw [decide_eq_decide]; omega]; exact h)
  · exact w_lt_fi rfl (by omega) h
end
theorem yearOf_bound {D : Int} (h : -702000000 ≤ D ∧ D ≤ 702000000) : -1950000 ≤ yearOf D ∧ yearOf D ≤ 1950000 := by unfold yearOf; split <;> omega
abbrev fm2 (x1 x2 : Str) (v1 v2 : Int → Int) (m₀ : Str → Option Value) (g : Int) (t1 t2 : Tok) (y : Str) : Option Value := if y = x1 then some (.int (v1 g) t1) else if y = x2 then some (.int (v2 g) t2) else m₀ y
theorem while2 {prog : Program} {A : Around} {env : Env} {test : Expr} {body : List Stmt} {pos : Pos} {Q : Flow → Shared → Prop} (x1 x2 : Str) (v1 v2 : Int → Int) (P : Int → Prop) (μ : Int → Nat) (g0 : Int) {m₀ : Str → Option Value} {t1 t2 : Tok}
    (F : Fr h₀ L s.heap (fun y => if y = x1 then some (.int (v1 g0) t1) else if y = x2 then some (.int (v2 g0) t2) else m₀ y)) (N : News h₀ L s.heap news) (hP : P g0) (hE : PassesOwn (model prog w) A env E)
    (turn : ∀ g t1 t2 h tk, P g → Fr h₀ L h (fun y => if y = x1 then some (.int (v1 g) t1) else if y = x2 then some (.int (v2 g) t2) else m₀ y) → News h₀ L h news →
      wpAny (model prog w) A (isTrue test env (eval test env)) (fun b s₂ =>
        if b = true then wpAny (model prog w) A (execs body env) (W1End h₀ L s news (fm2 x1 x2 v1 v2 m₀) P μ Q g) E s₂ else Q .next s₂) E { s with heap := h, toks := tk }) :
    wpAny (model prog w) A (exec (.While test body [] pos) env) Q E s := while1 (fm2 x1 x2 v1 v2 m₀) P μ g0 t1 t2 F N hP turn hE
theorem while3 {prog : Program} {A : Around} {env : Env} {test : Expr} {body : List Stmt} {pos : Pos} {Q : Flow → Shared → Prop} (x1 : Str) (P : Int → Prop) (μ : Int → Nat) (g0 : Int) {m₀ : Str → Option Value} {t1 : Tok}
    (F : Fr h₀ L s.heap (fun y => if y = x1 then some (.int g0 t1) else m₀ y)) (N : News h₀ L s.heap news) (hP : P g0) (hE : PassesOwn (model prog w) A env E)
    (turn : ∀ g (t1 t2 : Tok) h tk, P g → Fr h₀ L h (fun y => if y = x1 then some (.int g t1) else m₀ y) → News h₀ L h news →
      wpAny (model prog w) A (isTrue test env (eval test env)) (fun b s₂ =>
        if b = true then wpAny (model prog w) A (execs body env) (W1End h₀ L s news (fun g t1 _ y => if y = x1 then some (.int g t1) else m₀ y) P μ Q g) E s₂ else Q .next s₂) E { s with heap := h, toks := tk }) :
    wpAny (model prog w) A (exec (.While test body [] pos) env) Q E s := while1 (fun g t1 _ y => if y = x1 then some (.int g t1) else m₀ y) P μ g0 t1 t1 F N hP turn hE
theorem fm2_step {x1 x2 : Str} {v1 v2 : Int → Int} {m₀ : Str → Option Value} {g g' : Int} {t1 t2 u1 u2 : Tok} (y : Str) :
    (if y = x1 then some (Value.int (v1 g') u1) else if y = x2 then some (Value.int (v2 g') u2) else (if y = x1 then some (Value.int (v1 g) t1) else if y = x2 then some (Value.int (v2 g) t2) else m₀ y)) = fm2 x1 x2 v1 v2 m₀ g' u1 u2 y := by
  unfold fm2
  split
  · rfl
  · split <;> rfl
theorem fm3_step {x1 : Str} {m₀ : Str → Option Value} {g g' : Int} {t1 u1 : Tok} (y : Str) :
    (if y = x1 then some (Value.int g' u1) else (if y = x1 then some (Value.int g t1) else m₀ y)) = (if y = x1 then some (Value.int g' u1) else m₀ y) := by
  split <;> rfl
local macro_rules | `(tactic| walk_at "sub") => `(tactic| first | exact fun _ h => h | exact fun _ h => List.Mem.tail _ h | exact fun _ h => List.Mem.tail _ (List.Mem.tail _ h))
local macro_rules | `(tactic| walk_at "callWith ref") => `(tactic| (k_here; k_dflt (refine' callWith_F ?k1 ?_; (case k1 => refine' RowOK.fnAt ?R ?N ?S; (case R => with_reducible assumption); (case N => k_asm); (case S => walk_at "sub")); k_whole)))
local macro_rules | `(tactic| walk_at "FnAt") => `(tactic| (k_dflt (refine' RowOK.fnAt ?R ?N ?S; (case R => with_reducible assumption); (case N => k_asm); (case S => walk_at "sub"))))
local macro_rules | `(tactic| walk_at "call ref") => `(tactic| (k_here; (with_reducible show wpAny _ _ (call (Value.ref _) [Value.int _ _]) _ _ _); k_dflt (refine' RowOK.call ?R _ _ ?S ?Y ?B ?F ?X ?N ?T ?K ?D ?_; (case R => with_reducible assumption); (case N => k_asm); (case S => walk_at "sub"); (case Y => omega); (case B => k_asm); (case F => k_asm); (case X => k_asm); (case T => k_asm); (case K => first | exact rfl | assumption); (case D => ktr_room)); intro t9 h9 tk9 F9 N9; (try dsimp only); (try k_fold)))
local macro_rules | `(tactic| walk_at "call ref") => `(tactic| (k_here; (with_reducible show wpAny _ _ (call (Value.ref 71) [_]) _ _ _); k_dflt (refine' fromjd_c _ _ ?V ?R ?B ?F ?X ?N ?T ?K ?D ?_; (case V => exact JdV.half (by with_reducible assumption)); (case R => omega); (case B => k_asm); (case F => k_asm); (case X => k_asm); (case N => k_asm); (case T => k_asm); (case K => first | exact rfl | assumption); (case D => ktr_room)); intro x9 mo9 d9 u9 v9 w9 h9 tk9 F9 N9; (try dsimp only); (try k_fold)))
local macro_rules | `(tactic| walk_at "compareOp Gt int") => `(tactic| ((with_reducible refine' w_gt_v ?hv ?hn ?_; (case hv => with_reducible assumption); (case hn => omega)); (try dsimp only)))
local macro_rules | `(tactic| walk_at "compareOp LtE int") => `(tactic| ((with_reducible refine' w_le_v ?hv ?hn ?_; (case hv => with_reducible assumption); (case hn => omega)); (try dsimp only)))
local macro_rules | `(tactic| walk_at "compareOp Lt int") => `(tactic| ((with_reducible refine' w_lt_v ?hv ?hn ?_; (case hv => with_reducible assumption); (case hn => omega)); (try dsimp only)))
local macro_rules | `(tactic| walk_at "WhlIf") => `(tactic| (first | (refine WhlIf.yes ?h ?_; (case h => (simp only [Bool.not_eq_true', Bool.not_eq_false', decide_eq_false_iff_not, decide_eq_true_eq]; omega))) | (refine WhlIf.no ?h ?_; (case h => (simp only [Bool.not_eq_true', Bool.not_eq_false', decide_eq_false_iff_not, decide_eq_true_eq]; omega)))))
theorem lasteq_c {f : Addr} {row : Int → Int} {late : Int} (R : RowOK w news f row) (W : RowLaw late row) (n b : Int) (v : Value) (hv : JdV v n b) (hn : -700000000 ≤ n ∧ n ≤ 700000000)
    (B : Below A₀ base outer h₀) (F : Fr h₀ L s.heap m) (X : (hd.heap_39 w.params).In h₀) (N : News h₀ L s.heap news) (T : Top p loose mean mg mb h₀) (hk : cs.kind = .function)
    (hdp : dp + 5 < recursionLimit)
    (hret : ∀ (g : Int) (t : Tok) h' tk', 2 * row g ≤ b → b < 2 * row (g + 1) → Fr h₀ L h' m → News h₀ L h' news → Q (.int (row g - 1) t) { s with heap := h', toks := tk' }) :
    wpAny (model PySem.Challenge.rw_bb6039_01.row.prog w) (ktrTop dp un gd cn cs L a ccd cl outer) (call (.ref 78) [v, .ref f]) Q E s := by
  have hb := hv.le
  obtain ⟨g0, hg0⟩ : ∃ g0, yearOf (n - 1721426) = g0 := ⟨_, rfl⟩
  have hs := yearOf_spec (n - 1721426)
  have hy := yearOf_bound (D := n - 1721426) (by omega)
  rw [hg0] at hs hy
  have low : ∀ g, b < 2 * row g → g0 - 21 < g := fun g h => by
    rcases Int.lt_or_le (g0 - 21) g with l | l
    · exact l
    · have h1 := W.le l
      have h2 := (W.at' (g0 - 21)).2
      have h3 := jan_le (show g0 - 21 + late + 1 ≤ g0 by have := W.l1; omega)
      have h4 := (jan_step (g0 - 21 + late)).1
      have := W.l1
      omega
  have high : b < 2 * row (g0 + 1) := by
    have h1 := (W.at' (g0 + 1)).1
    have h2 := jan_le (show g0 + 1 ≤ g0 + 1 + late by have := W.l0; omega)
    have := W.l0
    omega
  refine wpAny_call ?_
  k_dflt cell_enter
  k_with "exec While Compare" => (k_here; (rename Fr _ _ _ _ => lF'); (rename News _ _ _ _ => lN'); (with_unfolding_all refine' while2 (Str.ofString "last_equinox") (Str.ofString "guessyear") row (fun g => g) (fun g => g0 - 21 ≤ g ∧ g ≤ g0 ∧ b < 2 * row (g + 1)) (fun g => (g - (g0 - 21)).toNat) (yearOf (n - 1721426)) lF' lN' ?P ?hE ?turn); (case hE => passes_own); (case P => (rw [hg0]; exact ⟨by omega, by omega, high⟩)); clear lF' lN'; intro g t1 t2 h1 tk1 hP F1 N1)
  k_with "exec While UnaryOp" => (k_here; k_dflt (refine whl_start 100 ?_))
  k_steps
  · refine' w1end (g - 1) _ _ ?F ?e ?N ?S ?P ?μ
    (case F => (rename Fr _ _ _ _ => lF'); exact lF')
    (case e => exact fm2_step (x1 := Str.ofString "last_equinox") (x2 := Str.ofString "guessyear") (v1 := row) (v2 := fun g => g) (g := g) (g' := g - 1))
    (case N => k_asm)
    (case S => exact fun _ h => h)
    (case P => have := low g (by assumption); exact ⟨by omega, by omega, by rw [show g - 1 + 1 = g by omega]; assumption⟩)
    (case μ => have := low g (by assumption); omega)
  · exact hret g _ _ _ (by omega) hP.2.2 (by k_asm) (by refine' cb_drop ?cbN ?cbS; (case cbN => assumption); (case cbS => exact fun _ h => List.Mem.tail _ h))
/-- the day in front of the last new year at the moment b/2 -/
noncomputable def lastRow (row : Int → Int) (b : Int) : Int := open Classical in if h : ∃ g, 2 * row g ≤ b ∧ b < 2 * row (g + 1) then row (Classical.choose h) - 1 else 0
theorem lastRow_eq {late : Int} {row : Int → Int} (W : RowLaw late row) {b g : Int} (h1 : 2 * row g ≤ b) (h2 : b < 2 * row (g + 1)) : row g - 1 = lastRow row b := by
  have h : ∃ g, 2 * row g ≤ b ∧ b < 2 * row (g + 1) := ⟨g, h1, h2⟩
  unfold lastRow
  rw [dif_pos h, W.uniq h1 h2 (Classical.choose_spec h).1 (Classical.choose_spec h).2]
theorem RowLaw.near {late : Int} {row : Int → Int} (W : RowLaw late row) (g : Int) : row (g + 1) ≤ row g + 731 := by
  have h1 := (W.at' (g + 1)).2
  have h2 := (W.at' g).1
  have h3 := (jan_step (g + late)).2
  rw [show g + 1 + late = g + late + 1 by omega] at h1
  omega
theorem lasteq_c' {f : Addr} {row : Int → Int} {late : Int} (R : RowOK w news f row) (W : RowLaw late row) (n b : Int) (v : Value) (hv : JdV v n b) (hn : -700000000 ≤ n ∧ n ≤ 700000000)
    (B : Below A₀ base outer h₀) (F : Fr h₀ L s.heap m) (X : (hd.heap_39 w.params).In h₀) (N : News h₀ L s.heap news) (T : Top p loose mean mg mb h₀) (hk : cs.kind = .function)
    (hdp : dp + 5 < recursionLimit)
    (hret : ∀ (t : Tok) h' tk', -700001000 ≤ lastRow row b ∧ lastRow row b ≤ 700001000 → Fr h₀ L h' m → News h₀ L h' news → Q (.int (lastRow row b) t) { s with heap := h', toks := tk' }) :
    wpAny (model PySem.Challenge.rw_bb6039_01.row.prog w) (ktrTop dp un gd cn cs L a ccd cl outer) (call (.ref 78) [v, .ref f]) Q E s := by
  refine lasteq_c R W n b v hv hn B F X N T hk hdp ?_
  intro g t h' tk' h1 h2 F' N'
  have hb := hv.le
  have h3 := W.near g
  rw [lastRow_eq W h1 h2]
  exact hret t h' tk' (by rw [← lastRow_eq W h1 h2]; omega) F' N'
theorem JdV.int {n : Int} {t : Tok} : JdV (.int n t) n (2 * n) := .inl ⟨⟨_, rfl⟩, rfl⟩
theorem JdV.flt {n : Int} {t : Tok} : JdV (.float (hf (2 * n - 1)) t) n (2 * n - 1) := .inr ⟨⟨_, rfl⟩, rfl⟩
local macro_rules | `(tactic| walk_at "call ref") => `(tactic| (k_here; (with_reducible show wpAny _ _ (call (Value.ref 78) [_, Value.ref _]) _ _ _); k_dflt (refine' lasteq_c' ?R ?W _ _ _ ?V ?Y ?B ?F ?X ?N ?T ?K ?D ?_; (case R => first | (with_reducible assumption) | (refine' RowOK.mono ?R0 ?S0; (case R0 => with_reducible assumption); (case S0 => walk_at "sub"))); (case W => with_reducible assumption); (case V => first | (with_reducible assumption) | exact JdV.int | exact JdV.flt); (case Y => omega); (case B => k_asm); (case F => k_asm); (case X => k_asm); (case N => k_asm); (case T => k_asm); (case K => first | exact rfl | assumption); (case D => ktr_room)); intro t9 h9 tk9 hb9 F9 N9; (try dsimp only); (try k_fold)))
local macro_rules | `(tactic| walk_at "binaryOp Div float float") => `(tactic| ((with_reducible refine' w_div_ff ?hx ?hA ?ha ?_; (case hx => walk_at "hf_is"); (case hA => k_dflt (exact rfl)); (case ha => omega)); intro r9 hr9; (try dsimp only)))
local macro_rules | `(tactic| walk_at "call builtin:round") => `(tactic| ((with_reducible refine' w_round_any ?hA ?hf ?_; (case hA => k_dflt (exact rfl)); (case hf => assumption)); intro c9; (try dsimp only)))
theorem pyear_c {f : Addr} {row : Int → Int} {late : Int} (R : RowOK w news f row) (W : RowLaw late row) (n b : Int) (v : Value) (hv : JdV v n b) (hn : -700000000 ≤ n ∧ n ≤ 700000000)
    (B : Below A₀ base outer h₀) (F : Fr h₀ L s.heap m) (X : (hd.heap_39 w.params).In h₀) (N : News h₀ L s.heap news) (T : Top p loose mean mg mb h₀) (hk : cs.kind = .function)
    (hdp : dp + 6 < recursionLimit)
    (hret : ∀ (x : Addr) (k : Int) (t1 t2 : Tok) h' tk', Fr h₀ L h' m → News h₀ L h' ((x, { cls := .type "tuple", data := .seq #[.int k t1, .int (lastRow row b) t2] }) :: news) → Q (.ref x) { s with heap := h', toks := tk' }) :
    wpAny (model PySem.Challenge.rw_bb6039_01.row.prog w) (ktrTop dp un gd cn cs L a ccd cl outer) (call (.ref 85) [v, .ref f]) Q E s := by
  refine wpAny_call ?_
  k_dflt cell_enter
  k_steps
  all_goals (refine' hret _ _ _ _ _ _ ?F ?N; (case F => k_asm); (case N => k_asm))
theorem due_c {f : Addr} {row : Int → Int} {late : Int} (R : RowOK w news f row) (W : RowLaw late row) (b year : Int) (tb ty : Tok) (hy : -1100000 ≤ year ∧ year ≤ 1100000) (hT : 2 * jan (year - 20) ≤ b ∧ b ≤ 2 * jan (year + 40))
    (B : Below A₀ base outer h₀) (F : Fr h₀ L s.heap m) (X : (hd.heap_39 w.params).In h₀) (N : News h₀ L s.heap news) (T : Top p loose mean mg mb h₀) (hk : cs.kind = .function)
    (hdp : dp + 4 < recursionLimit)
    (hret : ∀ (t : Tok) h' tk', Fr h₀ L h' m → News h₀ L h' news → Q (.int (lastRow row b) t) { s with heap := h', toks := tk' }) :
    wpAny (model PySem.Challenge.rw_bb6039_01.row.prog w) (ktrTop dp un gd cn cs L a ccd cl outer) (call (.ref 106) [.ref f, .int b tb, .int year ty]) Q E s := by
  have w0 := W.l0
  have w1 := W.l1
  have low : ∀ g, b < 2 * row g → year - 41 < g := fun g h => by
    have h2 := (W.at' g).2
    have h4 := (jan_step (g + late)).1
    have := jan_back (y := year - 20) (z := g + late) (by omega)
    omega
  have high : ∀ g, 2 * row g ≤ b → g ≤ year + 40 := fun g h => by
    have h2 := (W.at' g).1
    have h4 := (jan_step (year + 40)).1
    have := jan_back (y := g + late) (z := year + 40) (by omega)
    omega
  refine wpAny_call ?_
  k_dflt cell_enter
  k_with_none
  k_with "exec While Compare" => (k_here; (rename Fr _ _ _ _ => lF'); (rename News _ _ _ _ => lN'); (first
    | ((with_unfolding_all refine' while3 (Str.ofString "y") (fun g => year - 41 ≤ g ∧ g ≤ year) (fun g => (g - (year - 41)).toNat) year lF' lN' ?P ?hE ?turn); (case hE => passes_own); (case P => exact ⟨by omega, by omega⟩); clear lF' lN'; intro g t1 t2 h1 tk1 hP F1 N1)
    | ((with_unfolding_all refine' while3 (Str.ofString "y") (fun g => year - 41 ≤ g ∧ g ≤ year + 40 ∧ 2 * row g ≤ b) (fun g => (year + 41 - g).toNat) _ lF' lN' ?Pb ?hEb ?turnb); (case hEb => passes_own); (case Pb => exact ⟨by omega, by omega, by omega⟩); clear lF' lN'; intro g2 t1 t2 h1 tk1 hP2 F1 N1)))
  k_steps
  · refine' w1end (g - 1) _ 0 ?Fe ?ee ?Ne ?Se ?Pe ?μe
    (case Fe => (rename Fr _ _ _ _ => lF'); exact lF')
    (case ee => exact fm3_step (x1 := Str.ofString "y") (g := g) (g' := g - 1))
    (case Ne => k_asm)
    (case Se => exact fun _ h => h)
    (case Pe => have := low g (by assumption); exact ⟨by omega, by omega⟩)
    (case μe => have := low g (by assumption); omega)
  · refine' w1end (g2 + 1) _ 0 ?Fe2 ?ee2 ?Ne2 ?Se2 ?Pe2 ?μe2
    (case Fe2 => (rename Fr _ _ _ _ => lF'); exact lF')
    (case ee2 => exact fm3_step (x1 := Str.ofString "y") (g := g2) (g' := g2 + 1))
    (case Ne2 => k_asm)
    (case Se2 => exact fun _ h => h)
    (case Pe2 => have := high (g2 + 1) (by assumption); exact ⟨by omega, by omega, by assumption⟩)
    (case μe2 => have := high (g2 + 1) (by assumption); omega)
  · have e9 := lastRow_eq W (b := b) (g := g2) (by omega) (by omega)
    refine' cb_retI (Q := Q) hret ?e1 ?e2 ?e3; (case e2 => k_asm); (case e3 => k_asm); (case e1 => exact e9)
local macro_rules | `(tactic| walk_at "rowok") => `(tactic| first | (with_reducible assumption) | (refine' RowOK.mono ?R0 ?S0; (case R0 => with_reducible assumption); (case S0 => walk_at "sub")))
local macro_rules | `(tactic| walk_at "jdv") => `(tactic| first | (with_reducible assumption) | exact JdV.int | exact JdV.flt)
local macro_rules | `(tactic| walk_at "call ref") => `(tactic| (k_here; (with_reducible show wpAny _ _ (call (Value.ref 85) [_, Value.ref _]) _ _ _); k_dflt (refine' pyear_c ?R ?W _ _ _ ?V ?Y ?B ?F ?X ?N ?T ?K ?D ?_; (case R => walk_at "rowok"); (case W => with_reducible assumption); (case V => walk_at "jdv"); (case Y => omega); (case B => k_asm); (case F => k_asm); (case X => k_asm); (case N => k_asm); (case T => k_asm); (case K => first | exact rfl | assumption); (case D => ktr_room)); intro x9 k9 t9 u9 h9 tk9 F9 N9; (try dsimp only); (try k_fold)))
local macro_rules | `(tactic| walk_at "call ref") => `(tactic| (k_here; (with_reducible show wpAny _ _ (call (Value.ref 106) [Value.ref _, Value.int _ _, Value.int _ _]) _ _ _); k_dflt (refine' due_c ?R ?W _ _ _ _ ?Y ?Z ?B ?F ?X ?N ?T ?K ?D ?_; (case R => walk_at "rowok"); (case W => with_reducible assumption); (case Y => omega); (case Z => omega); (case B => k_asm); (case F => k_asm); (case X => k_asm); (case N => k_asm); (case T => k_asm); (case K => first | exact rfl | assumption); (case D => ktr_room)); intro t9 h9 tk9 F9 N9; (try dsimp only); (try k_fold)))
local macro_rules | `(tactic| walk_at "call ref") => `(tactic| (k_here; (with_reducible show wpAny _ _ (call (Value.ref 99) [Value.int _ _]) _ _ _); k_dflt (refine' january_c _ _ ?B ?F ?X ?N ?T ?K ?D ?_; (case B => k_asm); (case F => k_asm); (case X => k_asm); (case N => k_asm); (case T => k_asm); (case K => first | exact rfl | assumption); (case D => ktr_room)); intro t9 h9 tk9 F9 N9; (try dsimp only); (try k_fold)))
theorem asked_c {f : Addr} {row : Int → Int} {late : Int} (R : RowOK w news f row) (W : RowLaw late row) (n year : Int) (tn ty : Tok) (hy : -1100000 ≤ year ∧ year ≤ 1100000) (hT : jan (year - 19) ≤ n ∧ n ≤ jan (year + 40))
    (B : Below A₀ base outer h₀) (F : Fr h₀ L s.heap m) (X : (hd.heap_39 w.params).In h₀) (N : News h₀ L s.heap news) (T : Top p loose mean mg mb h₀) (hk : cs.kind = .function)
    (hdp : dp + 7 < recursionLimit)
    (hret : ∀ (t : Tok) h' tk', Fr h₀ L h' m → News h₀ L h' news → Q (.bool true) { s with heap := h', toks := tk' }) :
    wpAny (model PySem.Challenge.rw_bb6039_01.row.prog w) (ktrTop dp un gd cn cs L a ccd cl outer) (call (.ref 113) [.ref f, .int n tn, .int year ty]) Q E s := by
  have h1 := (jan_step (year - 20)).1
  rw [show year - 20 + 1 = year - 19 by omega] at h1
  have h2 : -700000000 ≤ n ∧ n ≤ 700000000 := by
    have e1 := jan_alt (year - 19)
    have e2 := jan_alt (year + 40)
    omega
  have h3 := jan_bound (y := year) (by omega) (by omega)
  have f1 : 2 * jan year - 1 + 2 * (n - jan year) = 2 * n - 1 := by omega
  refine wpAny_call ?_
  k_dflt cell_enter
  k_with_none
  k_steps
  all_goals first
    | (refine' cb_retB (Q := Q) hret ?e1 ?e2 ?e3; (case e1 => rfl); (case e2 => k_asm); (case e3 => first | k_asm | (refine' cb_drop ?cbN ?cbS; (case cbN => assumption); (case cbS => exact fun _ h => List.Mem.tail _ h))))
    | (rename lastRow _ _ ≠ lastRow _ _ => hq; exact absurd rfl hq)
    | (rename ¬ lastRow _ _ = lastRow _ _ => hq; exact absurd rfl hq)
    | skip
theorem w_pow6 {prog : Program} {A : Around} {t u : Tok} (h : Q (.int 1000000 s.toks) { s with toks := s.toks + 1 }) : wpAny (model prog w) A (binaryOp .Pow (.int 10 t) (.int 6 u)) Q E s :=
  pow_int_small (by decide) (by decide) (by decide) h
theorem w_modp {prog : Program} {A : Around} {t u : Tok} {x y : Int} (hy : 0 < y) (h : Q (.int (x % y) s.toks) { s with toks := s.toks + 1 }) : wpAny (model prog w) A (binaryOp .Mod (.int x t) (.int y u)) Q E s :=
  mod_int' (by omega) (by rw [fm x y (by omega)]; exact h)
def rowF (late p q r : Int) (y : Int) : Int := jan (y + late) + (p * y * y + q * y + r) % 365
theorem rowF_law {late p q r : Int} (h0 : 0 ≤ late) (h1 : late ≤ 20) : RowLaw late (rowF late p q r) :=
  ⟨h0, h1, fun y => by
    unfold rowF
    have a := Int.emod_nonneg (p * y * y + q * y + r) (b := 365) (by decide)
    have b := Int.emod_lt_of_pos (p * y * y + q * y + r) (b := 365) (by decide)
    omega⟩
theorem jan_up (y : Int) (n : Nat) : jan (y + n) ≤ jan y + 366 * n := by
  induction n with
  | zero => simp
  | succ k ih => have := (jan_step (y + k)).2; rw [show y + ((k + 1 : Nat) : Int) = y + k + 1 by omega]; omega
/-- what the law's ends ask -/
def YearFacts (row : Int → Int) (y : Int) : Prop :=
  jan (y - 19) + 6000 ≤ jan y ∧ jan y + 14000 ≤ jan (y + 40) ∧ jan y ≤ row y ∧ row y ≤ jan y + 8000 ∧ -400000000 ≤ jan y ∧ jan y ≤ 400000000 ∧ lastRow row (2 * row y) = row y - 1
theorem yearFacts {late : Int} {row : Int → Int} (W : RowLaw late row) {y : Int} (hy : -1050000 ≤ y ∧ y ≤ 1050000) : YearFacts row y := by
  have w0 := W.l0
  have w1 := W.l1
  have a1 := jan_le (show y - 19 ≤ y by omega)
  have a2 := jan_le (show y ≤ y + 40 by omega)
  have a3 := W.at' y
  have a4 := jan_le (show y ≤ y + late by omega)
  have a5 := jan_up y late.toNat
  rw [show ((late.toNat : Nat) : Int) = late by omega] at a5
  have a6 := jan_alt y
  refine ⟨by omega, by omega, by omega, by omega, by omega, by omega, ?_⟩
  exact (lastRow_eq W (by omega) (by have := W.step y; omega)).symm
theorem row_first {prog : Program} {A : Around} {f : Addr} {late pp qq rr n y : Int} {tn ty : Tok} (_N : News h₀ L s.heap news) (R : RowOK w news f (rowF late pp qq rr)) (hl : 0 ≤ late ∧ late ≤ 20) (hy : -1050000 ≤ y ∧ y ≤ 1050000)
    (h : RowOK w news f (rowF late pp qq rr) → RowLaw late (rowF late pp qq rr) → YearFacts (rowF late pp qq rr) y → wpAny (model prog w) A (call (.ref 113) [.ref f, .int n tn, .int y ty]) Q E s) :
    wpAny (model prog w) A (call (.ref 113) [.ref f, .int n tn, .int y ty]) Q E s :=
  h R (rowF_law hl.1 hl.2) (yearFacts (rowF_law hl.1 hl.2) hy)
local macro_rules | `(tactic| walk_at "binaryOp Pow int int") => `(tactic| (with_reducible refine w_pow6 ?_))
local macro_rules | `(tactic| walk_at "binaryOp Mod int int") => `(tactic| ((with_reducible refine' w_modp ?hy ?_; (case hy => decide))))
local macro_rules | `(tactic| k_mem) => `(tactic| assumption)
local macro_rules | `(tactic| walk_at "call ref") => `(tactic| (k_here; (with_reducible show wpAny _ _ (call (Value.ref 113) [Value.ref _, Value.int _ _, Value.int _ _]) _ _ _); k_dflt (refine' asked_c ?R ?W _ _ _ _ ?Y ?Z ?B ?F ?X ?N ?T ?K ?D ?_; (case R => walk_at "rowok"); (case W => with_reducible assumption); (case Y => omega); (case Z => omega); (case B => k_asm); (case F => k_asm); (case X => k_asm); (case N => k_asm); (case T => k_asm); (case K => first | exact rfl | assumption); (case D => ktr_room)); intro t9 h9 tk9 F9 N9; (try dsimp only); (try k_fold)))
theorem walked : PySem.Challenge.rw_bb6039_01.Holds := hd (by
  k_go0
  all_goals try k_fold
  k_with_none
  k_with "call ref cons nil" => (
    (with_reducible show wpAny _ _ (call (Value.ref 113) [Value.ref _, Value.int _ _, Value.int _ _]) _ _ _);
    (fail_if_success (rename RowOK _ _ _ _ => hR));
    (rename News _ _ _ _ => lN);
    k_dflt (
      (refine' row_first lN ?R1 ?hl1 ?hy1 ?h1);
      (case R1 =>
        apply RowOK.mk
        · exact ⟨_, _, _, _, List.Mem.head _⟩
        intro p loose mean mg mb dp un gd cn cs a ccd cl outer A₀ base h₀ L m s Q E news' y ty hsub hy B F X N T hk hdp hret
        have m1 := hsub _ (List.Mem.head _)
        have m2 := hsub _ (List.Mem.tail _ (List.Mem.head _))
        have m5 := hsub _ (List.Mem.tail _ (List.Mem.tail _ (List.Mem.tail _ (List.Mem.tail _ (List.Mem.head _)))))
        have m6 := hsub _ (List.Mem.tail _ (List.Mem.tail _ (List.Mem.tail _ (List.Mem.tail _ (List.Mem.tail _ (List.Mem.head _))))))
        have m7 := hsub _ (List.Mem.tail _ (List.Mem.tail _ (List.Mem.tail _ (List.Mem.tail _ (List.Mem.tail _ (List.Mem.tail _ (List.Mem.head _)))))))
        have m8 := hsub _ (List.Mem.tail _ (List.Mem.tail _ (List.Mem.tail _ (List.Mem.tail _ (List.Mem.tail _ (List.Mem.tail _ (List.Mem.tail _ (List.Mem.head _))))))))
        clear hsub
        refine wpAny_call ?_
        k_dflt (refine' code_nest ?k1 ?k2 ?k3 ?k4 ?k5 ?kA ?kF ?kK ?k6 ?k7 ?k8 ?k9 ?kB ?_ ?c2 ?c3 ?c4 ?c5; (case kA => exact rfl); (case kF => exact rfl); (case kK => assumption); (case k1 => exact B); (case k2 => exact F); (case k3 => exact X); (case k4 => exact N); (case k5 => exact T); (case k6 => exact m1); (case k7 => exact codeRec_news N m2 (by assumption) (by assumption)); (case k8 => ktr_room); (case k9 => exact BindsTo.of_eq rfl); (case c5 => decide); (case kB => exact locs rfl); (case c2 => exact rfl); (case c3 => exact rfl); (case c4 => exact rfl); k_whole; intro g' L' h' FG' F' N' B' X' T'; (try dsimp only); (try k_lift B'); (try k_fold))
        k_steps
        (refine' cb_retI (Q := Q) hret ?e1 ?e2 ?e3; (case e1 => exact rfl); (case e2 => k_asm); (case e3 => k_asm)));
      (case hl1 => omega);
      (case hy1 => omega);
      intro hRow hLaw hYF; obtain ⟨q1, q2, q3, q4, q5, q6, q7⟩ := hYF))
  k_steps)
end
end
end Mine

set_option maxRecDepth 100000 in
theorem PySem.Challenge.cw_bb6039_01_holds : PySem.Challenge.rw_bb6039_01.Holds :=
  Mine.walked
