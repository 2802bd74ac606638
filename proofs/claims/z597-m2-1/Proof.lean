import JvmDerived
import JvmDerived.Pilot.@@N@@Statement
import JvmDerived.Pilot.@@N@@Code
set_option linter.unusedVariables false
set_option linter.unusedSimpArgs false
namespace OwnFp
open Jvm.FP.Core
theorem sameU {c c' : Nat} {q q' m : Int} (h1 : m ≤ q) (h2 : m ≤ q') (h : inUnits c' q' m = inUnits c q m) : c' * 2 ^ (q' - q).toNat = c * 2 ^ (q - q').toNat := by
  unfold inUnits at h
  rcases Int.le_total q q' with l | l
  · obtain ⟨j, hj⟩ := Int.eq_ofNat_of_zero_le (Int.sub_nonneg.mpr l)
    rw [show (q' - m).toNat = j + (q - m).toNat by omega, Nat.pow_add, ← Nat.mul_assoc] at h
    rw [show (q' - q).toNat = j by omega, show (q - q').toNat = 0 by omega, Nat.pow_zero, Nat.mul_one]
    exact Nat.eq_of_mul_eq_mul_right (Nat.two_pow_pos _) h
  · obtain ⟨j, hj⟩ := Int.eq_ofNat_of_zero_le (Int.sub_nonneg.mpr l)
    rw [show (q - m).toNat = j + (q' - m).toNat by omega, Nat.pow_add, ← Nat.mul_assoc] at h
    rw [show (q - q').toNat = j by omega, show (q' - q).toNat = 0 by omega, Nat.pow_zero, Nat.mul_one]
    exact Nat.eq_of_mul_eq_mul_right (Nat.two_pow_pos _) h
theorem prod {a b : UInt64} {s t : Bool} {c d : Nat} {q r : Int} (ha : val64 a = round b64 (.fin s c q)) (hc : c < 2 ^ 53) (h1 : b64.qmin ≤ q) (h2 : q ≤ b64.qmax) (hb : val64 b = .fin t d r) : val64 (dmul a b) = round b64 (.fin (s != t) (c * d) (q + r)) := by
  obtain ⟨c', q', e, hu⟩ := round_exact good_b64 s (f := b64) hc h1 h2
  have hf : fits b64 (.fin s c' q') := by rw [← e]; exact round_fits good_b64 _
  have k := sameU h1 hf.2.1 hu
  rw [val64_dmul, ha, hb, e]
  refine roundRatio_congr (by decide) (by decide) ?_
  rw [show (q' + r - (q + r)) = q' - q by omega, show (q + r - (q' + r)) = q - q' by omega]
  rw [Nat.mul_one, Nat.mul_one, Nat.mul_right_comm, k, Nat.mul_right_comm]
theorem shift (s : Bool) (c j : Nat) (q : Int) : round b64 (.fin s (c * 2 ^ j) (q - (j : Int))) = round b64 (.fin s c q) := by
  refine roundRatio_congr (by decide) (by decide) ?_
  rw [show (q - (j : Int) - q).toNat = 0 by omega, show (q - (q - (j : Int))).toNat = j by omega]
  simp
theorem cmpSame {a b : UInt64} {s : Bool} {c : Nat} {q : Int} (ha : val64 a = round b64 (.fin s c q)) (hb : val64 b = round b64 (.fin s c q)) : dcmp a b = some .eq := by
  show order (val64 a) (val64 b) = some .eq
  rw [ha, hb]
  have hn : round b64 (.fin s c q) ≠ .nan := roundRatio_ne_nan _ _ _ _ _
  cases h : round b64 (.fin s c q) with
  | nan => exact absurd h hn
  | inf t => simp [order]
  | fin t d r => simp [order]
theorem c1 : val64 0x3FF0000000000000 = .fin false (2 ^ 52) (-52) := by decide +kernel
theorem c31 : val64 (0x3E00000000000000) = .fin false (2 ^ 52) (-83) := by decide +kernel
theorem c20 : val64 (0x3EB0000000000000) = .fin false (2 ^ 52) (-72) := by decide +kernel
theorem cA : val64 4607182410210082816 = .fin false (1048575 * 2 ^ 33) (-53) := by decide +kernel
theorem cB : val64 4607182423094984704 = .fin false (1048577 * 2 ^ 32) (-52) := by decide +kernel
theorem cT : val64 103582791429521408 = .fin false (2 ^ 52) (-1052) := by decide +kernel

theorem rr {s : Bool} {N K : Nat} (h1 : 2 ^ (52 + K) ≤ N) (h2 : N < 2 ^ (52 + K + 1)) : roundRatio b64 s N 1 (-1052) = settle b64 s (nearest N (2 ^ K)) ((K : Int) - 1052) := by
  have hN : N ≠ 0 := Nat.ne_of_gt (Nat.lt_of_lt_of_le (Nat.two_pow_pos _) h1)
  have hl : N.log2 = 52 + K := (Nat.log2_eq_iff hN).mpr ⟨h1, h2⟩
  have hd : (1 : Nat).log2 = 0 := by decide
  have hlead : leading N 1 = ((52 + K : Nat) : Int) := by
    unfold leading
    simp only [hl, hd]
    rw [if_pos]
    · simp
    · rw [show (((52 + K : Nat) : Int) - ((0 : Nat) : Int)).toNat = 52 + K by omega, show (-(((52 + K : Nat) : Int) - ((0 : Nat) : Int))).toNat = 0 by omega, Nat.one_mul, Nat.pow_zero, Nat.mul_one]
      exact h1
  have hq : quantum b64 N 1 (-1052) = (K : Int) - 1052 := by
    unfold quantum
    rw [hlead, show b64.qmin = -1074 by decide, show b64.p = 53 from rfl]
    omega
  unfold roundRatio
  rw [if_neg hN, hq]
  unfold roundAt unitsNum unitsDen
  rw [show (-1052 - ((K : Int) - 1052)).toNat = 0 by omega, show ((K : Int) - 1052 - (-1052)).toNat = K by omega, Nat.pow_zero, Nat.mul_one, Nat.one_mul]
theorem near_up {c r B : Nat} (h : 2 * r < B) : nearest (c * B + r) B = c := by
  have hm : (c * B + r) % B = r := by rw [Nat.mul_comm, Nat.mul_add_mod]; exact Nat.mod_eq_of_lt (by omega)
  have hd : (c * B + r) / B = c := by rw [Nat.mul_comm, Nat.mul_add_div (by omega), Nat.div_eq_of_lt (by omega), Nat.add_zero]
  unfold nearest
  rw [hm, hd, if_pos h]
theorem near_dn {c r B : Nat} (h0 : 0 < r) (h : 2 * r < B) : nearest ((c + 1) * B - r) B = c + 1 := by
  have e : (c + 1) * B - r = c * B + (B - r) := by rw [Nat.add_mul, Nat.one_mul]; omega
  have hm : (c * B + (B - r)) % B = B - r := by rw [Nat.mul_comm, Nat.mul_add_mod]; exact Nat.mod_eq_of_lt (by omega)
  have hd : (c * B + (B - r)) / B = c := by rw [Nat.mul_comm, Nat.mul_add_div (by omega), Nat.div_eq_of_lt (by omega), Nat.add_zero]
  unfold nearest
  rw [e, hm, hd, if_neg (by omega), if_pos (by omega)]
theorem settleLt {s : Bool} {c : Nat} {q : Int} (h : c < 2 ^ 53) (hq : q ≤ 0) : settle b64 s c q = .fin s c q := by
  unfold settle bound
  rw [show b64.p = 53 from rfl, if_pos h, if_pos (Int.le_trans hq (by decide))]
theorem absUp {c K : Nat} (h1 : 2 ^ 52 ≤ c) (h2 : c < 2 ^ 53) (hK : 60 ≤ K) (hq : (K : Int) - 1052 ≤ 0) : roundRatio b64 false (c * 2 ^ K + 2 ^ 52) 1 (-1052) = .fin false c ((K : Int) - 1052) := by
  have hp : 2 * 2 ^ 52 < 2 ^ K := Nat.lt_of_lt_of_le (by decide : 2 * 2 ^ 52 < 2 ^ 60) (Nat.pow_le_pow_right (by decide) hK)
  rw [rr (K := K), near_up hp, settleLt h2 hq]
  · rw [Nat.pow_add]; exact Nat.le_trans (Nat.mul_le_mul_right _ h1) (Nat.le_add_right _ _)
  · calc c * 2 ^ K + 2 ^ 52 < c * 2 ^ K + 2 ^ K := by omega
      _ = (c + 1) * 2 ^ K := by rw [Nat.add_mul, Nat.one_mul]
      _ ≤ 2 ^ 53 * 2 ^ K := Nat.mul_le_mul_right _ h2
      _ = 2 ^ (52 + K + 1) := by rw [← Nat.pow_add]; congr 1; omega
theorem absDn {c K : Nat} (h1 : 2 ^ 52 ≤ c) (h2 : c < 2 ^ 53) (hK : 60 ≤ K) (hq : (K : Int) - 1052 ≤ 0) : roundRatio b64 true (c * 2 ^ K - 2 ^ 52) 1 (-1052) = .fin true c ((K : Int) - 1052) := by
  have hp : 2 * 2 ^ 52 < 2 ^ K := Nat.lt_of_lt_of_le (by decide : 2 * 2 ^ 52 < 2 ^ 60) (Nat.pow_le_pow_right (by decide) hK)
  rcases Nat.eq_or_lt_of_le h1 with e | l
  · obtain ⟨J, rfl⟩ : ∃ J, K = J + 1 := ⟨K - 1, by omega⟩
    subst e
    have hp' : 2 * 2 ^ 52 < 2 ^ J := Nat.lt_of_lt_of_le (by decide : 2 * 2 ^ 52 < 2 ^ 59) (Nat.pow_le_pow_right (by decide) (by omega))
    obtain ⟨d, hd⟩ : ∃ d, d + 1 = 2 ^ 53 := ⟨2 ^ 53 - 1, by decide⟩
    have ep : 2 ^ 52 * 2 ^ (J + 1) = 2 ^ 53 * 2 ^ J := by rw [← Nat.pow_add, ← Nat.pow_add]; congr 1; omega
    rw [ep, ← hd, rr (K := J), near_dn (by decide) hp', hd]
    · unfold settle bound
      rw [show b64.p = 53 from rfl, if_neg (Nat.lt_irrefl _), show b64.tails = 2 ^ 52 by decide, if_pos (Int.le_trans (b := 0) (by omega) (by decide))]
      congr 1; omega
    · rw [hd, Nat.pow_add]
      have e2 : 2 ^ 53 * 2 ^ J = 2 ^ 52 * 2 ^ J + 2 ^ 52 * 2 ^ J := by rw [show (2 : Nat) ^ 53 = 2 ^ 52 + 2 ^ 52 by decide, Nat.add_mul]
      have e3 : 2 ^ 52 ≤ 2 ^ 52 * 2 ^ J := Nat.le_mul_of_pos_right _ (Nat.two_pow_pos _)
      rw [e2]
      generalize 2 ^ 52 * 2 ^ J = X at e3 ⊢
      omega
    · rw [hd]
      have e2 : 2 ^ 53 * 2 ^ J = 2 ^ (52 + J + 1) := by rw [← Nat.pow_add]; congr 1; omega
      rw [e2]
      exact Nat.sub_lt (Nat.two_pow_pos _) (by decide)
  · obtain ⟨d, rfl⟩ : ∃ d, c = d + 1 := ⟨c - 1, by omega⟩
    rw [rr (K := K), near_dn (by decide) hp, settleLt h2 hq]
    · rw [Nat.pow_add]
      have : (2 ^ 52 + 1) * 2 ^ K ≤ (d + 1) * 2 ^ K := Nat.mul_le_mul_right _ (by omega)
      rw [Nat.add_mul, Nat.one_mul] at this
      omega
    · calc (d + 1) * 2 ^ K - 2 ^ 52 ≤ (d + 1) * 2 ^ K := Nat.sub_le _ _
        _ < 2 ^ 53 * 2 ^ K := Nat.mul_lt_mul_of_pos_right h2 (Nat.two_pow_pos _)
        _ = 2 ^ (52 + K + 1) := by rw [← Nat.pow_add]; congr 1; omega
theorem absorb {p t : UInt64} {s : Bool} {c K : Nat} (hp : val64 p = .fin s c ((K : Int) - 1052)) (h1 : 2 ^ 52 ≤ c) (h2 : c < 2 ^ 53) (hK : 60 ≤ K) (hq : (K : Int) - 1052 ≤ 0) (ht : val64 t = .fin false (2 ^ 52) (-1052)) : val64 (dadd p t) = .fin s c ((K : Int) - 1052) := by
  rw [val64_dadd, hp, ht]
  have hm : min ((K : Int) - 1052) (-1052) = -1052 := by omega
  have hu : sumUnits s c ((K : Int) - 1052) false (2 ^ 52) (-1052) (-1052) = signed s (c * 2 ^ K) + ((2 ^ 52 : Nat) : Int) := by
    unfold sumUnits inUnits
    rw [show ((K : Int) - 1052 - (-1052)).toNat = K by omega]
    rfl
  have hbig : 2 ^ 52 < c * 2 ^ K := by
    calc 2 ^ 52 < 2 ^ 52 * 2 ^ 1 := by decide
      _ ≤ c * 2 ^ K := Nat.mul_le_mul h1 (Nat.pow_le_pow_right (by decide) (by omega))
  show round b64 (.fin (sumSign s false (sumUnits s c ((K : Int) - 1052) false (2 ^ 52) (-1052) (min ((K : Int) - 1052) (-1052)))) (sumUnits s c ((K : Int) - 1052) false (2 ^ 52) (-1052) (min ((K : Int) - 1052) (-1052))).natAbs (min ((K : Int) - 1052) (-1052))) = _
  rw [hm, hu]
  cases s
  · have e1 : (signed false (c * 2 ^ K) + ((2 ^ 52 : Nat) : Int)).natAbs = c * 2 ^ K + 2 ^ 52 := by
      show (((c * 2 ^ K : Nat) : Int) + ((2 ^ 52 : Nat) : Int)).natAbs = _
      generalize c * 2 ^ K = X
      omega
    have e2 : sumSign false false (signed false (c * 2 ^ K) + ((2 ^ 52 : Nat) : Int)) = false := by
      show sumSign false false (((c * 2 ^ K : Nat) : Int) + ((2 ^ 52 : Nat) : Int)) = false
      generalize c * 2 ^ K = X
      unfold sumSign
      rw [if_neg (by omega)]
      exact decide_eq_false (by omega)
    rw [e1, e2]; exact absUp h1 h2 hK hq
  · have e1 : (signed true (c * 2 ^ K) + ((2 ^ 52 : Nat) : Int)).natAbs = c * 2 ^ K - 2 ^ 52 := by
      show (-((c * 2 ^ K : Nat) : Int) + ((2 ^ 52 : Nat) : Int)).natAbs = _
      generalize c * 2 ^ K = X at hbig ⊢
      omega
    have e2 : sumSign true false (signed true (c * 2 ^ K) + ((2 ^ 52 : Nat) : Int)) = true := by
      show sumSign true false (-((c * 2 ^ K : Nat) : Int) + ((2 ^ 52 : Nat) : Int)) = true
      generalize c * 2 ^ K = X at hbig ⊢
      unfold sumSign
      rw [if_neg (by omega)]
      exact decide_eq_true (by omega)
    rw [e1, e2]; exact absDn h1 h2 hK hq
/-- the sum with 2^-1000 rounds back -/
theorem absorb' {p t : UInt64} {s : Bool} {m : Nat} {τ : Int} (hp : val64 p = round b64 (.fin s m τ)) (h0 : m ≠ 0) (hm : m < 2 ^ 53) (h1 : -60 ≤ τ) (h2 : τ ≤ 0) (ht : val64 t = .fin false (2 ^ 52) (-1052)) : val64 (dadd p t) = round b64 (.fin s m τ) := by
  have l1 : 2 ^ m.log2 ≤ m := Nat.log2_self_le h0
  have l2 : m < 2 ^ (m.log2 + 1) := Nat.lt_log2_self
  have l3 : m.log2 < 53 := (Nat.pow_lt_pow_iff_right (by decide : 1 < 2)).mp (Nat.lt_of_le_of_lt l1 hm)
  generalize m.log2 = L at l1 l2 l3
  obtain ⟨j, hj⟩ : ∃ j, j = 52 - L := ⟨_, rfl⟩
  have c1 : 2 ^ 52 ≤ m * 2 ^ j := by
    calc 2 ^ 52 = 2 ^ L * 2 ^ j := by rw [← Nat.pow_add]; congr 1; omega
      _ ≤ m * 2 ^ j := Nat.mul_le_mul_right _ l1
  have c2 : m * 2 ^ j < 2 ^ 53 := by
    calc m * 2 ^ j < 2 ^ (L + 1) * 2 ^ j := Nat.mul_lt_mul_of_pos_right l2 (Nat.two_pow_pos _)
      _ = 2 ^ 53 := by rw [← Nat.pow_add]; congr 1; omega
  obtain ⟨K, hK⟩ : ∃ K : Nat, (K : Int) - 1052 = τ - (j : Int) := ⟨(τ - (j : Int) + 1052).toNat, by omega⟩
  have e : round b64 (.fin s m τ) = .fin s (m * 2 ^ j) ((K : Int) - 1052) := by
    rw [← shift s m j τ, hK]
    refine round_of_fits good_b64 ⟨c2, ?_, ?_, Or.inr ?_⟩
    · rw [show b64.qmin = -1074 by decide]; omega
    · exact Int.le_trans (b := 0) (by omega) (by decide)
    · rw [show b64.tails = 2 ^ 52 by decide]; exact c1
  rw [e] at hp ⊢
  exact absorb hp c1 c2 (by omega) (by omega) ht

theorem bne_f (s : Bool) : (s != false) = s := by cases s <;> rfl
theorem prodS {a b : UInt64} {s : Bool} {c d j : Nat} {q r : Int} (ha : val64 a = round b64 (.fin s c q)) (hc : c < 2 ^ 53) (h1 : -200 ≤ q) (h2 : q ≤ 0) (hb : val64 b = .fin false (d * 2 ^ j) (r - (j : Int))) : val64 (dmul a b) = round b64 (.fin s (c * d) (q + r)) := by
  rw [prod ha hc (by rw [show b64.qmin = -1074 by decide]; omega) (Int.le_trans h2 (by decide)) hb, bne_f, ← Nat.mul_assoc, show q + (r - (j : Int)) = (q + r) - (j : Int) by omega, shift]
theorem int_i {k : Int32} : val64 (i2d k) = round b64 (.fin (decide (k.toInt < 0)) k.toInt.natAbs 0) := val64_i2d k
theorem int_l {w : Int64} {k : Int} {m : Nat} (hm : 0 < m) (h : w.toInt = k * m) : val64 (l2d w) = round b64 (.fin (decide (k < 0)) (k.natAbs * m) 0) := by
  rw [val64_l2d, h]
  unfold ofInt
  have e1 : (k * (m : Int)).natAbs = k.natAbs * m := by rw [Int.natAbs_mul, Int.natAbs_natCast]
  have e2 : (k * (m : Int) < 0) ↔ (k < 0) := by
    constructor
    · intro h; exact Int.not_le.mp fun g => Int.not_le.mpr h (Int.mul_nonneg g (Int.natCast_nonneg m))
    · intro h; exact Int.mul_neg_of_neg_of_pos h (Int.natCast_pos.mpr hm)
  rw [e1, decide_eq_decide.mpr e2]
/-- the two scales -/
def Scale (sc : UInt64) (σ : Int) : Prop := (σ = 0 ∨ σ = -31) ∧ val64 sc = .fin false (1 * 2 ^ 52) (σ - (52 : Nat))
theorem scale1 : Scale 0x3FF0000000000000 0 := ⟨Or.inl rfl, c1⟩
theorem scale31 : Scale 0x3E00000000000000 (-31) := ⟨Or.inr rfl, c31⟩
theorem absLe (k : Int32) : k.toInt.natAbs ≤ 2147483648 := by have h1 := Int32.toInt_lt k; have h2 := Int32.le_toInt k; omega
theorem sofar {k : Int32} {sc : UInt64} {σ : Int} (S : Scale sc σ) : val64 (dmul (i2d k) sc) = round b64 (.fin (decide (k.toInt < 0)) k.toInt.natAbs σ) := by
  have := absLe k
  have h := prodS (d := 1) (j := 52) (r := σ) (int_i (k := k)) (by omega) (by decide) (by decide) S.2
  rwa [Nat.mul_one, Int.zero_add] at h
theorem expect {k : Int32} {w : Int64} {sc : UInt64} {σ : Int} {m : Nat} (S : Scale sc σ) (hm : 0 < m) (hm2 : m ≤ 1048577) (h : w.toInt = k.toInt * m) : val64 (dmul (dmul (l2d w) sc) 0x3EB0000000000000) = round b64 (.fin (decide (k.toInt < 0)) (k.toInt.natAbs * m) (σ - 20)) := by
  have hk := absLe k
  have hb : k.toInt.natAbs * m < 2 ^ 53 := Nat.lt_of_le_of_lt (Nat.mul_le_mul hk hm2) (by decide)
  have h1 := prodS (d := 1) (j := 52) (r := σ) (int_l hm h) hb (by decide) (by decide) S.2
  rw [Nat.mul_one, Int.zero_add] at h1
  have hσ := S.1
  have h2 := prodS (d := 1) (j := 52) (r := -20) h1 hb (by omega) (by omega) c20
  rwa [Nat.mul_one, ← Int.sub_eq_add_neg] at h2
theorem grow {k : Int32} {w : Int64} {sc : UInt64} {σ : Int} (S : Scale sc σ) (h : w.toInt = k.toInt * 1048575) : dcmp (dmul (dmul (i2d k) sc) 4607182410210082816) (dmul (dmul (l2d w) sc) 0x3EB0000000000000) = some .eq := by
  have hk := absLe k
  have hσ := S.1
  have g := prodS (d := 1048575) (j := 33) (r := -20) (sofar (k := k) S) (by omega) (by omega) (by omega) cA
  rw [← Int.sub_eq_add_neg] at g
  exact cmpSame g (expect S (m := 1048575) (by decide) (by decide) h)
theorem shrink {k : Int32} {w : Int64} {sc : UInt64} {σ : Int} (S : Scale sc σ) (h0 : k.toInt ≠ 0) (h : w.toInt = k.toInt * 1048577) : dcmp (dadd (dmul (dmul (i2d k) sc) 4607182423094984704) 103582791429521408) (dmul (dmul (l2d w) sc) 0x3EB0000000000000) = some .eq := by
  have hk := absLe k
  have hσ := S.1
  have g := prodS (d := 1048577) (j := 32) (r := -20) (sofar (k := k) S) (by omega) (by omega) (by omega) cB
  rw [← Int.sub_eq_add_neg] at g
  have hb : k.toInt.natAbs * 1048577 < 2 ^ 53 := Nat.lt_of_le_of_lt (Nat.mul_le_mul_right _ hk) (by decide)
  exact cmpSame (absorb' g (by omega) hb (by omega) (by omega) cT) (expect S (m := 1048577) (by decide) (by decide) h)
theorem nought1 : dcmp (dadd (dmul (dmul (i2d 0) 0x3FF0000000000000) 4607182423094984704) 103582791429521408) 103582791429521408 = some .eq := by decide +kernel
theorem nought31 : dcmp (dadd (dmul (dmul (i2d 0) 0x3E00000000000000) 4607182423094984704) 103582791429521408) 103582791429521408 = some .eq := by decide +kernel
theorem nn {a : UInt64} {s : Bool} {c : Nat} {q : Int} (h : val64 a = round b64 (.fin s c q)) : Jvm.Free.Fl.NoNaN64 a := (Jvm.Free.Fl.dcmp_some (cmpSame h h)).1
theorem expect1 {k : Int32} {w : Int64} {sc : UInt64} {σ : Int} {m : Nat} (S : Scale sc σ) (hm : 0 < m) (hm2 : m ≤ 1048577) (h : w.toInt = k.toInt * m) : val64 (dmul (l2d w) sc) = round b64 (.fin (decide (k.toInt < 0)) (k.toInt.natAbs * m) σ) := by
  have hk := absLe k
  have hb : k.toInt.natAbs * m < 2 ^ 53 := Nat.lt_of_le_of_lt (Nat.mul_le_mul hk hm2) (by decide)
  have h1 := prodS (d := 1) (j := 52) (r := σ) (int_l hm h) hb (by decide) (by decide) S.2
  rwa [Nat.mul_one, Int.zero_add] at h1
theorem growV {k : Int32} {sc : UInt64} {σ : Int} (S : Scale sc σ) : val64 (dmul (dmul (i2d k) sc) 4607182410210082816) = round b64 (.fin (decide (k.toInt < 0)) (k.toInt.natAbs * 1048575) (σ + -20)) := by
  have hk := absLe k
  have hσ := S.1
  exact prodS (d := 1048575) (j := 33) (r := -20) (sofar (k := k) S) (by omega) (by omega) (by omega) cA
theorem shrinkV {k : Int32} {sc : UInt64} {σ : Int} (S : Scale sc σ) : val64 (dmul (dmul (i2d k) sc) 4607182423094984704) = round b64 (.fin (decide (k.toInt < 0)) (k.toInt.natAbs * 1048577) (σ + -20)) := by
  have hk := absLe k
  have hσ := S.1
  exact prodS (d := 1048577) (j := 32) (r := -20) (sofar (k := k) S) (by omega) (by omega) (by omega) cB
theorem finOf {d : Datum} (h : fits b64 d) : True := trivial
theorem nnS {k : Int32} {sc : UInt64} {σ : Int} (S : Scale sc σ) : Jvm.Free.Fl.NoNaN64 (dadd (dmul (dmul (i2d k) sc) 4607182423094984704) 103582791429521408) := by
  have hk := absLe k
  have hσ := S.1
  have hb : k.toInt.natAbs * 1048577 < 2 ^ 53 := Nat.lt_of_le_of_lt (Nat.mul_le_mul_right _ hk) (by decide)
  have g := shrinkV (k := k) S
  by_cases h0 : k.toInt.natAbs * 1048577 = 0
  · have e : val64 (dadd (dmul (dmul (i2d k) sc) 4607182423094984704) 103582791429521408) = round b64 (.fin false (2 ^ 52) (-1052)) := by
      rw [val64_dadd, g, cT, h0]
      have hz : round b64 (.fin (decide (k.toInt < 0)) 0 (σ + -20)) = .fin (decide (k.toInt < 0)) 0 b64.qmin := rfl
      rw [hz]
      have hk0 : decide (k.toInt < 0) = false := decide_eq_false (by omega)
      rw [hk0]
      decide +kernel
    exact nn e
  · exact nn (absorb' g h0 hb (by omega) (by omega) cT)
end OwnFp


namespace Jvm.OwnW
open Sem ClassFile Op Lib Jvm.Free Jvm.LawKit Jvm.RoadKit
abbrev Cx : Type := Program × Env × State × MethodId × Array Value × List Frame × Method × Code
abbrev Cx.p (x : Cx) : Program := x.1
abbrev Cx.e (x : Cx) : Env := x.2.1
abbrev Cx.s (x : Cx) : State := x.2.2.1
abbrev Cx.m (x : Cx) : MethodId := x.2.2.2.1
abbrev Cx.args (x : Cx) : Array Value := x.2.2.2.2.1
abbrev Cx.below (x : Cx) : List Frame := x.2.2.2.2.2.1
abbrev Cx.meth (x : Cx) : Method := x.2.2.2.2.2.2.1
abbrev Cx.c (x : Cx) : Code := x.2.2.2.2.2.2.2
/-- how a contract ends: narrow or wide -/
def FinE (wd : Bool) (Z : State) (EL : List (String × Nat)) (s : State) (o : Outcome) (t : State) (L : List Loc) (k n : Nat) : Prop :=
  match wd with
  | false => FrameEnd s o t L k n
  | true => CHr Z EL s.vm s.heap t.vm t.heap ∧ ReturnedEndW s o t L k n
def Ct (wd : Bool) (l : Launch) (Z : State) (EL : List (String × Nat)) (y : MethodName) (bytes : ByteArray) (maxL : Nat) (ret : Option FieldType) (ws : List Jvm.Cond) (R : Room) (sf : List Addr) (as' : Array Value) (h : Heap) (Q : Option Value → Heap → Prop) : Prop :=
  MetFree l y (head1 (Jvm.Cond.code y bytes maxL ret :: ws) R) (fun a U => a = as' ∧ Z.Warmed39 U.vm ∧ U.heap = h ∧ (wd = true → CHv Z EL U.vm h ∧ ∀ y ∈ sf, Safe Z EL U.vm h y)) (fun _ _ _ _ _ => True)
    (fun _ U o U' => ∃ v L, o = .returned v ∧ (Q v U'.heap ∧ Fr Z.heap.size L ∧ Ext Z.heap U'.heap ∧ h.size ≤ U'.heap.size) ∧ FinE wd Z EL U o U' L R.cells R.slots)
def Go (x : Cx) (wd : Bool) (Z : State) (EL : List (String × Nat)) (R : Room) (Q : Option Value → Heap → Prop) (T : State) (pc : Nat) (ls : Array Slot) (st : List Value) : Prop :=
  ∃ s₂ o, Steps x.p.tables x.e x.below (T.setTop (mkF x.m pc ls st)) s₂ ∧ s₂.status = .running ∧ Ended s₂ x.below o ∧ ∃ v L, o = .returned v ∧ (Q v s₂.heap ∧ Fr Z.heap.size L ∧ Ext Z.heap s₂.heap ∧ x.s.heap.size ≤ s₂.heap.size) ∧ FinE wd Z EL x.s o s₂ L R.cells R.slots
def W (x : Cx) (wd : Bool) (l : Launch) (Z : State) (EL : List (String × Nat)) (R : Room) (own : String) (code : ByteArray) (mx : Nat) (ret : Option FieldType) (nm : String) (T : State) (h : Heap) (k n : Nat) (sf : List Addr) : Prop :=
  x.p.tables.exec = Jvm.exec ∧ x.c.code = code ∧ x.c.maxLocals = mx ∧ x.meth.sig.returnType = ret ∧ x.meth.name = nm ∧ x.meth.locks = false ∧ T.heap = h ∧ Ext Z.heap h ∧ k ≤ R.cells ∧ n ≤ R.slots ∧ (∀ y ∈ sf, Z.heap.size ≤ y ∧ y < h.size) ∧ (∃ a0, EW Z a0 EL) ∧
    ∃ (L : List Loc) (vm0 : Vm), Fr Z.heap.size L ∧ (wd = false → vm0 = x.s.vm) ∧ Stand x.p l x.e R (x.s.setVm vm0) x.m x.args x.below x.meth x.c T L k n ∧ x.s.Since vm0 h.size ∧ Z.Warmed39 vm0 ∧ vm0.findClass own = some x.m.cls ∧ (wd = true → CHr Z EL x.s.vm x.s.heap vm0 h ∧ ∀ y ∈ sf, Safe Z EL vm0 h y)
/-- an instruction, its length, the next pc -/
def Dc (code : ByteArray) (pc : Nat) (i : Instr) (len pc' : Nat) : Prop := decode code pc = .ok (i, len) ∧ pc + len = pc'
/-- where a branch goes -/
def Tg (pc : Nat) (o : Int) (pc' : Nat) : Prop := 0 ≤ (pc : Int) + o ∧ ((pc : Int) + o).toNat = pc'
theorem since_mono {s : State} {vm : Vm} {n n' : Nat} (h : s.Since vm n) (q : n ≤ n') : s.Since vm n' := ⟨h.1, h.2.mono q⟩
theorem setVm_self (s : State) : s.setVm s.vm = s := rfl
theorem ext_refl (h : Heap) : Ext h h := ⟨Nat.le_refl _, fun _ _ q => q⟩
theorem ext_trans {a b c : Heap} (h1 : Ext a b) (h2 : Ext b c) : Ext a c := ⟨Nat.le_trans h1.1 h2.1, fun x q r => h2.2 x q (h1.2 x q r)⟩
theorem ext_wr {Z : State} {h h' : Heap} {a : Addr} {sl : Nat} {v : Value} (E : Ext Z.heap h) (w : Wr h h' a sl v) (q : Z.heap.size ≤ a) : Ext Z.heap h' := (Old.wr ⟨rfl, E⟩ w q).2
theorem keep_ext {h h' : Heap} {ws : List Addr} (E : Ext h h') : Keep h h' ws := (Keep.refl h ws).ext E
theorem ext_keep {h h' : Heap} (K : Keep h h' []) : Ext h h' := ⟨K.1, fun x c q => K.2.1 x c q nin0⟩
theorem keep_to {h0 h h' : Heap} {ws : List Addr} (E : Ext h0 h) (K : Keep h h' ws) (q : ∀ x ∈ ws, h0.size ≤ x) : Ext h0 h' :=
  ⟨Nat.le_trans E.1 K.1, fun x c r => K.2.1 x c (E.2 x c r) fun z => absurd (Array.getElem?_eq_some_iff.mp r).1 (Nat.not_lt.mpr (q x z))⟩
theorem Ct.mono {wd : Bool} {l : Launch} {Z : State} {EL : List (String × Nat)} {y : MethodName} {bytes : ByteArray} {maxL : Nat} {ret : Option FieldType} {ws : List Jvm.Cond} {R : Room} {sf : List Addr} {as' : Array Value} {h : Heap} {Q Q' : Option Value → Heap → Prop} (C : Ct wd l Z EL y bytes maxL ret ws R sf as' h Q) (q : ∀ v u, Q v u → Q' v u) : Ct wd l Z EL y bytes maxL ret ws R sf as' h Q' := by
  intro p e h1 h2 h3 s m args below h4 h5 h6 h7
  obtain ⟨n, o, a1, a2, a3, v, L, a4, a5, a6⟩ := C p e h1 h2 h3 s m args below h4 h5 h6 h7
  exact ⟨n, o, a1, a2, a3, v, L, a4, ⟨q _ _ a5.1, a5.2⟩, a6⟩
theorem Ct.intro {wd : Bool} {l : Launch} {Z : State} {EL : List (String × Nat)} {y : MethodName} {bytes : ByteArray} {maxL : Nat} {ret : Option FieldType} {ws : List Jvm.Cond} {R : Room} {sf : List Addr} {as' : Array Value} {h : Heap} {Q : Option Value → Heap → Prop} {ls : Array Slot}
    (hpl : plainName y.cls = true) (hE : Ext Z.heap h) (ef : ∀ m, entryFrame m as' maxL = mkF m 0 ls []) (hsf : ∀ y ∈ sf, Z.heap.size ≤ y ∧ y < h.size) (hEL : ∃ a0, EW Z a0 EL)
    (body : ∀ (x : Cx) (T : State), W x wd l Z EL R y.cls bytes maxL ret y.name T h 0 0 sf → Go x wd Z EL R Q T 0 ls []) : Ct wd l Z EL y bytes maxL ret ws R sf as' h Q := by
  refine MetFree.of_bodySF (plainFor_of_name hpl) hisR ?_
  intro p e s m args below meth c s₁ Bd hml0 hP hK
  obtain ⟨rfl, hZ, hh, hC⟩ := hP
  have hown : s.vm.findClass y.cls = some m.cls := findClass_of_methodNamed Bd.named
  have hnm := (name_of_methodNamed Bd.named Bd.method).1
  have e0 : s₁.heap = h := by rw [← hh, Bd.state]; rfl
  obtain ⟨s₂, o, a1, a2, a3, v, L, a4, a5, a6⟩ := body (p, e, s, m, args, below, meth, c) s₁ ⟨Bd.exec, Bd.bytes, hml0, Bd.returns, hnm, Bd.notSynchronized, e0, hE, Nat.zero_le _, Nat.zero_le _, hsf, hEL, [], s.vm, Fr.nil _, fun _ => rfl, Stand.of_body Bd, (State.WarmedH.refl s).since _, hZ, hown, fun q => ⟨by show CHr Z EL s.vm s.heap s.vm h; rw [hh]; exact CHr.refl (hC q).1, (hC q).2⟩⟩
  exact ⟨s₂, o, castTop (ef m) a1, a2, a3, v, L, a4, ⟨a5.1, a5.2.1, a5.2.2.1, by rw [← hh]; exact a5.2.2.2⟩, a6⟩
theorem nosf {Z : State} {h : Heap} : ∀ y ∈ ([] : List Addr), Z.heap.size ≤ y ∧ y < h.size := fun _ q => nomatch q
theorem onesf {Z : State} {h : Heap} {a : Addr} (g : Z.heap.size ≤ a) (q : a < h.size) : ∀ y ∈ [a], Z.heap.size ≤ y ∧ y < h.size := fun y z => by cases List.mem_singleton.mp z; exact ⟨g, q⟩
theorem noEL {Z : State} {a0 : Array Value} : ∃ a0, EW Z a0 [] := ⟨a0, EW.nil⟩
/-- a wide callee's contract, as the library's calls want it -/
theorem backW {p : Program} {l : Launch} {e : Env} {R : Room} {s : State} {args : Array Value} {below : List Frame} {Z : State} {a0 : Array Value} {EL : List (String × Nat)} {h : Heap} {vm0 : Vm} {y : MethodName} {bytes : ByteArray} {maxL : Nat} {ret : Option FieldType} {rm : Room} {len Wn : Nat} {as' : Array Value} {sf : List Addr} {Q : Option Value → Heap → Prop}
    (hM : Ct true l Z EL y bytes maxL ret [] rm sf as' h Q) (hZ : Z.Warmed39 vm0) (wc : (Jvm.Cond.code y bytes maxL ret).before a0 Z = true) (wz : (Jvm.Cond.initialized y.cls).before a0 Z = true) (hf : rm.frames + 1 ≤ R.frames) (hl : Wn + (maxL + 11) + rm.locals ≤ R.locals) (hEL : ∃ a0, EW Z a0 EL) (H : CHv Z EL vm0 h) (hsf : ∀ y ∈ sf, y < h.size ∧ Safe Z EL vm0 h y) :
    BackS l R p e below (s.setVm vm0) args y len Wn (fun A a => a = as' ∧ A.U.heap = h ∧ A.cells + rm.cells ≤ R.cells ∧ A.slots + rm.slots ≤ R.slots)
      (fun A _ v B => ∃ L, (Q v B.U.heap ∧ Fr Z.heap.size L ∧ Ext Z.heap B.U.heap ∧ h.size ≤ B.U.heap.size) ∧ B.locs = A.locs ++ L ∧ B.cells = A.cells + rm.cells ∧ B.slots = A.slots + rm.slots ∧ CHr Z EL vm0 h B.U.vm B.U.heap) := by
  obtain ⟨a1, hEL⟩ := hEL
  exact BackS.of_freeW (bytes := bytes) (maxL := maxL) (ret := ret) (E := fun _ first o t L k n => k = rm.cells ∧ n = rm.slots ∧ (∃ v, o = .returned v ∧ (Q v t.heap ∧ Fr Z.heap.size L ∧ Ext Z.heap t.heap ∧ h.size ≤ t.heap.size)) ∧ CHr Z EL first.vm first.heap t.vm t.heap) hM hf hl
    (fun m meth c A a Y hp => have hU : Z.Warmed39 A.U.vm := wtrans (s := s.setVm vm0) hZ Y.warmed
      ⟨by show (Jvm.Cond.and _ .tt).before a A.U = true; rw [Cond.before_and, mv hU wc]; rfl, mv hU wc, mv hU wz, hp.2.2.1, hp.2.2.2⟩)
    (fun m meth c A a g mk Y hp => ⟨hp.1, wtrans (s := s.setVm vm0) hZ Y.warmed, hp.2.1, fun _ => ⟨(CHv.at Y hZ hEL H).1, fun y hy => (CHv.at Y hZ hEL H).safe (hsf y hy).1 (hsf y hy).2⟩⟩) (fun _ _ _ _ _ _ _ _ _ => trivial)
    (fun _ _ _ _ ⟨v, L, h1, h2, h3, h4⟩ => ⟨L, _, _, h4, rfl, rfl, ⟨v, h1, h2⟩, h3⟩)
    (fun m meth c A a g mk v t L k n Y hp _ _ ⟨e1, e2, ⟨v', e3, e4⟩, e5⟩ => by
      cases e3; subst e1 e2
      refine ⟨L, e4, rfl, rfl, rfl, (CHv.at Y hZ hEL H).trans ?_⟩
      rw [← hp.2.1]; exact e5)
/-- a narrow callee's -/
theorem backN {p : Program} {l : Launch} {e : Env} {R : Room} {s : State} {args : Array Value} {below : List Frame} {Z : State} {a0 : Array Value} {EL : List (String × Nat)} {h : Heap} {y : MethodName} {bytes : ByteArray} {maxL : Nat} {ret : Option FieldType} {rm : Room} {len Wn : Nat} {as' : Array Value} {sf : List Addr} {Q : Option Value → Heap → Prop}
    (hM : Ct false l Z EL y bytes maxL ret [] rm sf as' h Q) (hZ : Z.Warmed39 s.vm) (wc : (Jvm.Cond.code y bytes maxL ret).before a0 Z = true) (wz : (Jvm.Cond.initialized y.cls).before a0 Z = true) (hf : rm.frames + 1 ≤ R.frames) (hl : Wn + (maxL + 11) + rm.locals ≤ R.locals) :
    Back l R p e below s args y len Wn (fun A a => a = as' ∧ A.U.heap = h ∧ A.cells + rm.cells ≤ R.cells ∧ A.slots + rm.slots ≤ R.slots)
      (fun A _ v B => ∃ L, (Q v B.U.heap ∧ Fr Z.heap.size L ∧ Ext Z.heap B.U.heap ∧ h.size ≤ B.U.heap.size) ∧ B.locs = A.locs ++ L ∧ B.cells = A.cells + rm.cells ∧ B.slots = A.slots + rm.slots) :=
  backOf (Q := fun v u L => Q v u ∧ Fr Z.heap.size L ∧ Ext Z.heap u ∧ h.size ≤ u.size) (fun p e h1 h2 h3 s m args below h4 h5 h6 h7 => hM p e h1 h2 h3 s m args below h4 h5 ⟨h6.1, h6.2.1, h6.2.2, fun q => by cases q⟩ h7) hZ wc wz hf hl
section Laws
variable {x : Cx} {wd : Bool} {l : Launch} {Z : State} {EL : List (String × Nat)} {sf : List Addr} {R : Room} {own : String} {code : ByteArray} {mx : Nat} {ret : Option FieldType} {nm : String} {T : State} {h : Heap} {k n : Nat} {Q : Option Value → Heap → Prop} {pc pc' pcT : Nat} {ls : Array Slot} {st : List Value} {a0 : Array Value}
theorem W.old (w : W x wd l Z EL R own code mx ret nm T h k n sf) : Ext Z.heap h := w.2.2.2.2.2.2.2.1
theorem W.size (w : W x wd l Z EL R own code mx ret nm T h k n sf) : Z.heap.size ≤ h.size := w.old.1
theorem W.sta {C f d : String} {v : Value} (w : W x wd l Z EL R own code mx ret nm T h k n sf) (F : Sta Z Z.heap C f d v) : Sta Z h C f d v := F.ext w.old
/-- more cells and slots may be booked -/
theorem W.more {k' n' : Nat} (w : W x wd l Z EL R own code mx ret nm T h k n sf) (hk : k ≤ k') (hn : n ≤ n') (hk' : k' ≤ R.cells) (hn' : n' ≤ R.slots) : W x wd l Z EL R own code mx ret nm T h k' n' sf := by
  obtain ⟨a1, a2, a3, a4, a5, a6, a7, a8, a9, a10, a13, a14, L, vm0, a11, a12, X, b1, b2, b3, b4⟩ := w
  exact ⟨a1, a2, a3, a4, a5, a6, a7, a8, hk', hn', a13, a14, L, vm0, a11, a12, X.mono hk hn, b1, b2, b3, b4⟩
/-- fewer places that may be written -/
theorem W.less {sf' : List Addr} (w : W x wd l Z EL R own code mx ret nm T h k n sf) (q : ∀ y ∈ sf', y ∈ sf) : W x wd l Z EL R own code mx ret nm T h k n sf' := by
  obtain ⟨a1, a2, a3, a4, a5, a6, a7, a8, a9, a10, a13, a14, L, vm0, a11, a12, X, b1, b2, b3, b4⟩ := w
  exact ⟨a1, a2, a3, a4, a5, a6, a7, a8, a9, a10, fun y hy => a13 y (q y hy), a14, L, vm0, a11, a12, X, b1, b2, b3, fun e => ⟨(b4 e).1, fun y hy => (b4 e).2 y (q y hy)⟩⟩
/-- a new address that may be written, made by a callee -/
theorem W.adopt (w : W x wd l Z EL R own code mx ret nm T h k n sf) {d : Addr} (g : Z.heap.size ≤ d) (q : d < h.size) (f : ∀ vm, Z.Warmed39 vm → Safe Z EL vm h d) : W x wd l Z EL R own code mx ret nm T h k n (d :: sf) := by
  obtain ⟨a1, a2, a3, a4, a5, a6, a7, a8, a9, a10, a13, a14, L, vm0, a11, a12, X, b1, b2, b3, b4⟩ := w
  refine ⟨a1, a2, a3, a4, a5, a6, a7, a8, a9, a10, fun y hy => ?_, a14, L, vm0, a11, a12, X, b1, b2, b3, fun e => ⟨(b4 e).1, fun y hy => ?_⟩⟩
  · rcases List.mem_cons.mp hy with rfl | hy
    · exact ⟨g, q⟩
    · exact a13 y hy
  · rcases List.mem_cons.mp hy with rfl | hy
    · exact f vm0 b2
    · exact (b4 e).2 y hy
theorem W.go {pc' : Nat} {ls' : Array Slot} {st' : List Value} (w : W x wd l Z EL R own code mx ret nm T h k n sf)
    (f : At T x.m x.c x.below → x.p.tables.exec = Jvm.exec → x.c.code = code → ∀ target, Steps x.p.tables x.e x.below (T.setTop (mkF x.m pc' ls' st')) target → Steps x.p.tables x.e x.below (T.setTop (mkF x.m pc ls st)) target)
    (K : Go x wd Z EL R Q T pc' ls' st') : Go x wd Z EL R Q T pc ls st := by
  obtain ⟨s₂, o, a1, r⟩ := K
  obtain ⟨hx, hb, -, -, -, -, -, -, -, -, -, -, L, vm0, -, -, X, -⟩ := w
  exact ⟨s₂, o, f X.here hx hb _ a1, r⟩
/-- a step that only warms the tables -/
theorem W.goT {pc' : Nat} {ls' : Array Slot} {st' : List Value} (w : W x wd l Z EL R own code mx ret nm T h k n sf)
    (f : ∀ (s0 : State) (L : List Loc), Stand x.p l x.e R s0 x.m x.args x.below x.meth x.c T L k n → x.p.tables.exec = Jvm.exec → Z.Warmed39 s0.vm → s0.vm.findClass own = some x.m.cls → x.c.code = code → x.c.maxLocals = mx → T.heap = h → ∃ T', Stand x.p l x.e R s0 x.m x.args x.below x.meth x.c T' L k n ∧ T'.heap = h ∧ ∀ target, Steps x.p.tables x.e x.below (T'.setTop (mkF x.m pc' ls' st')) target → Steps x.p.tables x.e x.below (T.setTop (mkF x.m pc ls st)) target)
    (K : ∀ T', W x wd l Z EL R own code mx ret nm T' h k n sf → Go x wd Z EL R Q T' pc' ls' st') : Go x wd Z EL R Q T pc ls st := by
  obtain ⟨hx, hb, hm, hr, hn, hl, e0, E, c1, c2, hs, hEL, L, vm0, N, g, X, S, hZ, ho, hC⟩ := w
  obtain ⟨T', X', e', stp⟩ := f _ L X hx hZ ho hb hm e0
  obtain ⟨s₂, o, a1, r⟩ := K T' ⟨hx, hb, hm, hr, hn, hl, e', E, c1, c2, hs, hEL, L, vm0, N, g, X', S, hZ, ho, hC⟩
  exact ⟨s₂, o, stp _ a1, r⟩
/-- a step that makes a cell -/
theorem W.goN {pc' : Nat} {ls' : Array Slot} {st' : List Value} {k' n' : Nat} {P : Heap → Prop} (w : W x wd l Z EL R own code mx ret nm T h k n sf) (hk : k' ≤ R.cells) (hn' : n' ≤ R.slots)
    (f : ∀ (s0 : State) (L : List Loc), Stand x.p l x.e R s0 x.m x.args x.below x.meth x.c T L k n → x.p.tables.exec = Jvm.exec → Z.Warmed39 s0.vm → s0.vm.findClass own = some x.m.cls → x.c.code = code → x.c.maxLocals = mx → T.heap = h → ∃ T' h', Stand x.p l x.e R s0 x.m x.args x.below x.meth x.c T' L k' n' ∧ T'.heap = h' ∧ Ext h h' ∧ h.size < h'.size ∧ P h' ∧ ∀ target, Steps x.p.tables x.e x.below (T'.setTop (mkF x.m pc' ls' st')) target → Steps x.p.tables x.e x.below (T.setTop (mkF x.m pc ls st)) target)
    (K : ∀ T' h', W x wd l Z EL R own code mx ret nm T' h' k' n' (h.size :: sf) → Ext h h' → P h' → Go x wd Z EL R Q T' pc' ls' st') : Go x wd Z EL R Q T pc ls st := by
  obtain ⟨hx, hb, hm, hr, hn, hl, e0, E, c1, c2, hs, hEL, L, vm0, N, g, X, S, hZ, ho, hC⟩ := w
  obtain ⟨T', h', X', e', E', hlt, p', stp⟩ := f _ L X hx hZ ho hb hm e0
  obtain ⟨s₂, o, a1, r⟩ := K T' h' ⟨hx, hb, hm, hr, hn, hl, e', ext_trans E E', hk, hn', fun y hy => by
      rcases List.mem_cons.mp hy with rfl | hy
      · exact ⟨E.1, hlt⟩
      · exact ⟨(hs y hy).1, Nat.lt_of_lt_of_le (hs y hy).2 E'.1⟩, hEL, L, vm0, N, g, X', since_mono S E'.1, hZ, ho, fun q => ⟨(hC q).1.trans (CHr.ext E' (hC q).1.1), fun y hy => by
      rcases List.mem_cons.mp hy with rfl | hy
      · exact (Safe.new (Nat.le_refl _)).ext E' (hC q).1.1
      · exact ((hC q).2 y hy).ext E' (hC q).1.1⟩⟩ E' p'
  exact ⟨s₂, o, stp _ a1, r⟩
/-- a step that writes one place of a new cell -/
theorem W.goW {pc' : Nat} {ls' : Array Slot} {st' : List Value} {a : Addr} {sl : Nat} {v : Value} (w : W x wd l Z EL R own code mx ret nm T h k n sf) (ha : a ∈ sf)
    (f : ∀ (s0 : State) (L : List Loc), Stand x.p l x.e R s0 x.m x.args x.below x.meth x.c T L k n → x.p.tables.exec = Jvm.exec → Z.Warmed39 s0.vm → s0.vm.findClass own = some x.m.cls → x.c.code = code → x.meth.name = nm → T.heap = h → ∃ T' h', Stand x.p l x.e R s0 x.m x.args x.below x.meth x.c T' (L ++ [⟨a, sl⟩]) k n ∧ T'.heap = h' ∧ Wr h h' a sl v ∧ ∀ target, Steps x.p.tables x.e x.below (T'.setTop (mkF x.m pc' ls' st')) target → Steps x.p.tables x.e x.below (T.setTop (mkF x.m pc ls st)) target)
    (K : ∀ T' h', W x wd l Z EL R own code mx ret nm T' h' k n sf → Wr h h' a sl v → Go x wd Z EL R Q T' pc' ls' st') : Go x wd Z EL R Q T pc ls st := by
  obtain ⟨hx, hb, hm, hr, hn, hl, e0, E, c1, c2, hs, hEL, L, vm0, N, g, X, S, hZ, ho, hC⟩ := w
  obtain ⟨T', h', X', e', W', stp⟩ := f _ L X hx hZ ho hb hn e0
  have hz := W'.size
  obtain ⟨s₂, o, a1, r⟩ := K T' h' ⟨hx, hb, hm, hr, hn, hl, e', ext_wr E W' (hs a ha).1, c1, c2, fun y hy => ⟨(hs y hy).1, by rw [hz]; exact (hs y hy).2⟩, hEL, _, vm0, Fr.snoc X' N (hs a ha).1, g, X', since_mono S (Nat.le_of_eq hz.symm), hZ, ho, fun q => ⟨(hC q).1.trans (CHr.wr W' ((hC q).2 a ha) (hC q).1.1), fun y hy => Safe.wr W' ((hC q).2 a ha) (hC q).1.1 ((hC q).2 y hy)⟩⟩ W'
  exact ⟨s₂, o, stp _ a1, r⟩
/-- the end: the value v is handed back -/
theorem W.done {v : Option Value} (w : W x wd l Z EL R own code mx ret nm T h k n sf) (hv : ret = none → v = none) (hQ : Q v h)
    (f : ∀ (s0 : State) (L : List Loc), Stand x.p l x.e R s0 x.m x.args x.below x.meth x.c T L k n → x.p.tables.exec = Jvm.exec → x.c.code = code → x.meth.sig.returnType = ret → ∀ fs : List Frame, (∀ (f : JFrame) (acts : List Action), f.method = x.m → f.locked = none → f.entered = [] → (doReturn x.e (T.setTop f) acts v).1 = T.setFrames fs) → Steps x.p.tables x.e x.below (T.setTop (mkF x.m pc ls st)) (T.setFrames fs)) : Go x wd Z EL R Q T pc ls st := by
  obtain ⟨hx, hb, hm, hr, hn, hl, e0, E, c1, c2, hs, ⟨a9, hEL⟩, L, vm0, N, g, X, S, hZ, ho, hC⟩ := w
  have hv' : x.meth.sig.returnType = none → v = none := fun q => hv (hr ▸ q)
  have hh : ∀ fs, (T.setFrames fs).heap = h := fun fs => e0
  have hg : ∀ fs, x.s.heap.size ≤ (T.setFrames fs).heap.size := fun fs => X.same.2.1
  cases wd with
  | false =>
    have eq := g rfl
    subst eq
    obtain ⟨fs, h1, h2, h3, h4, h5⟩ := X.leave (v := v) hv' hl
    exact ⟨_, _, f _ L X hx hb hr fs h1, h2, h3, v, L, rfl, ⟨(hh fs).symm ▸ hQ, N, (hh fs).symm ▸ E, hg fs⟩, ⟨⟨v, rfl⟩, h4, h5.mono c1 c2⟩⟩
  | true =>
    obtain ⟨fs, h1, h2, h3, h4⟩ := X.leaveW S (by rw [e0]; exact Nat.le_refl _) (v := v) hv' hl
    have hC2 : CHr Z EL x.s.vm x.s.heap T.vm T.heap := by rw [e0]; exact (hC rfl).1.trans (CHv.at X hZ hEL (hC rfl).1.1)
    exact ⟨_, _, f _ L X hx hb hr fs h1, h2, h3, v, L, rfl, ⟨(hh fs).symm ▸ hQ, N, (hh fs).symm ▸ E, hg fs⟩, hC2, ⟨h4.1, h4.2.1, h4.2.2.1, h4.2.2.2.mono c1 c2⟩⟩

theorem W.aloadN (w : W x wd l Z EL R own code mx ret nm T h k n sf) {i : Fin 4} {v : Value} (hd : Dc code pc (.aload_n i) 1 pc') (hl : ls[i.val]? = some (.val v)) (hv : v.isRef = true) (K : Go x wd Z EL R Q T pc' ls (v :: st)) : Go x wd Z EL R Q T pc ls st := by
  obtain ⟨hd, rfl⟩ := hd
  exact w.go (fun A hx hb t hr => XS.aloadN A hx rfl (Jvm.hb hb hd) hl hv hr) K
theorem W.aload (w : W x wd l Z EL R own code mx ret nm T h k n sf) {i : Nat} {v : Value} (hd : Dc code pc (.aload i) 2 pc') (hl : ls[i]? = some (.val v)) (hv : v.isRef = true) (K : Go x wd Z EL R Q T pc' ls (v :: st)) : Go x wd Z EL R Q T pc ls st := by
  obtain ⟨hd, rfl⟩ := hd
  exact w.go (fun A hx hb t hr => XS.aload A hx rfl (Jvm.hb hb hd) hl hv hr) K
theorem W.iloadN (w : W x wd l Z EL R own code mx ret nm T h k n sf) {i : Fin 4} {v : Int32} (hd : Dc code pc (.iload_n i) 1 pc') (hl : ls[i.val]? = some (.val (.int v))) (K : Go x wd Z EL R Q T pc' ls (.int v :: st)) : Go x wd Z EL R Q T pc ls st := by
  obtain ⟨hd, rfl⟩ := hd
  exact w.go (fun A hx hb t hr => XS.iloadN A hx rfl (Jvm.hb hb hd) hl hr) K
theorem W.iload (w : W x wd l Z EL R own code mx ret nm T h k n sf) {i : Nat} {v : Int32} (hd : Dc code pc (.iload i) 2 pc') (hl : ls[i]? = some (.val (.int v))) (K : Go x wd Z EL R Q T pc' ls (.int v :: st)) : Go x wd Z EL R Q T pc ls st := by
  obtain ⟨hd, rfl⟩ := hd
  exact w.go (fun A hx hb t hr => XS.iload A hx rfl (Jvm.hb hb hd) hl hr) K
theorem W.lloadN (w : W x wd l Z EL R own code mx ret nm T h k n sf) {i : Fin 4} {v : Int64} (hd : Dc code pc (.lload_n i) 1 pc') (hl : ls[i.val]? = some (.val (.long v))) (K : Go x wd Z EL R Q T pc' ls (.long v :: st)) : Go x wd Z EL R Q T pc ls st := by
  obtain ⟨hd, rfl⟩ := hd
  exact w.go (fun A hx hb t hr => XT.lloadN A hx rfl (Jvm.hb hb hd) hl hr) K
theorem W.lload (w : W x wd l Z EL R own code mx ret nm T h k n sf) {i : Nat} {v : Int64} (hd : Dc code pc (.lload i) 2 pc') (hl : ls[i]? = some (.val (.long v))) (K : Go x wd Z EL R Q T pc' ls (.long v :: st)) : Go x wd Z EL R Q T pc ls st := by
  obtain ⟨hd, rfl⟩ := hd
  exact w.go (fun A hx hb t hr => XT.lload A hx rfl (Jvm.hb hb hd) hl hr) K
theorem W.iconst (w : W x wd l Z EL R own code mx ret nm T h k n sf) {i : Int} (v : Int32) (hd : Dc code pc (.iconst i) 1 pc') (hv : Int32.ofInt i = v) (K : Go x wd Z EL R Q T pc' ls (.int v :: st)) : Go x wd Z EL R Q T pc ls st := by
  obtain ⟨hd, rfl⟩ := hd
  exact w.go (fun A hx hb t hr => XT.iconstV A hx rfl v (Jvm.hb hb hd) hv hr) K
theorem W.bipush (w : W x wd l Z EL R own code mx ret nm T h k n sf) {i : Int} (v : Int32) (hd : Dc code pc (.bipush i) 2 pc') (hv : (Int8.ofInt i).toInt32 = v) (K : Go x wd Z EL R Q T pc' ls (.int v :: st)) : Go x wd Z EL R Q T pc ls st := by
  obtain ⟨hd, rfl⟩ := hd
  exact w.go (fun A hx hb t hr => XT.bipushV A hx rfl v (Jvm.hb hb hd) hv hr) K
theorem W.sipush (w : W x wd l Z EL R own code mx ret nm T h k n sf) {i : Int} (v : Int32) (hd : Dc code pc (.sipush i) 3 pc') (hv : (Int16.ofInt i).toInt32 = v) (K : Go x wd Z EL R Q T pc' ls (.int v :: st)) : Go x wd Z EL R Q T pc ls st := by
  obtain ⟨hd, rfl⟩ := hd
  exact w.go (fun A hx hb t hr => XT.sipushV A hx rfl v (Jvm.hb hb hd) hv hr) K
theorem W.lconst (w : W x wd l Z EL R own code mx ret nm T h k n sf) {i : Fin 2} (v : Int64) (hd : Dc code pc (.lconst i) 1 pc') (hv : Int64.ofNat i = v) (K : Go x wd Z EL R Q T pc' ls (.long v :: st)) : Go x wd Z EL R Q T pc ls st := by
  obtain ⟨hd, rfl⟩ := hd
  exact w.go (fun A hx hb t hr => XT.lconstV A hx rfl v (Jvm.hb hb hd) hv hr) K
theorem W.aconstNull (w : W x wd l Z EL R own code mx ret nm T h k n sf) (hd : Dc code pc .aconst_null 1 pc') (K : Go x wd Z EL R Q T pc' ls (.null :: st)) : Go x wd Z EL R Q T pc ls st := by
  obtain ⟨hd, rfl⟩ := hd
  exact w.go (fun A hx hb t hr => XS.aconstNull A hx rfl (Jvm.hb hb hd) hr) K
theorem W.iadd (w : W x wd l Z EL R own code mx ret nm T h k n sf) {a b : Int32} (hd : Dc code pc .iadd 1 pc') (K : Go x wd Z EL R Q T pc' ls (.int (a + b) :: st)) : Go x wd Z EL R Q T pc ls (.int b :: .int a :: st) := by
  obtain ⟨hd, rfl⟩ := hd
  exact w.go (fun A hx hb t hr => XS.iadd A hx rfl (Jvm.hb hb hd) rfl hr) K
theorem W.isub (w : W x wd l Z EL R own code mx ret nm T h k n sf) {a b : Int32} (hd : Dc code pc .isub 1 pc') (K : Go x wd Z EL R Q T pc' ls (.int (a - b) :: st)) : Go x wd Z EL R Q T pc ls (.int b :: .int a :: st) := by
  obtain ⟨hd, rfl⟩ := hd
  exact w.go (fun A hx hb t hr => XS.isub A hx rfl (Jvm.hb hb hd) rfl hr) K
theorem W.imul (w : W x wd l Z EL R own code mx ret nm T h k n sf) {a b : Int32} (hd : Dc code pc .imul 1 pc') (K : Go x wd Z EL R Q T pc' ls (.int (a * b) :: st)) : Go x wd Z EL R Q T pc ls (.int b :: .int a :: st) := by
  obtain ⟨hd, rfl⟩ := hd
  exact w.go (fun A hx hb t hr => XS.imul A hx rfl (Jvm.hb hb hd) rfl hr) K
theorem W.iand (w : W x wd l Z EL R own code mx ret nm T h k n sf) {a b : Int32} (hd : Dc code pc .iand 1 pc') (K : Go x wd Z EL R Q T pc' ls (.int (a &&& b) :: st)) : Go x wd Z EL R Q T pc ls (.int b :: .int a :: st) := by
  obtain ⟨hd, rfl⟩ := hd
  exact w.go (fun A hx hb t hr => XS.iand A hx rfl (Jvm.hb hb hd) rfl hr) K
theorem W.ior (w : W x wd l Z EL R own code mx ret nm T h k n sf) {a b : Int32} (hd : Dc code pc .ior 1 pc') (K : Go x wd Z EL R Q T pc' ls (.int (a ||| b) :: st)) : Go x wd Z EL R Q T pc ls (.int b :: .int a :: st) := by
  obtain ⟨hd, rfl⟩ := hd
  exact w.go (fun A hx hb t hr => XT.ior A hx rfl (Jvm.hb hb hd) rfl hr) K
theorem W.ixor (w : W x wd l Z EL R own code mx ret nm T h k n sf) {a b : Int32} (hd : Dc code pc .ixor 1 pc') (K : Go x wd Z EL R Q T pc' ls (.int (a ^^^ b) :: st)) : Go x wd Z EL R Q T pc ls (.int b :: .int a :: st) := by
  obtain ⟨hd, rfl⟩ := hd
  exact w.go (fun A hx hb t hr => XT.ixor A hx rfl (Jvm.hb hb hd) rfl hr) K
theorem W.iushr (w : W x wd l Z EL R own code mx ret nm T h k n sf) {a b : Int32} (hd : Dc code pc .iushr 1 pc') (K : Go x wd Z EL R Q T pc' ls (.int (XT.ushr a b) :: st)) : Go x wd Z EL R Q T pc ls (.int b :: .int a :: st) := by
  obtain ⟨hd, rfl⟩ := hd
  exact w.go (fun A hx hb t hr => XT.iushr A hx rfl (Jvm.hb hb hd) rfl hr) K
theorem W.ishl (w : W x wd l Z EL R own code mx ret nm T h k n sf) {a b : Int32} (hd : Dc code pc .ishl 1 pc') (K : Go x wd Z EL R Q T pc' ls (.int (a <<< (b &&& 31)) :: st)) : Go x wd Z EL R Q T pc ls (.int b :: .int a :: st) := by
  obtain ⟨hd, rfl⟩ := hd
  exact w.go (fun A hx hb t hr => XT.ishl A hx rfl (Jvm.hb hb hd) rfl hr) K
theorem W.ishr (w : W x wd l Z EL R own code mx ret nm T h k n sf) {a b : Int32} (hd : Dc code pc .ishr 1 pc') (K : Go x wd Z EL R Q T pc' ls (.int (a >>> (b &&& 31)) :: st)) : Go x wd Z EL R Q T pc ls (.int b :: .int a :: st) := by
  obtain ⟨hd, rfl⟩ := hd
  exact w.go (fun A hx hb t hr => XT.ishr A hx rfl (Jvm.hb hb hd) rfl hr) K
theorem W.irem (w : W x wd l Z EL R own code mx ret nm T h k n sf) {a b : Int32} (hd : Dc code pc .irem 1 pc') (hy : b ≠ 0) (K : Go x wd Z EL R Q T pc' ls (.int (a % b) :: st)) : Go x wd Z EL R Q T pc ls (.int b :: .int a :: st) := by
  obtain ⟨hd, rfl⟩ := hd
  have q : a - a / b * b = a % b := irem_eq_mod a b
  exact w.go (fun A hx hb t hr => XS.irem A hx rfl (Jvm.hb hb hd) rfl hy (by rw [q]; exact hr)) K
theorem W.idiv (w : W x wd l Z EL R own code mx ret nm T h k n sf) {a b : Int32} (hd : Dc code pc .idiv 1 pc') (hy : b ≠ 0) (K : Go x wd Z EL R Q T pc' ls (.int (a / b) :: st)) : Go x wd Z EL R Q T pc ls (.int b :: .int a :: st) := by
  obtain ⟨hd, rfl⟩ := hd
  exact w.go (fun A hx hb t hr => XS.idiv A hx rfl (Jvm.hb hb hd) rfl hy hr) K
theorem W.ineg (w : W x wd l Z EL R own code mx ret nm T h k n sf) {a : Int32} (hd : Dc code pc .ineg 1 pc') (K : Go x wd Z EL R Q T pc' ls (.int (-a) :: st)) : Go x wd Z EL R Q T pc ls (.int a :: st) := by
  obtain ⟨hd, rfl⟩ := hd
  exact w.go (fun A hx hb t hr => XS.ineg A hx rfl (Jvm.hb hb hd) rfl hr) K
theorem W.i2c (w : W x wd l Z EL R own code mx ret nm T h k n sf) {a : Int32} (hd : Dc code pc .i2c 1 pc') (K : Go x wd Z EL R Q T pc' ls (.int (nar .char a) :: st)) : Go x wd Z EL R Q T pc ls (.int a :: st) := by
  obtain ⟨hd, rfl⟩ := hd
  exact w.go (fun A hx hb t hr => XT.i2c A hx rfl (Jvm.hb hb hd) rfl hr) K
theorem W.i2b (w : W x wd l Z EL R own code mx ret nm T h k n sf) {a : Int32} (hd : Dc code pc .i2b 1 pc') (K : Go x wd Z EL R Q T pc' ls (.int (nar .byte a) :: st)) : Go x wd Z EL R Q T pc ls (.int a :: st) := by
  obtain ⟨hd, rfl⟩ := hd
  exact w.go (fun A hx hb t hr => XT.i2b A hx rfl (Jvm.hb hb hd) rfl hr) K
theorem W.dload (w : W x wd l Z EL R own code mx ret nm T h k n sf) {i : Nat} {v : UInt64} (hd : Dc code pc (.dload i) 2 pc') (hl : ls[i]? = some (.val (.double v))) (K : Go x wd Z EL R Q T pc' ls (.double v :: st)) : Go x wd Z EL R Q T pc ls st := by
  obtain ⟨hd, rfl⟩ := hd
  exact w.go (fun A hx hb t hr => XS.dload A hx rfl (Jvm.hb hb hd) hl hr) K
theorem W.dloadN (w : W x wd l Z EL R own code mx ret nm T h k n sf) {i : Fin 4} {v : UInt64} (hd : Dc code pc (.dload_n i) 1 pc') (hl : ls[i.val]? = some (.val (.double v))) (K : Go x wd Z EL R Q T pc' ls (.double v :: st)) : Go x wd Z EL R Q T pc ls st := by
  obtain ⟨hd, rfl⟩ := hd
  exact w.go (fun A hx hb t hr => XS.dloadN A hx rfl (Jvm.hb hb hd) hl hr) K
theorem W.dstore (w : W x wd l Z EL R own code mx ret nm T h k n sf) {i : Nat} {v : UInt64} (ls' : Array Slot) (hd : Dc code pc (.dstore i) 2 pc') (hl : storeLocals ls i (.double v) = some ls') (K : Go x wd Z EL R Q T pc' ls' st) : Go x wd Z EL R Q T pc ls (.double v :: st) := by
  obtain ⟨hd, rfl⟩ := hd
  exact w.go (fun A hx hb t hr => XS.dstore A hx rfl (Jvm.hb hb hd) rfl hl hr) K
theorem W.lstore (w : W x wd l Z EL R own code mx ret nm T h k n sf) {i : Nat} {v : Int64} (ls' : Array Slot) (hd : Dc code pc (.lstore i) 2 pc') (hl : storeLocals ls i (.long v) = some ls') (K : Go x wd Z EL R Q T pc' ls' st) : Go x wd Z EL R Q T pc ls (.long v :: st) := by
  obtain ⟨hd, rfl⟩ := hd
  exact w.go (fun A hx hb t hr => XT.lstore A hx rfl (Jvm.hb hb hd) rfl hl hr) K
theorem W.dconst1 (w : W x wd l Z EL R own code mx ret nm T h k n sf) (hd : Dc code pc (.dconst 1) 1 pc') (K : Go x wd Z EL R Q T pc' ls (.double 4607182418800017408 :: st)) : Go x wd Z EL R Q T pc ls st := by
  obtain ⟨hd, rfl⟩ := hd
  exact w.go (fun A hx hb t hr => XS.dconst1 A hx rfl (Jvm.hb hb hd) (by decide) hr) K
theorem W.i2d (w : W x wd l Z EL R own code mx ret nm T h k n sf) {a : Int32} (hd : Dc code pc .i2d 1 pc') (K : Go x wd Z EL R Q T pc' ls (.double (FP.i2d a) :: st)) : Go x wd Z EL R Q T pc ls (.int a :: st) := by
  obtain ⟨hd, rfl⟩ := hd
  exact w.go (fun A hx hb t hr => XS.i2dS A hx rfl (Jvm.hb hb hd) rfl rfl hr) K
theorem W.l2d (w : W x wd l Z EL R own code mx ret nm T h k n sf) {a : Int64} (hd : Dc code pc .l2d 1 pc') (K : Go x wd Z EL R Q T pc' ls (.double (FP.l2d a) :: st)) : Go x wd Z EL R Q T pc ls (.long a :: st) := by
  obtain ⟨hd, rfl⟩ := hd
  exact w.go (fun A hx hb t hr => XS.l2dS A hx rfl (Jvm.hb hb hd) rfl rfl hr) K
theorem W.dmul (w : W x wd l Z EL R own code mx ret nm T h k n sf) {a b : UInt64} (hd : Dc code pc .dmul 1 pc') (hn : Jvm.Free.Fl.NoNaN64 (FP.dmul a b)) (K : Go x wd Z EL R Q T pc' ls (.double (FP.dmul a b) :: st)) : Go x wd Z EL R Q T pc ls (.double b :: .double a :: st) := by
  obtain ⟨hd, rfl⟩ := hd
  exact w.go (fun A hx hb t hr => XS.dmulS A hx rfl (Jvm.hb hb hd) rfl hn rfl hr) K
theorem W.dadd (w : W x wd l Z EL R own code mx ret nm T h k n sf) {a b : UInt64} (hd : Dc code pc .dadd 1 pc') (hn : Jvm.Free.Fl.NoNaN64 (FP.dadd a b)) (K : Go x wd Z EL R Q T pc' ls (.double (FP.dadd a b) :: st)) : Go x wd Z EL R Q T pc ls (.double b :: .double a :: st) := by
  obtain ⟨hd, rfl⟩ := hd
  exact w.go (fun A hx hb t hr => XS.daddS A hx rfl (Jvm.hb hb hd) rfl hn rfl hr) K
theorem W.dcmp (w : W x wd l Z EL R own code mx ret nm T h k n sf) {o : CmpOp} {a b : UInt64} (hd : Dc code pc (.dcmp o) 1 pc') (K : Go x wd Z EL R Q T pc' ls (.int (cmpValue (FP.dcmp a b) o) :: st)) : Go x wd Z EL R Q T pc ls (.double b :: .double a :: st) := by
  obtain ⟨hd, rfl⟩ := hd
  exact w.go (fun A hx hb t hr => XS.dcmpS A hx rfl (Jvm.hb hb hd) rfl rfl hr) K
theorem W.i2l (w : W x wd l Z EL R own code mx ret nm T h k n sf) {a : Int32} (hd : Dc code pc .i2l 1 pc') (K : Go x wd Z EL R Q T pc' ls (.long a.toInt64 :: st)) : Go x wd Z EL R Q T pc ls (.int a :: st) := by
  obtain ⟨hd, rfl⟩ := hd
  exact w.go (fun A hx hb t hr => XT.i2l A hx rfl (Jvm.hb hb hd) rfl hr) K
theorem W.l2i (w : W x wd l Z EL R own code mx ret nm T h k n sf) {a : Int64} (hd : Dc code pc .l2i 1 pc') (K : Go x wd Z EL R Q T pc' ls (.int a.toInt32 :: st)) : Go x wd Z EL R Q T pc ls (.long a :: st) := by
  obtain ⟨hd, rfl⟩ := hd
  exact w.go (fun A hx hb t hr => XT.l2i A hx rfl (Jvm.hb hb hd) rfl hr) K
theorem W.ladd (w : W x wd l Z EL R own code mx ret nm T h k n sf) {a b : Int64} (hd : Dc code pc .ladd 1 pc') (K : Go x wd Z EL R Q T pc' ls (.long (a + b) :: st)) : Go x wd Z EL R Q T pc ls (.long b :: .long a :: st) := by
  obtain ⟨hd, rfl⟩ := hd
  exact w.go (fun A hx hb t hr => XT.ladd A hx rfl (Jvm.hb hb hd) rfl hr) K
theorem W.lsub (w : W x wd l Z EL R own code mx ret nm T h k n sf) {a b : Int64} (hd : Dc code pc .lsub 1 pc') (K : Go x wd Z EL R Q T pc' ls (.long (a - b) :: st)) : Go x wd Z EL R Q T pc ls (.long b :: .long a :: st) := by
  obtain ⟨hd, rfl⟩ := hd
  exact w.go (fun A hx hb t hr => XT.lsub A hx rfl (Jvm.hb hb hd) rfl hr) K
theorem W.lmul (w : W x wd l Z EL R own code mx ret nm T h k n sf) {a b : Int64} (hd : Dc code pc .lmul 1 pc') (K : Go x wd Z EL R Q T pc' ls (.long (a * b) :: st)) : Go x wd Z EL R Q T pc ls (.long b :: .long a :: st) := by
  obtain ⟨hd, rfl⟩ := hd
  exact w.go (fun A hx hb t hr => XT.lmul A hx rfl (Jvm.hb hb hd) rfl hr) K
theorem W.land (w : W x wd l Z EL R own code mx ret nm T h k n sf) {a b : Int64} (hd : Dc code pc .land 1 pc') (K : Go x wd Z EL R Q T pc' ls (.long (a &&& b) :: st)) : Go x wd Z EL R Q T pc ls (.long b :: .long a :: st) := by
  obtain ⟨hd, rfl⟩ := hd
  exact w.go (fun A hx hb t hr => XT.land A hx rfl (Jvm.hb hb hd) rfl hr) K
theorem W.lcmp (w : W x wd l Z EL R own code mx ret nm T h k n sf) {a b : Int64} (hd : Dc code pc .lcmp 1 pc') (K : Go x wd Z EL R Q T pc' ls (.int (XT.cmpL a b) :: st)) : Go x wd Z EL R Q T pc ls (.long b :: .long a :: st) := by
  obtain ⟨hd, rfl⟩ := hd
  exact w.go (fun A hx hb t hr => XT.lcmp A hx rfl (Jvm.hb hb hd) rfl hr) K
theorem W.dup (w : W x wd l Z EL R own code mx ret nm T h k n sf) {v : Value} (hd : Dc code pc .dup 1 pc') (hc : v.category = 1) (K : Go x wd Z EL R Q T pc' ls (v :: v :: st)) : Go x wd Z EL R Q T pc ls (v :: st) := by
  obtain ⟨hd, rfl⟩ := hd
  exact w.go (fun A hx hb t hr => XS.dup A hx rfl (Jvm.hb hb hd) rfl hc hr) K
theorem W.dupX1 (w : W x wd l Z EL R own code mx ret nm T h k n sf) {v u : Value} (hd : Dc code pc .dup_x1 1 pc') (hc : v.category = 1) (hc' : u.category = 1) (K : Go x wd Z EL R Q T pc' ls (v :: u :: v :: st)) : Go x wd Z EL R Q T pc ls (v :: u :: st) := by
  obtain ⟨hd, rfl⟩ := hd
  exact w.go (fun A hx hb t hr => XT.dupX1 A hx rfl (Jvm.hb hb hd) rfl hc hc' hr) K
theorem W.dup2 (w : W x wd l Z EL R own code mx ret nm T h k n sf) {v u : Value} (hd : Dc code pc .dup2 1 pc') (hc : v.category = 1) (hc' : u.category = 1) (K : Go x wd Z EL R Q T pc' ls (v :: u :: v :: u :: st)) : Go x wd Z EL R Q T pc ls (v :: u :: st) := by
  obtain ⟨hd, rfl⟩ := hd
  exact w.go (fun A hx hb t hr => XT.dup2 A hx rfl (Jvm.hb hb hd) rfl hc hc' hr) K
theorem W.pop (w : W x wd l Z EL R own code mx ret nm T h k n sf) {v : Value} (hd : Dc code pc .pop 1 pc') (hc : v.category = 1) (K : Go x wd Z EL R Q T pc' ls st) : Go x wd Z EL R Q T pc ls (v :: st) := by
  obtain ⟨hd, rfl⟩ := hd
  exact w.go (fun A hx hb t hr => XT.pop A hx rfl (Jvm.hb hb hd) rfl hc hr) K
theorem W.istoreN (w : W x wd l Z EL R own code mx ret nm T h k n sf) {i : Fin 4} {v : Int32} (ls' : Array Slot) (hd : Dc code pc (.istore_n i) 1 pc') (hl : storeLocals ls i.val (.int v) = some ls') (K : Go x wd Z EL R Q T pc' ls' st) : Go x wd Z EL R Q T pc ls (.int v :: st) := by
  obtain ⟨hd, rfl⟩ := hd
  exact w.go (fun A hx hb t hr => XS.istoreN A hx rfl (Jvm.hb hb hd) rfl hl hr) K
theorem W.istore (w : W x wd l Z EL R own code mx ret nm T h k n sf) {i : Nat} {v : Int32} (ls' : Array Slot) (hd : Dc code pc (.istore i) 2 pc') (hl : storeLocals ls i (.int v) = some ls') (K : Go x wd Z EL R Q T pc' ls' st) : Go x wd Z EL R Q T pc ls (.int v :: st) := by
  obtain ⟨hd, rfl⟩ := hd
  exact w.go (fun A hx hb t hr => XS.istore A hx rfl (Jvm.hb hb hd) rfl hl hr) K
theorem W.lstoreN (w : W x wd l Z EL R own code mx ret nm T h k n sf) {i : Fin 4} {v : Int64} (ls' : Array Slot) (hd : Dc code pc (.lstore_n i) 1 pc') (hl : storeLocals ls i.val (.long v) = some ls') (K : Go x wd Z EL R Q T pc' ls' st) : Go x wd Z EL R Q T pc ls (.long v :: st) := by
  obtain ⟨hd, rfl⟩ := hd
  exact w.go (fun A hx hb t hr => XT.lstoreN A hx rfl (Jvm.hb hb hd) rfl hl hr) K
theorem W.astoreN (w : W x wd l Z EL R own code mx ret nm T h k n sf) {i : Fin 4} {v : Value} (ls' : Array Slot) (hd : Dc code pc (.astore_n i) 1 pc') (hv : v.isRef = true) (hl : storeLocals ls i.val v = some ls') (K : Go x wd Z EL R Q T pc' ls' st) : Go x wd Z EL R Q T pc ls (v :: st) := by
  obtain ⟨hd, rfl⟩ := hd
  exact w.go (fun A hx hb t hr => XS.astoreN A hx rfl (Jvm.hb hb hd) rfl hv hl hr) K
theorem W.astore (w : W x wd l Z EL R own code mx ret nm T h k n sf) {i : Nat} {v : Value} (ls' : Array Slot) (hd : Dc code pc (.astore i) 2 pc') (hv : v.isRef = true) (hl : storeLocals ls i v = some ls') (K : Go x wd Z EL R Q T pc' ls' st) : Go x wd Z EL R Q T pc ls (v :: st) := by
  obtain ⟨hd, rfl⟩ := hd
  exact w.go (fun A hx hb t hr => XS.astore A hx rfl (Jvm.hb hb hd) rfl hv hl hr) K
theorem W.iinc (w : W x wd l Z EL R own code mx ret nm T h k n sf) {i : Nat} {c : Int} {a : Int32} (v : Int32) (ls' : Array Slot) (hd : Dc code pc (.iinc i c) 3 pc') (hv : Int32.ofInt c = v) (hl : ls[i]? = some (.val (.int a))) (hl' : storeLocals ls i (.int (a + v)) = some ls') (K : Go x wd Z EL R Q T pc' ls' st) : Go x wd Z EL R Q T pc ls st := by
  obtain ⟨hd, rfl⟩ := hd
  exact w.go (fun A hx hb t hr => XT.iincV A hx rfl v (Jvm.hb hb hd) hv hl hl' hr) K
theorem W.goto (w : W x wd l Z EL R own code mx ret nm T h k n sf) {o : Int} (hd : Dc code pc (.goto o) 3 pc') (ht : Tg pc o pcT) (K : Go x wd Z EL R Q T pcT ls st) : Go x wd Z EL R Q T pc ls st := by
  obtain ⟨hd, rfl⟩ := hd
  exact w.go (fun A hx hb t hr => XS.goto A hx rfl (pc0 := pc) (pc' := pcT) rfl (Jvm.hb hb hd) ht.1 ht.2 hr) K
theorem W.ifEq (w : W x wd l Z EL R own code mx ret nm T h k n sf) {a : Int32} {o : Int} (hd : Dc code pc (.ifCond .eq o) 3 pc') (ht : Tg pc o pcT) (K1 : a = 0 → Go x wd Z EL R Q T pcT ls st) (K2 : (¬ a = 0) → Go x wd Z EL R Q T pc' ls st) : Go x wd Z EL R Q T pc ls (.int a :: st) := by
  obtain ⟨hd, rfl⟩ := hd
  by_cases q : a = 0
  · exact w.go (fun A hx hb t hr => XS.ifYes A hx rfl (pc0 := pc) (pc' := pcT) rfl (Jvm.hb hb hd) rfl (XT.i0_eq_t q) ht.1 ht.2 hr) (K1 q)
  · exact w.go (fun A hx hb t hr => XS.ifNo A hx rfl (Jvm.hb hb hd) rfl (XT.i0_eq_f q) hr) (K2 q)
theorem W.ifNe (w : W x wd l Z EL R own code mx ret nm T h k n sf) {a : Int32} {o : Int} (hd : Dc code pc (.ifCond .ne o) 3 pc') (ht : Tg pc o pcT) (K1 : (¬ a = 0) → Go x wd Z EL R Q T pcT ls st) (K2 : (a = 0) → Go x wd Z EL R Q T pc' ls st) : Go x wd Z EL R Q T pc ls (.int a :: st) := by
  obtain ⟨hd, rfl⟩ := hd
  by_cases q : a = 0
  · exact w.go (fun A hx hb t hr => XS.ifNo A hx rfl (Jvm.hb hb hd) rfl (XT.i0_ne_f q) hr) (K2 q)
  · exact w.go (fun A hx hb t hr => XS.ifYes A hx rfl (pc0 := pc) (pc' := pcT) rfl (Jvm.hb hb hd) rfl (XT.i0_ne_t q) ht.1 ht.2 hr) (K1 q)
theorem W.ifLt (w : W x wd l Z EL R own code mx ret nm T h k n sf) {a : Int32} {o : Int} (hd : Dc code pc (.ifCond .lt o) 3 pc') (ht : Tg pc o pcT) (K1 : a < 0 → Go x wd Z EL R Q T pcT ls st) (K2 : (¬ a < 0) → Go x wd Z EL R Q T pc' ls st) : Go x wd Z EL R Q T pc ls (.int a :: st) := by
  obtain ⟨hd, rfl⟩ := hd
  by_cases q : a < 0
  · exact w.go (fun A hx hb t hr => XS.ifYes A hx rfl (pc0 := pc) (pc' := pcT) rfl (Jvm.hb hb hd) rfl (XT.i0_lt_t q) ht.1 ht.2 hr) (K1 q)
  · exact w.go (fun A hx hb t hr => XS.ifNo A hx rfl (Jvm.hb hb hd) rfl (XT.i0_lt_f q) hr) (K2 q)
theorem W.ifGe (w : W x wd l Z EL R own code mx ret nm T h k n sf) {a : Int32} {o : Int} (hd : Dc code pc (.ifCond .ge o) 3 pc') (ht : Tg pc o pcT) (K1 : (¬ a < 0) → Go x wd Z EL R Q T pcT ls st) (K2 : (a < 0) → Go x wd Z EL R Q T pc' ls st) : Go x wd Z EL R Q T pc ls (.int a :: st) := by
  obtain ⟨hd, rfl⟩ := hd
  by_cases q : a < 0
  · exact w.go (fun A hx hb t hr => XS.ifNo A hx rfl (Jvm.hb hb hd) rfl (XT.i0_ge_f q) hr) (K2 q)
  · exact w.go (fun A hx hb t hr => XS.ifYes A hx rfl (pc0 := pc) (pc' := pcT) rfl (Jvm.hb hb hd) rfl (XT.i0_ge_t q) ht.1 ht.2 hr) (K1 q)
theorem W.ifGt (w : W x wd l Z EL R own code mx ret nm T h k n sf) {a : Int32} {o : Int} (hd : Dc code pc (.ifCond .gt o) 3 pc') (ht : Tg pc o pcT) (K1 : 0 < a → Go x wd Z EL R Q T pcT ls st) (K2 : (¬ 0 < a) → Go x wd Z EL R Q T pc' ls st) : Go x wd Z EL R Q T pc ls (.int a :: st) := by
  obtain ⟨hd, rfl⟩ := hd
  by_cases q : 0 < a
  · exact w.go (fun A hx hb t hr => XS.ifYes A hx rfl (pc0 := pc) (pc' := pcT) rfl (Jvm.hb hb hd) rfl (XT.i0_gt_t q) ht.1 ht.2 hr) (K1 q)
  · exact w.go (fun A hx hb t hr => XS.ifNo A hx rfl (Jvm.hb hb hd) rfl (XT.i0_gt_f q) hr) (K2 q)
theorem W.ifLe (w : W x wd l Z EL R own code mx ret nm T h k n sf) {a : Int32} {o : Int} (hd : Dc code pc (.ifCond .le o) 3 pc') (ht : Tg pc o pcT) (K1 : (¬ 0 < a) → Go x wd Z EL R Q T pcT ls st) (K2 : (0 < a) → Go x wd Z EL R Q T pc' ls st) : Go x wd Z EL R Q T pc ls (.int a :: st) := by
  obtain ⟨hd, rfl⟩ := hd
  by_cases q : 0 < a
  · exact w.go (fun A hx hb t hr => XS.ifNo A hx rfl (Jvm.hb hb hd) rfl (XT.i0_le_f q) hr) (K2 q)
  · exact w.go (fun A hx hb t hr => XS.ifYes A hx rfl (pc0 := pc) (pc' := pcT) rfl (Jvm.hb hb hd) rfl (XT.i0_le_t q) ht.1 ht.2 hr) (K1 q)
theorem W.icmpEq (w : W x wd l Z EL R own code mx ret nm T h k n sf) {a b : Int32} {o : Int} (hd : Dc code pc (.if_icmp .eq o) 3 pc') (ht : Tg pc o pcT) (K1 : a = b → Go x wd Z EL R Q T pcT ls st) (K2 : (¬ a = b) → Go x wd Z EL R Q T pc' ls st) : Go x wd Z EL R Q T pc ls (.int b :: .int a :: st) := by
  obtain ⟨hd, rfl⟩ := hd
  by_cases q : a = b
  · exact w.go (fun A hx hb t hr => XS.icmpYes A hx rfl (pc0 := pc) (pc' := pcT) rfl (Jvm.hb hb hd) rfl (XT.ii_eq_t q) ht.1 ht.2 hr) (K1 q)
  · exact w.go (fun A hx hb t hr => XS.icmpNo A hx rfl (Jvm.hb hb hd) rfl (XT.ii_eq_f q) hr) (K2 q)
theorem W.icmpNe (w : W x wd l Z EL R own code mx ret nm T h k n sf) {a b : Int32} {o : Int} (hd : Dc code pc (.if_icmp .ne o) 3 pc') (ht : Tg pc o pcT) (K1 : (¬ a = b) → Go x wd Z EL R Q T pcT ls st) (K2 : (a = b) → Go x wd Z EL R Q T pc' ls st) : Go x wd Z EL R Q T pc ls (.int b :: .int a :: st) := by
  obtain ⟨hd, rfl⟩ := hd
  by_cases q : a = b
  · exact w.go (fun A hx hb t hr => XS.icmpNo A hx rfl (Jvm.hb hb hd) rfl (XT.ii_ne_f q) hr) (K2 q)
  · exact w.go (fun A hx hb t hr => XS.icmpYes A hx rfl (pc0 := pc) (pc' := pcT) rfl (Jvm.hb hb hd) rfl (XT.ii_ne_t q) ht.1 ht.2 hr) (K1 q)
theorem W.icmpLt (w : W x wd l Z EL R own code mx ret nm T h k n sf) {a b : Int32} {o : Int} (hd : Dc code pc (.if_icmp .lt o) 3 pc') (ht : Tg pc o pcT) (K1 : a < b → Go x wd Z EL R Q T pcT ls st) (K2 : (¬ a < b) → Go x wd Z EL R Q T pc' ls st) : Go x wd Z EL R Q T pc ls (.int b :: .int a :: st) := by
  obtain ⟨hd, rfl⟩ := hd
  by_cases q : a < b
  · exact w.go (fun A hx hb t hr => XS.icmpYes A hx rfl (pc0 := pc) (pc' := pcT) rfl (Jvm.hb hb hd) rfl (XT.ii_lt_t q) ht.1 ht.2 hr) (K1 q)
  · exact w.go (fun A hx hb t hr => XS.icmpNo A hx rfl (Jvm.hb hb hd) rfl (XT.ii_lt_f q) hr) (K2 q)
theorem W.icmpGe (w : W x wd l Z EL R own code mx ret nm T h k n sf) {a b : Int32} {o : Int} (hd : Dc code pc (.if_icmp .ge o) 3 pc') (ht : Tg pc o pcT) (K1 : (¬ a < b) → Go x wd Z EL R Q T pcT ls st) (K2 : (a < b) → Go x wd Z EL R Q T pc' ls st) : Go x wd Z EL R Q T pc ls (.int b :: .int a :: st) := by
  obtain ⟨hd, rfl⟩ := hd
  by_cases q : a < b
  · exact w.go (fun A hx hb t hr => XS.icmpNo A hx rfl (Jvm.hb hb hd) rfl (XT.ii_ge_f q) hr) (K2 q)
  · exact w.go (fun A hx hb t hr => XS.icmpYes A hx rfl (pc0 := pc) (pc' := pcT) rfl (Jvm.hb hb hd) rfl (XT.ii_ge_t q) ht.1 ht.2 hr) (K1 q)
theorem W.icmpGt (w : W x wd l Z EL R own code mx ret nm T h k n sf) {a b : Int32} {o : Int} (hd : Dc code pc (.if_icmp .gt o) 3 pc') (ht : Tg pc o pcT) (K1 : b < a → Go x wd Z EL R Q T pcT ls st) (K2 : (¬ b < a) → Go x wd Z EL R Q T pc' ls st) : Go x wd Z EL R Q T pc ls (.int b :: .int a :: st) := by
  obtain ⟨hd, rfl⟩ := hd
  by_cases q : b < a
  · exact w.go (fun A hx hb t hr => XS.icmpYes A hx rfl (pc0 := pc) (pc' := pcT) rfl (Jvm.hb hb hd) rfl (XT.ii_gt_t q) ht.1 ht.2 hr) (K1 q)
  · exact w.go (fun A hx hb t hr => XS.icmpNo A hx rfl (Jvm.hb hb hd) rfl (XT.ii_gt_f q) hr) (K2 q)
theorem W.icmpLe (w : W x wd l Z EL R own code mx ret nm T h k n sf) {a b : Int32} {o : Int} (hd : Dc code pc (.if_icmp .le o) 3 pc') (ht : Tg pc o pcT) (K1 : (¬ b < a) → Go x wd Z EL R Q T pcT ls st) (K2 : (b < a) → Go x wd Z EL R Q T pc' ls st) : Go x wd Z EL R Q T pc ls (.int b :: .int a :: st) := by
  obtain ⟨hd, rfl⟩ := hd
  by_cases q : b < a
  · exact w.go (fun A hx hb t hr => XS.icmpNo A hx rfl (Jvm.hb hb hd) rfl (XT.ii_le_f q) hr) (K2 q)
  · exact w.go (fun A hx hb t hr => XS.icmpYes A hx rfl (pc0 := pc) (pc' := pcT) rfl (Jvm.hb hb hd) rfl (XT.ii_le_t q) ht.1 ht.2 hr) (K1 q)
theorem W.acmpEq (w : W x wd l Z EL R own code mx ret nm T h k n sf) {a b : Value} {o : Int} (hd : Dc code pc (.if_acmp .eq o) 3 pc') (ht : Tg pc o pcT) (h1 : a.isRef = true) (h2 : b.isRef = true) (K1 : a = b → Go x wd Z EL R Q T pcT ls st) (K2 : (¬ a = b) → Go x wd Z EL R Q T pc' ls st) : Go x wd Z EL R Q T pc ls (b :: a :: st) := by
  obtain ⟨hd, rfl⟩ := hd
  by_cases q : a = b
  · exact w.go (fun A hx hb t hr => XT.acmpYes A hx rfl (pc0 := pc) (pc' := pcT) rfl (Jvm.hb hb hd) rfl h1 h2 (XT.aa_eq_t q) ht.1 ht.2 hr) (K1 q)
  · exact w.go (fun A hx hb t hr => XT.acmpNo A hx rfl (Jvm.hb hb hd) rfl h1 h2 (XT.aa_eq_f q) hr) (K2 q)
theorem W.acmpNe (w : W x wd l Z EL R own code mx ret nm T h k n sf) {a b : Value} {o : Int} (hd : Dc code pc (.if_acmp .ne o) 3 pc') (ht : Tg pc o pcT) (h1 : a.isRef = true) (h2 : b.isRef = true) (K1 : (¬ a = b) → Go x wd Z EL R Q T pcT ls st) (K2 : (a = b) → Go x wd Z EL R Q T pc' ls st) : Go x wd Z EL R Q T pc ls (b :: a :: st) := by
  obtain ⟨hd, rfl⟩ := hd
  by_cases q : a = b
  · exact w.go (fun A hx hb t hr => XT.acmpNo A hx rfl (Jvm.hb hb hd) rfl h1 h2 (XT.aa_ne_f q) hr) (K2 q)
  · exact w.go (fun A hx hb t hr => XT.acmpYes A hx rfl (pc0 := pc) (pc' := pcT) rfl (Jvm.hb hb hd) rfl h1 h2 (XT.aa_ne_t q) ht.1 ht.2 hr) (K1 q)
theorem W.racmpEq (w : W x wd l Z EL R own code mx ret nm T h k n sf) {a b : Addr} {o : Int} (hd : Dc code pc (.if_acmp .eq o) 3 pc') (ht : Tg pc o pcT) (K1 : a = b → Go x wd Z EL R Q T pcT ls st) (K2 : ¬ a = b → Go x wd Z EL R Q T pc' ls st) : Go x wd Z EL R Q T pc ls (.ref b :: .ref a :: st) := w.acmpEq hd ht rfl rfl (fun q => K1 (Value.ref.inj q)) (fun q => K2 fun e => q (congrArg _ e))
theorem W.racmpNe (w : W x wd l Z EL R own code mx ret nm T h k n sf) {a b : Addr} {o : Int} (hd : Dc code pc (.if_acmp .ne o) 3 pc') (ht : Tg pc o pcT) (K1 : ¬ a = b → Go x wd Z EL R Q T pcT ls st) (K2 : a = b → Go x wd Z EL R Q T pc' ls st) : Go x wd Z EL R Q T pc ls (.ref b :: .ref a :: st) := w.acmpNe hd ht rfl rfl (fun q => K1 fun e => q (congrArg _ e)) (fun q => K2 (Value.ref.inj q))
theorem W.nullT (w : W x wd l Z EL R own code mx ret nm T h k n sf) {o : Int} (hd : Dc code pc (.ifnull o) 3 pc') (ht : Tg pc o pcT) (K : Go x wd Z EL R Q T pcT ls st) : Go x wd Z EL R Q T pc ls (.null :: st) := by
  obtain ⟨hd, rfl⟩ := hd
  exact w.go (fun A hx hb t hr => XS.ifnullYes A hx rfl (pc0 := pc) (pc' := pcT) rfl (Jvm.hb hb hd) rfl ht.1 ht.2 hr) K
theorem W.nullF (w : W x wd l Z EL R own code mx ret nm T h k n sf) {o : Int} {a : Addr} (hd : Dc code pc (.ifnull o) 3 pc') (K : Go x wd Z EL R Q T pc' ls st) : Go x wd Z EL R Q T pc ls (.ref a :: st) := by
  obtain ⟨hd, rfl⟩ := hd
  exact w.go (fun A hx hb t hr => XS.ifnullNo A hx rfl (Jvm.hb hb hd) rfl hr) K
theorem W.nonnullT (w : W x wd l Z EL R own code mx ret nm T h k n sf) {o : Int} {a : Addr} (hd : Dc code pc (.ifnonnull o) 3 pc') (ht : Tg pc o pcT) (K : Go x wd Z EL R Q T pcT ls st) : Go x wd Z EL R Q T pc ls (.ref a :: st) := by
  obtain ⟨hd, rfl⟩ := hd
  exact w.go (fun A hx hb t hr => XT.ifnonnullYes A hx rfl (pc0 := pc) (pc' := pcT) rfl (Jvm.hb hb hd) rfl ht.1 ht.2 hr) K
theorem W.nonnullF (w : W x wd l Z EL R own code mx ret nm T h k n sf) {o : Int} (hd : Dc code pc (.ifnonnull o) 3 pc') (K : Go x wd Z EL R Q T pc' ls st) : Go x wd Z EL R Q T pc ls (.null :: st) := by
  obtain ⟨hd, rfl⟩ := hd
  exact w.go (fun A hx hb t hr => XT.ifnonnullNo A hx rfl (Jvm.hb hb hd) rfl hr) K
theorem W.ldcI (w : W x wd l Z EL R own code mx ret nm T h k n sf) {i : Nat} {v : Int32} (hd : Dc code pc (.ldc i) 2 pc') (wc : (Jvm.Cond.constant own i v).before a0 Z = true) (K : Go x wd Z EL R Q T pc' ls (.int v :: st)) : Go x wd Z EL R Q T pc ls st := by
  obtain ⟨hd, rfl⟩ := hd
  obtain ⟨hx, hb, hm, hr, hn, hl, e0, E, c1, c2, hs, hEL, L, vm0, N, g, X, S, hZ, ho, hC⟩ := w
  obtain ⟨s₂, o, a1, r⟩ := K
  exact ⟨s₂, o, X.ldcI hx ho (mv (s := x.s.setVm vm0) hZ wc) rfl (Jvm.hb hb hd) a1, r⟩
theorem W.ldcWI (w : W x wd l Z EL R own code mx ret nm T h k n sf) {i : Nat} {v : Int32} (hd : Dc code pc (.ldc_w i) 3 pc') (wc : (Jvm.Cond.constant own i v).before a0 Z = true) (K : Go x wd Z EL R Q T pc' ls (.int v :: st)) : Go x wd Z EL R Q T pc ls st := by
  obtain ⟨hd, rfl⟩ := hd
  obtain ⟨hx, hb, hm, hr, hn, hl, e0, E, c1, c2, hs, hEL, L, vm0, N, g, X, S, hZ, ho, hC⟩ := w
  obtain ⟨s₂, o, a1, r⟩ := K
  exact ⟨s₂, o, X.ldcWI hx ho (mv (s := x.s.setVm vm0) hZ wc) rfl (Jvm.hb hb hd) a1, r⟩
theorem W.getS (w : W x wd l Z EL R own code mx ret nm T h k n sf) {i : Nat} {O f d : String} {v : Value} (hd : Dc code pc (.getstatic i) 3 pc') (wl : (Jvm.Cond.fieldLink own i O f d).before a0 Z = true) (F : Sta Z Z.heap O f d v) (K : ∀ T', W x wd l Z EL R own code mx ret nm T' h k n sf → Go x wd Z EL R Q T' pc' ls (v :: st)) : Go x wd Z EL R Q T pc ls st := by
  obtain ⟨hd, rfl⟩ := hd
  exact w.goT (fun s0 L X hx hZ ho hb hm e0 => RoadKit.getS (host := "") X hx hZ ho wl Via.refl e0 (w.sta F) (g := mkF x.m pc ls st) rfl (Jvm.hb hb hd)) K
theorem W.getF (w : W x wd l Z EL R own code mx ret nm T h k n sf) {i : Nat} {a : Addr} {O f d : String} {v : Value} (hd : Dc code pc (.getfield i) 3 pc') (wl : (Jvm.Cond.fieldLink own i O f d).before a0 Z = true) (F : Fld Z h a O f d v) (K : ∀ T', W x wd l Z EL R own code mx ret nm T' h k n sf → Go x wd Z EL R Q T' pc' ls (v :: st)) : Go x wd Z EL R Q T pc ls (.ref a :: st) := by
  obtain ⟨hd, rfl⟩ := hd
  exact w.goT (fun s0 L X hx hZ ho hb hm e0 => RoadKit.getF (host := "") X hx hZ ho (Or.inl wl) Via.refl e0 F (g := mkF x.m pc ls (.ref a :: st)) rfl rfl (Jvm.hb hb hd)) K
theorem W.cast (w : W x wd l Z EL R own code mx ret nm T h k n sf) {i : Nat} {a : Addr} {C : String} (hd : Dc code pc (.checkcast i) 3 pc') (wl : (Jvm.Cond.classLink own i C).before a0 Z = true) (F : Ins Z h a C true) (K : ∀ T', W x wd l Z EL R own code mx ret nm T' h k n sf → Go x wd Z EL R Q T' pc' ls (.ref a :: st)) : Go x wd Z EL R Q T pc ls (.ref a :: st) := by
  obtain ⟨hd, rfl⟩ := hd
  exact w.goT (fun s0 L X hx hZ ho hb hm e0 => castY X hx hZ ho wl e0 F (g := mkF x.m pc ls (.ref a :: st)) rfl rfl (Jvm.hb hb hd)) K
theorem W.instY (w : W x wd l Z EL R own code mx ret nm T h k n sf) {i : Nat} {a : Addr} {C : String} (hd : Dc code pc (.instanceof i) 3 pc') (wl : (Jvm.Cond.classLink own i C).before a0 Z = true) (F : Ins Z h a C true) (K : ∀ T', W x wd l Z EL R own code mx ret nm T' h k n sf → Go x wd Z EL R Q T' pc' ls (.int 1 :: st)) : Go x wd Z EL R Q T pc ls (.ref a :: st) := by
  obtain ⟨hd, rfl⟩ := hd
  exact w.goT (fun s0 L X hx hZ ho hb hm e0 => RoadKit.instY X hx hZ ho wl e0 F (g := mkF x.m pc ls (.ref a :: st)) rfl rfl (Jvm.hb hb hd)) K
theorem W.initO (w : W x wd l Z EL R own code mx ret nm T h k n sf) {i : Nat} {a : Addr} (Wn : Nat) (hd : Dc code pc (.invokespecial i) 3 pc') (w1 : (Jvm.Cond.methodLink own i Lib.objectInit).before a0 Z = true) (w2 : (Jvm.Cond.instanceMethod Lib.objectInit).before a0 Z = true) (w3 : (Jvm.Cond.code Lib.objectInit ⟨#[0xb1]⟩ 1 none).before a0 Z = true) (hz : ls.size = mx) (hW : (st.map fun v => v.category).sum ≤ Wn) (hr : 1 ≤ R.frames ∧ Wn + 12 ≤ R.locals) (K : ∀ T', W x wd l Z EL R own code mx ret nm T' h k n sf → Go x wd Z EL R Q T' pc' ls st) : Go x wd Z EL R Q T pc ls (.ref a :: st) := by
  obtain ⟨hd, rfl⟩ := hd
  exact w.goT (fun s0 L X hx hZ ho hb hm e0 => RoadKit.initO X hx hZ ho w1 w2 w3 e0 (g := mkF x.m pc ls (.ref a :: st)) rfl (hz.trans hm.symm) rfl (Jvm.hb hb hd) hr.1 (W := Wn) (by show 2 * 0 + _ ≤ _; omega) hr.2) K
theorem W.alen (w : W x wd l Z EL R own code mx ret nm T h k n sf) {a : Addr} {cl : Cell} {ty : FieldType} (v : Int32) (hd : Dc code pc .arraylength 1 pc') (A : Arr Z h a cl ty) (hv : cl.slots.size.toInt32 = v) (K : Go x wd Z EL R Q T pc' ls (.int v :: st)) : Go x wd Z EL R Q T pc ls (.ref a :: st) := by
  obtain ⟨hd, rfl⟩ := hd
  subst hv
  obtain ⟨hx, hb, hm, hr, hn, hl, e0, E, c1, c2, hs, hEL, L, vm0, N, g, X, S, hZ, ho, hC⟩ := w
  obtain ⟨s₂, o, a1, r⟩ := K
  exact ⟨s₂, o, X.arraylength hx (by rw [e0]; exact A.1) (State.isArrayOf_alike (T := x.s.setVm vm0) hZ.alike A.2.1) (g := mkF x.m pc ls (.ref a :: st)) rfl rfl (Jvm.hb hb hd) _ a1, r⟩
theorem W.iaload (w : W x wd l Z EL R own code mx ret nm T h k n sf) {a : Addr} {cl : Cell} {j : Int32} {v : Value} (hd : Dc code pc .iaload 1 pc') (A : Arr Z h a cl .int) (hj : ¬ (j < 0 ∨ cl.slots.size ≤ j.toNatClampNeg)) (hv : cl.slots[j.toNatClampNeg]? = some v) (K : Go x wd Z EL R Q T pc' ls (v :: st)) : Go x wd Z EL R Q T pc ls (.int j :: .ref a :: st) := by
  obtain ⟨hd, rfl⟩ := hd
  obtain ⟨hx, hb, hm, hr, hn, hl, e0, E, c1, c2, hs, hEL, L, vm0, N, g, X, S, hZ, ho, hC⟩ := w
  obtain ⟨s₂, o, a1, r⟩ := K
  exact ⟨s₂, o, X.iaload hx (by rw [e0]; exact A.1) (State.isArrayOf_alike (T := x.s.setVm vm0) hZ.alike A.2.1) A.2.2 hj hv (g := mkF x.m pc ls (.int j :: .ref a :: st)) rfl rfl (Jvm.hb hb hd) _ a1, r⟩
theorem W.caload (w : W x wd l Z EL R own code mx ret nm T h k n sf) {a : Addr} {cl : Cell} {j : Int32} {v : Value} (hd : Dc code pc .caload 1 pc') (A : Arr Z h a cl .char) (hj : ¬ (j < 0 ∨ cl.slots.size ≤ j.toNatClampNeg)) (hv : cl.slots[j.toNatClampNeg]? = some v) (K : Go x wd Z EL R Q T pc' ls (v :: st)) : Go x wd Z EL R Q T pc ls (.int j :: .ref a :: st) := by
  obtain ⟨hd, rfl⟩ := hd
  obtain ⟨hx, hb, hm, hr, hn, hl, e0, E, c1, c2, hs, hEL, L, vm0, N, g, X, S, hZ, ho, hC⟩ := w
  obtain ⟨s₂, o, a1, r⟩ := K
  exact ⟨s₂, o, X.caload hx (by rw [e0]; exact A.1) (State.isArrayOf_alike (T := x.s.setVm vm0) hZ.alike A.2.1) A.2.2 hj hv (g := mkF x.m pc ls (.int j :: .ref a :: st)) rfl rfl (Jvm.hb hb hd) _ a1, r⟩
theorem W.baload (w : W x wd l Z EL R own code mx ret nm T h k n sf) {a : Addr} {cl : Cell} {j : Int32} {v : Value} (hd : Dc code pc .baload 1 pc') (A : Arr Z h a cl .byte) (hj : ¬ (j < 0 ∨ cl.slots.size ≤ j.toNatClampNeg)) (hv : cl.slots[j.toNatClampNeg]? = some v) (K : Go x wd Z EL R Q T pc' ls (v :: st)) : Go x wd Z EL R Q T pc ls (.int j :: .ref a :: st) := by
  obtain ⟨hd, rfl⟩ := hd
  obtain ⟨hx, hb, hm, hr, hn, hl, e0, E, c1, c2, hs, hEL, L, vm0, N, g, X, S, hZ, ho, hC⟩ := w
  obtain ⟨s₂, o, a1, r⟩ := K
  exact ⟨s₂, o, X.baloadBytes hx (by rw [e0]; exact A.1) (State.isArrayOf_alike (T := x.s.setVm vm0) hZ.alike A.2.1) A.2.2 hj hv (g := mkF x.m pc ls (.int j :: .ref a :: st)) rfl rfl (Jvm.hb hb hd) _ a1, r⟩
theorem W.laload (w : W x wd l Z EL R own code mx ret nm T h k n sf) {a : Addr} {cl : Cell} {j : Int32} {v : Value} (hd : Dc code pc .laload 1 pc') (A : Arr Z h a cl .long) (hj : ¬ (j < 0 ∨ cl.slots.size ≤ j.toNatClampNeg)) (hv : cl.slots[j.toNatClampNeg]? = some v) (K : Go x wd Z EL R Q T pc' ls (v :: st)) : Go x wd Z EL R Q T pc ls (.int j :: .ref a :: st) := by
  obtain ⟨hd, rfl⟩ := hd
  obtain ⟨hx, hb, hm, hr, hn, hl, e0, E, c1, c2, hs, hEL, L, vm0, N, g, X, S, hZ, ho, hC⟩ := w
  obtain ⟨s₂, o, a1, r⟩ := K
  exact ⟨s₂, o, X.laload hx (by rw [e0]; exact A.1) (State.isArrayOf_alike (T := x.s.setVm vm0) hZ.alike A.2.1) A.2.2 hj hv (g := mkF x.m pc ls (.int j :: .ref a :: st)) rfl rfl (Jvm.hb hb hd) _ a1, r⟩
theorem W.aaload (w : W x wd l Z EL R own code mx ret nm T h k n sf) {a : Addr} {cl : Cell} {j : Int32} {v : Value} {ty : FieldType} (hd : Dc code pc .aaload 1 pc') (A : Arr Z h a cl ty) (hty : ty.isReference = true) (hj : ¬ (j < 0 ∨ cl.slots.size ≤ j.toNatClampNeg)) (hv : cl.slots[j.toNatClampNeg]? = some v) (K : Go x wd Z EL R Q T pc' ls (v :: st)) : Go x wd Z EL R Q T pc ls (.int j :: .ref a :: st) := by
  obtain ⟨hd, rfl⟩ := hd
  obtain ⟨hx, hb, hm, hr, hn, hl, e0, E, c1, c2, hs, hEL, L, vm0, N, g, X, S, hZ, ho, hC⟩ := w
  obtain ⟨s₂, o, a1, r⟩ := K
  exact ⟨s₂, o, X.aaload hx (by rw [e0]; exact A.1) (State.isArrayOf_alike (T := x.s.setVm vm0) hZ.alike A.2.1) hty A.2.2 hj hv (g := mkF x.m pc ls (.int j :: .ref a :: st)) rfl rfl (Jvm.hb hb hd) _ a1, r⟩
theorem W.new (w : W x wd l Z EL R own code mx ret nm T h k n sf) {i nf : Nat} {C : String} (hd : Dc code pc (.new i) 3 pc') (w1 : (Jvm.Cond.classLink own i C).before a0 Z = true) (w2 : (Jvm.Cond.instantiable C nf).before a0 Z = true) (w3 : (Jvm.Cond.initialized C).before a0 Z = true) (hr : k + 1 ≤ R.cells ∧ n + nf ≤ R.slots) (K : ∀ (a : Addr) T' h', a = h.size → W x wd l Z EL R own code mx ret nm T' h' (k + 1) (n + nf) (a :: sf) → Ext h h' → Exa Z h' a C → (∀ {O f d : String} {ty : FieldType}, Laid Z a0 C O f d → parseFieldDescriptor d = some ty → Fld Z h' a O f d (defaultValue ty)) → Go x wd Z EL R Q T' (pc') ls (.ref a :: st)) : Go x wd Z EL R Q T pc ls st := by
  obtain ⟨hd, rfl⟩ := hd
  refine w.goN (P := fun h' => Exa Z h' h.size C ∧ (∀ {O f d : String} {ty : FieldType}, Laid Z a0 C O f d → parseFieldDescriptor d = some ty → Fld Z h' h.size O f d (defaultValue ty))) hr.1 hr.2 (fun s0 L X hx hZ ho hb hm e0 => ?_) (fun T' h' w' E P => K h.size T' h' rfl w' E P.1 P.2)
  obtain ⟨T', h', X', e', E', A, D, -, stp⟩ := newO X hx hZ ho w1 w2 w3 e0 (g := mkF x.m pc ls st) rfl (Jvm.hb hb hd) hr.1 hr.2
  exact ⟨T', h', X', e', E', A.lt, ⟨A, D⟩, stp⟩
theorem W.newP (w : W x wd l Z EL R own code mx ret nm T h k n sf) {aty : ArrayType} {z : Int32} (cap : Nat) (ad : String) (hd : Dc code pc (.newarray aty) 2 pc') (w1 : (Jvm.Cond.arrayClass (newarray.typeOf aty)).before a0 Z = true) (hz : ¬ z < 0) (hcap : z.toNatClampNeg ≤ cap) (hbig : cap * 8 ≤ 536870912) (had : "[" ++ (newarray.typeOf aty).toString = ad) (hr : k + 1 ≤ R.cells ∧ n + cap ≤ R.slots) (K : ∀ (a : Addr) T' h' kc, a = h.size → W x wd l Z EL R own code mx ret nm T' h' (k + 1) (n + cap) (a :: sf) → Ext h h' → Arv Z h' a kc (newarray.typeOf aty) z [] (defaultValue (newarray.typeOf aty)) → Exa Z h' a ad → Go x wd Z EL R Q T' (pc') ls (.ref a :: st)) : Go x wd Z EL R Q T pc ls (.int z :: st) := by
  obtain ⟨hd, rfl⟩ := hd
  refine w.goN (P := fun h' => ∃ kc, Arv Z h' h.size kc (newarray.typeOf aty) z [] (defaultValue (newarray.typeOf aty)) ∧ Exa Z h' h.size ad) hr.1 hr.2 (fun s0 L X hx hZ ho hb hm e0 => ?_) (fun T' h' w' E ⟨kc, P1, P2⟩ => K h.size T' h' kc rfl w' E P1 P2)
  obtain ⟨T', h', cA, X', e', E', A, EA, stp⟩ := newPE X hx hZ w1 e0 (g := mkF x.m pc ls (.int z :: st)) rfl (Jvm.hb hb hd) rfl hz hcap hbig hr.1 hr.2 had
  exact ⟨T', h', X', e', E', EA.lt, ⟨cA, Arv.new A hz, EA⟩, stp⟩
theorem W.newR (w : W x wd l Z EL R own code mx ret nm T h k n sf) {i : Nat} {C : String} {z : Int32} (cap : Nat) (ad : String) (hd : Dc code pc (.anewarray i) 3 pc') (w1 : (Jvm.Cond.classLink own i C).before a0 Z = true) (w2 : (Jvm.Cond.arrayOver (.object C)).before a0 Z = true) (hz : ¬ z < 0) (hcap : z.toNatClampNeg ≤ cap) (hbig : cap * 8 ≤ 536870912) (had : "[" ++ (FieldType.object C).toString = ad) (hr : k + 1 ≤ R.cells ∧ n + cap ≤ R.slots) (K : ∀ (a : Addr) T' h' kc, a = h.size → W x wd l Z EL R own code mx ret nm T' h' (k + 1) (n + cap) (a :: sf) → Ext h h' → Arv Z h' a kc (.object C) z [] .null → Exa Z h' a ad → Ovr Z kc C → Go x wd Z EL R Q T' (pc') ls (.ref a :: st)) : Go x wd Z EL R Q T pc ls (.int z :: st) := by
  obtain ⟨hd, rfl⟩ := hd
  refine w.goN (P := fun h' => ∃ kc, Arv Z h' h.size kc (.object C) z [] .null ∧ Exa Z h' h.size ad ∧ Ovr Z kc C) hr.1 hr.2 (fun s0 L X hx hZ ho hb hm e0 => ?_) (fun T' h' w' E ⟨kc, P1, P2, P3⟩ => K h.size T' h' kc rfl w' E P1 P2 P3)
  obtain ⟨T', h', cA, X', e', E', A, EA, O, stp⟩ := newRE X hx hZ ho w1 w2 e0 (g := mkF x.m pc ls (.int z :: st)) rfl (Jvm.hb hb hd) rfl hz hcap hbig hr.1 hr.2 had
  exact ⟨T', h', X', e', E', EA.lt, ⟨cA, Arv.new A hz, EA, O⟩, stp⟩
theorem W.clone (w : W x wd l Z EL R own code mx ret nm T h k n sf) {i : Nat} {a : Addr} {ad : String} {kc : ClassId} {ty : FieldType} {z : Int32} {vs : List Value} {dv : Value} (Wn cap : Nat) (hd : Dc code pc (.invokevirtual i) 3 pc') (w1 : (Jvm.Cond.methodLink own i ⟨ad, "clone", "()Ljava/lang/Object;"⟩).before a0 Z = true) (w2 : (Jvm.Cond.sameMethod ad "java/lang/Object" "clone" "()Ljava/lang/Object;").before a0 Z = true) (w3 : (Jvm.Cond.native ⟨"java/lang/Object", "clone", "()Ljava/lang/Object;"⟩).before a0 Z = true) (w4 : (Jvm.Cond.instanceMethod ⟨"java/lang/Object", "clone", "()Ljava/lang/Object;"⟩).before a0 Z = true) (w5 : (Jvm.Cond.selects ad ⟨ad, "clone", "()Ljava/lang/Object;"⟩ ⟨"java/lang/Object", "clone", "()Ljava/lang/Object;"⟩).before a0 Z = true) (w6 : (Jvm.Cond.castable ad "java/lang/Cloneable").before a0 Z = true) (A : Arv Z h a kc ty z vs dv) (E : Exa Z h a ad) (hz : ls.size = mx) (hW : (st.map fun v => v.category).sum ≤ Wn) (hcap : z.toNatClampNeg ≤ cap) (hr : 1 ≤ R.frames ∧ Wn + 14 ≤ R.locals ∧ k + 1 ≤ R.cells ∧ n + cap ≤ R.slots) (K : ∀ (b : Addr) T' h', b = h.size → W x wd l Z EL R own code mx ret nm T' h' (k + 1) (n + cap) (b :: sf) → Ext h h' → Arv Z h' b kc ty z vs dv → Exa Z h' b ad → Go x wd Z EL R Q T' (pc') ls (.ref b :: st)) : Go x wd Z EL R Q T pc ls (.ref a :: st) := by
  obtain ⟨hd, rfl⟩ := hd
  refine w.goN (P := fun h' => Arv Z h' h.size kc ty z vs dv ∧ Exa Z h' h.size ad) hr.2.2.1 hr.2.2.2 (fun s0 L X hx hZ ho hb hm e0 => ?_) (fun T' h' w' E P => K h.size T' h' rfl w' E P.1 P.2)
  obtain ⟨T', h', X', e', E', A', EA, stp⟩ := cloneH X hx hZ ho w1 w2 w3 w4 w5 w6 e0 A.arh E (g := mkF x.m pc ls (.ref a :: st)) rfl (hz.trans hm.symm) rfl (Jvm.hb hb hd) hr.1 (W := Wn) (by show 2 * 0 + _ ≤ _; omega) hr.2.1 hcap hr.2.2.1 hr.2.2.2
  exact ⟨T', h', X', e', E', EA.lt, ⟨A', EA⟩, stp⟩
theorem W.putF (w : W x wd l Z EL R own code mx ret nm T h k n sf) {i kk : Nat} {a : Addr} {O f d C : String} {v old : Value} {ty : FieldType} (hd : Dc code pc (.putfield i) 3 pc') (wl : (Jvm.Cond.fieldLink own i O f d).before a0 Z = true) (F : Fld Z h a O f d old) (E : Exa Z h a C) (La : (Jvm.Cond.lays C O f d).before a0 Z = true ∨ ((Jvm.Cond.laysFinal C O f d).before a0 Z = true ∧ own = O ∧ nm = "<init>")) (wi : (Jvm.Cond.instantiable C kk).before a0 Z = true) (hty : parseFieldDescriptor d = some ty) (hn : narrow ty v = v) (hf : fits ty v = true) (ha : a ∈ sf) (K : ∀ T' h', W x wd l Z EL R own code mx ret nm T' h' k n sf → Wr h h' a (Jvm.RoadKit.slotOf Z O f d) v → Go x wd Z EL R Q T' pc' ls st) : Go x wd Z EL R Q T pc ls (v :: .ref a :: st) := by
  obtain ⟨hd, rfl⟩ := hd
  exact w.goW ha (fun s0 L X hx hZ ho hb hnm e0 => RoadKit.putF X hx hZ ho (host := "") (Or.inl wl) Via.refl e0 F E (La.imp id fun q => ⟨q.1, q.2.1, hnm.trans q.2.2⟩) wi hty hn hf (g := mkF x.m pc ls (v :: .ref a :: st)) rfl rfl (Jvm.hb hb hd)) K
theorem W.stC (w : W x wd l Z EL R own code mx ret nm T h k n sf) {a : Addr} {kc : ClassId} {z j v : Int32} {vs : List Value} {dv : Value} (q : Nat) (vs' : List Value) (hd : Dc code pc .castore 1 pc') (A : Arv Z h a kc .char z vs dv) (hj : j.toNatClampNeg = q ∧ ¬ j < 0) (hz : q < z.toNatClampNeg) (hp : ∀ i, vs'.getD i dv = vs.getD i dv) (hq : q < vs'.length) (hf : fits .char (.int (nar .char v)) = true) (ha : a ∈ sf) (K : ∀ T' h', W x wd l Z EL R own code mx ret nm T' h' k n sf → Wr h h' a q (.int (nar .char v)) → Arv Z h' a kc .char z (vs'.set q (.int (nar .char v))) dv → Go x wd Z EL R Q T' pc' ls st) : Go x wd Z EL R Q T pc ls (.int v :: .int j :: .ref a :: st) := by
  obtain ⟨hd, rfl⟩ := hd
  obtain ⟨hj, h0⟩ := hj
  subst hj
  obtain ⟨cl, Ar, r1, S, r3, H, G⟩ := A.pad hp
  have hin : ¬ (j < 0 ∨ cl.slots.size ≤ j.toNatClampNeg) := by rw [S]; exact fun u => u.elim h0 fun u => absurd hz (Nat.not_lt.mpr u)
  refine w.goW ha (fun s0 L X hx hZ ho hb hnm e0 => RoadKit.stC X hx hZ e0 Ar hin (g := mkF x.m pc ls (.int v :: .int j :: .ref a :: st)) rfl rfl (Jvm.hb hb hd)) (fun T' h' w' Wr' => K T' h' w' Wr' (Arv.set Ar r1 S r3 H G hf Wr' _ rfl hq))
theorem W.stB (w : W x wd l Z EL R own code mx ret nm T h k n sf) {a : Addr} {kc : ClassId} {z j v : Int32} {vs : List Value} {dv : Value} (q : Nat) (vs' : List Value) (hd : Dc code pc .bastore 1 pc') (A : Arv Z h a kc .byte z vs dv) (hj : j.toNatClampNeg = q ∧ ¬ j < 0) (hz : q < z.toNatClampNeg) (hp : ∀ i, vs'.getD i dv = vs.getD i dv) (hq : q < vs'.length) (hf : fits .byte (.int (nar .byte v)) = true) (ha : a ∈ sf) (K : ∀ T' h', W x wd l Z EL R own code mx ret nm T' h' k n sf → Wr h h' a q (.int (nar .byte v)) → Arv Z h' a kc .byte z (vs'.set q (.int (nar .byte v))) dv → Go x wd Z EL R Q T' pc' ls st) : Go x wd Z EL R Q T pc ls (.int v :: .int j :: .ref a :: st) := by
  obtain ⟨hd, rfl⟩ := hd
  obtain ⟨hj, h0⟩ := hj
  subst hj
  obtain ⟨cl, Ar, r1, S, r3, H, G⟩ := A.pad hp
  have hin : ¬ (j < 0 ∨ cl.slots.size ≤ j.toNatClampNeg) := by rw [S]; exact fun u => u.elim h0 fun u => absurd hz (Nat.not_lt.mpr u)
  refine w.goW ha (fun s0 L X hx hZ ho hb hnm e0 => RoadKit.stB X hx hZ e0 Ar hin (g := mkF x.m pc ls (.int v :: .int j :: .ref a :: st)) rfl rfl (Jvm.hb hb hd)) (fun T' h' w' Wr' => K T' h' w' Wr' (Arv.set Ar r1 S r3 H G hf Wr' _ rfl hq))
theorem W.stI (w : W x wd l Z EL R own code mx ret nm T h k n sf) {a : Addr} {kc : ClassId} {z j v : Int32} {vs : List Value} {dv : Value} (q : Nat) (vs' : List Value) (hd : Dc code pc .iastore 1 pc') (A : Arv Z h a kc .int z vs dv) (hj : j.toNatClampNeg = q ∧ ¬ j < 0) (hz : q < z.toNatClampNeg) (hp : ∀ i, vs'.getD i dv = vs.getD i dv) (hq : q < vs'.length) (hf : fits .int (.int v) = true) (ha : a ∈ sf) (K : ∀ T' h', W x wd l Z EL R own code mx ret nm T' h' k n sf → Wr h h' a q (.int v) → Arv Z h' a kc .int z (vs'.set q (.int v)) dv → Go x wd Z EL R Q T' pc' ls st) : Go x wd Z EL R Q T pc ls (.int v :: .int j :: .ref a :: st) := by
  obtain ⟨hd, rfl⟩ := hd
  obtain ⟨hj, h0⟩ := hj
  subst hj
  obtain ⟨cl, Ar, r1, S, r3, H, G⟩ := A.pad hp
  have hin : ¬ (j < 0 ∨ cl.slots.size ≤ j.toNatClampNeg) := by rw [S]; exact fun u => u.elim h0 fun u => absurd hz (Nat.not_lt.mpr u)
  refine w.goW ha (fun s0 L X hx hZ ho hb hnm e0 => RoadKit.stI X hx hZ e0 Ar hin (g := mkF x.m pc ls (.int v :: .int j :: .ref a :: st)) rfl rfl (Jvm.hb hb hd)) (fun T' h' w' Wr' => K T' h' w' Wr' (Arv.set Ar r1 S r3 H G hf Wr' _ rfl hq))
theorem W.stR (w : W x wd l Z EL R own code mx ret nm T h k n sf) {a b : Addr} {kc : ClassId} {z j : Int32} {C : String} {vs : List Value} (q : Nat) (vs' : List Value) (hd : Dc code pc .aastore 1 pc') (A : Arv Z h a kc (.object C) z vs .null) (O : Ovr Z kc C) (I : Ins Z h b C true) (hj : j.toNatClampNeg = q ∧ ¬ j < 0) (hz : q < z.toNatClampNeg) (hp : ∀ i, vs'.getD i .null = vs.getD i .null) (hq : q < vs'.length) (ha : a ∈ sf) (K : ∀ T' h', W x wd l Z EL R own code mx ret nm T' h' k n sf → Wr h h' a q (.ref b) → Arv Z h' a kc (.object C) z (vs'.set q (.ref b)) .null → Go x wd Z EL R Q T' pc' ls st) : Go x wd Z EL R Q T pc ls (.ref b :: .int j :: .ref a :: st) := by
  obtain ⟨hd, rfl⟩ := hd
  obtain ⟨hj, h0⟩ := hj
  subst hj
  obtain ⟨cl, Ar, r1, S, r3, H, G⟩ := A.pad hp
  have hin : ¬ (j < 0 ∨ cl.slots.size ≤ j.toNatClampNeg) := by rw [S]; exact fun u => u.elim h0 fun u => absurd hz (Nat.not_lt.mpr u)
  refine w.goW ha (fun s0 L X hx hZ ho hb hnm e0 => RoadKit.stR X hx hZ e0 Ar hin rfl (Sto.ofV Ar r1 O I) (g := mkF x.m pc ls (.ref b :: .int j :: .ref a :: st)) rfl rfl (Jvm.hb hb hd)) (fun T' h' w' Wr' => K T' h' w' Wr' (Arv.set Ar r1 S r3 H G rfl Wr' _ rfl hq))
theorem W.retN (w : W x wd l Z EL R own code mx ret nm T h k n sf) {t : FieldType} {v : Int32} (hd : Dc code pc .ireturn 1 pc') (hr : ret = some t) (ht : t = .boolean ∨ t = .byte ∨ t = .char ∨ t = .short) (hQ : Q (some (.int (nar t v))) h) : Go x wd Z EL R Q T pc ls (.int v :: st) := by
  obtain ⟨hd, rfl⟩ := hd
  exact w.done (v := some (.int (nar t v))) (fun q => by rw [hr] at q; cases q) hQ fun s0 L X hx hb hret fs hl => RoadKit.retN X hx (hret.trans hr) ht (Jvm.hb hb hd) hl
theorem W.retI (w : W x wd l Z EL R own code mx ret nm T h k n sf) {v : Int32} (hd : Dc code pc .ireturn 1 pc') (hr : ret = some .int) (hQ : Q (some (.int v)) h) : Go x wd Z EL R Q T pc ls (.int v :: st) := by
  obtain ⟨hd, rfl⟩ := hd
  exact w.done (v := some (.int v)) (fun q => by rw [hr] at q; cases q) hQ fun s0 L X hx hb hret fs hl => retOut X hx (hret.trans hr) rfl (Or.inl ⟨rfl, Or.inl rfl, v, rfl⟩) (Jvm.hb hb hd) hl
theorem W.retA (w : W x wd l Z EL R own code mx ret nm T h k n sf) {t : FieldType} {v : Value} (hd : Dc code pc .areturn 1 pc') (hr : ret = some t) (ht : t.isReference = true) (hn : narrow t v = v) (hv : v.isRef = true) (hQ : Q (some v) h) : Go x wd Z EL R Q T pc ls (v :: st) := by
  obtain ⟨hd, rfl⟩ := hd
  exact w.done (v := some v) (fun q => by rw [hr] at q; cases q) hQ fun s0 L X hx hb hret fs hl => retOut X hx (hret.trans hr) hn (Or.inr (Or.inr (Or.inr (Or.inr ⟨rfl, ht, hv⟩)))) (Jvm.hb hb hd) hl
theorem W.retV (w : W x wd l Z EL R own code mx ret nm T h k n sf) (hd : Dc code pc .return_ 1 pc') (hr : ret = none) (hQ : Q none h) : Go x wd Z EL R Q T pc ls [] := by
  obtain ⟨hd, rfl⟩ := hd
  exact w.done (v := none) (fun _ => rfl) hQ fun s0 L X hx hb hret fs hl => X.returnOut hx (hret.trans hr) (Jvm.hb hb hd) hl
theorem W.callS (w : W x wd l Z EL R own code mx ret nm T h k n sf) {y : MethodName} {bytes : ByteArray} {maxL : Nat} {rt : Option FieldType} {rm : Room} {sf0 : List Addr} {Q' : Option Value → Heap → Prop} {i : Nat} {argsL rest : List Value}  (Wn : Nat) (hd : Dc code pc (.invokestatic i) 3 pc') (w1 : (Jvm.Cond.methodLink own i y).before a0 Z = true) (w2 : (Jvm.Cond.static y).before a0 Z = true) (w3 : (Jvm.Cond.initialized y.cls).before a0 Z = true) (w4 : (Jvm.Cond.code y bytes maxL rt).before a0 Z = true) (hy : y.cls ≠ "java/lang/invoke/MethodHandle" ∧ y.cls ≠ "java/lang/invoke/VarHandle") (C : Ct wd l Z EL y bytes maxL rt [] rm sf0 argsL.toArray h Q') (hlen : ∀ sig, parseMethodDescriptor y.desc = some sig → argsL.length = sig.parameters.length) (hz : ls.size = mx) (hst : st = argsL.reverse ++ rest) (hW : (rest.map fun v => v.category).sum ≤ Wn) (hr : rm.frames + 1 ≤ R.frames ∧ Wn + (maxL + 11) + rm.locals ≤ R.locals ∧ k + rm.cells ≤ R.cells ∧ n + rm.slots ≤ R.slots) (hsub : ∀ y ∈ sf0, y ∈ sf) (K : ∀ T' h' v, W x wd l Z EL R own code mx ret nm T' h' (k + rm.cells) (n + rm.slots) sf → h.size ≤ h'.size → Q' v h' → Go x wd Z EL R Q T' pc' ls (v.toList ++ rest)) : Go x wd Z EL R Q T pc ls st := by
  obtain ⟨hd, rfl⟩ := hd
  subst hst
  obtain ⟨hx, hb, hm, hret, hn, hl, e0, E, c1, c2, hs, hEL, L, vm0, N, g, X, S, hZ, ho, hC⟩ := w
  have hWW : 2 * (mkF x.m pc ls (argsL.reverse ++ rest)).monitorRoom + (rest.map fun v => v.category).sum ≤ Wn := by show 2 * 0 + _ ≤ _; omega
  cases wd with
  | false =>
    have eq := g rfl
    subst eq
    obtain ⟨v, _, ⟨T1, L1, k1, n1⟩, -, X1, ⟨Lc, hQ, l1, y1, z1⟩, stp⟩ := Jvm.LawKit.callS X hx (y := y) ho (mvT hZ w1) (mvT hZ w2) (mvT hZ w3) (mvT hZ w4) hy (backN (Wn := Wn) C hZ w4 w3 hr.1 hr.2.1) (g := mkF x.m pc ls (argsL.reverse ++ rest)) rfl (hz.trans hm.symm) (argsL := argsL) (rest := rest) hlen rfl hWW (Jvm.hb hb hd) (fun _ _ => ⟨rfl, e0, hr.2.2.1, hr.2.2.2⟩)
    dsimp only [Pt.U, Pt.locs, Pt.cells, Pt.slots] at X1 l1 y1 z1 stp hQ
    subst l1 y1 z1
    obtain ⟨s₂, o, a1, r⟩ := K T1 T1.heap v ⟨hx, hb, hm, hret, hn, hl, rfl, hQ.2.2.1, hr.2.2.1, hr.2.2.2, fun y hy => ⟨(hs y hy).1, Nat.lt_of_lt_of_le (hs y hy).2 hQ.2.2.2⟩, hEL, _, _, Fr.app N hQ.2.1, fun _ => rfl, X1, (State.WarmedH.refl x.s).since _, hZ, ho, fun q => by cases q⟩ hQ.2.2.2 hQ.1
    exact ⟨s₂, o, stp _ a1, r⟩
  | true =>
    obtain ⟨v, _, ⟨T1, L1, k1, n1⟩, -, X1, hS1, hgr, ⟨Lc, hQ, l1, y1, z1, hCr⟩, stp⟩ := callSS X hx (y := y) ho (mvT (s := x.s.setVm vm0) hZ w1) (mvT (s := x.s.setVm vm0) hZ w2) (mvT (s := x.s.setVm vm0) hZ w3) (mvT (s := x.s.setVm vm0) hZ w4) hy (backW (s := x.s) (Wn := Wn) C hZ w4 w3 hr.1 hr.2.1 hEL (hC rfl).1.1 (fun y hy => ⟨(hs y (hsub y hy)).2, (hC rfl).2 y (hsub y hy)⟩)) (g := mkF x.m pc ls (argsL.reverse ++ rest)) rfl (hz.trans hm.symm) (argsL := argsL) (rest := rest) hlen rfl hWW (Jvm.hb hb hd) (fun _ _ => ⟨rfl, e0, hr.2.2.1, hr.2.2.2⟩)
    dsimp only [Pt.U, Pt.locs, Pt.cells, Pt.slots] at X1 l1 y1 z1 stp hQ hS1 hgr hCr
    subst l1 y1 z1
    rw [e0] at hgr
    obtain ⟨Xr, Sr, Zr, Or⟩ := rebS (s := x.s) (vm0 := vm0) S hgr X1 hS1 (Nat.le_refl _) hZ ho
    obtain ⟨s₂, o, a1, r⟩ := K T1 T1.heap v ⟨hx, hb, hm, hret, hn, hl, rfl, hQ.2.2.1, hr.2.2.1, hr.2.2.2, fun y hy => ⟨(hs y hy).1, Nat.lt_of_lt_of_le (hs y hy).2 hgr⟩, hEL, _, _, Fr.app N hQ.2.1, (fun q => by cases q), Xr, Sr, Zr, Or, fun _ => ⟨(hC rfl).1.trans hCr, fun y hy => hCr.safe (hs y hy).2 ((hC rfl).2 y hy)⟩⟩ hgr hQ.1
    exact ⟨s₂, o, stp.trans a1, r⟩
theorem W.callI (w : W x wd l Z EL R own code mx ret nm T h k n sf) {y : MethodName} {bytes : ByteArray} {maxL : Nat} {rm : Room} {sf0 : List Addr} {Q' : Option Value → Heap → Prop} {i : Nat} {argsL rest : List Value} {a : Addr} (Wn : Nat) (hd : Dc code pc (.invokespecial i) 3 pc') (hy1 : y.name = "<init>") (w1 : (Jvm.Cond.methodLink own i y).before a0 Z = true) (w2 : (Jvm.Cond.instanceMethod y).before a0 Z = true) (w3 : (Jvm.Cond.initialized y.cls).before a0 Z = true) (w4 : (Jvm.Cond.code y bytes maxL none).before a0 Z = true) (hy : y.cls ≠ "java/lang/invoke/MethodHandle" ∧ y.cls ≠ "java/lang/invoke/VarHandle") (C : Ct wd l Z EL y bytes maxL none [] rm sf0 (.ref a :: argsL).toArray h Q') (hlen : ∀ sig, parseMethodDescriptor y.desc = some sig → argsL.length = sig.parameters.length) (hz : ls.size = mx) (hst : st = argsL.reverse ++ .ref a :: rest) (hW : (rest.map fun v => v.category).sum ≤ Wn) (hr : rm.frames + 1 ≤ R.frames ∧ Wn + (maxL + 11) + rm.locals ≤ R.locals ∧ k + rm.cells ≤ R.cells ∧ n + rm.slots ≤ R.slots) (hsub : ∀ y ∈ sf0, y ∈ sf) (K : ∀ T' h' v, W x wd l Z EL R own code mx ret nm T' h' (k + rm.cells) (n + rm.slots) sf → h.size ≤ h'.size → Q' v h' → Go x wd Z EL R Q T' pc' ls (v.toList ++ rest)) : Go x wd Z EL R Q T pc ls st := by
  obtain ⟨hd, rfl⟩ := hd
  subst hst
  obtain ⟨hx, hb, hm, hret, hn, hl, e0, E, c1, c2, hs, hEL, L, vm0, N, g, X, S, hZ, ho, hC⟩ := w
  have hWW : 2 * (mkF x.m pc ls (argsL.reverse ++ .ref a :: rest)).monitorRoom + (rest.map fun v => v.category).sum ≤ Wn := by show 2 * 0 + _ ≤ _; omega
  cases wd with
  | false =>
    have eq := g rfl
    subst eq
    obtain ⟨v, _, ⟨T1, L1, k1, n1⟩, -, X1, ⟨Lc, hQ, l1, y1, z1⟩, stp⟩ := X.specialBack hx (y := y) hy1 ho (mvT hZ w1) (mvT hZ w2) (mvT hZ w4) hy (backN (Wn := Wn) C hZ w4 w3 hr.1 hr.2.1) (g := mkF x.m pc ls (argsL.reverse ++ .ref a :: rest)) rfl (hz.trans hm.symm) (Steps.refl _) (a := a) (argsL := argsL) (rest := rest) hlen rfl hWW (Jvm.hb hb hd) (fun _ _ => ⟨rfl, e0, hr.2.2.1, hr.2.2.2⟩)
    dsimp only [Pt.U, Pt.locs, Pt.cells, Pt.slots] at X1 l1 y1 z1 stp hQ
    subst l1 y1 z1
    obtain ⟨s₂, o, a1, r⟩ := K T1 T1.heap v ⟨hx, hb, hm, hret, hn, hl, rfl, hQ.2.2.1, hr.2.2.1, hr.2.2.2, fun y hy => ⟨(hs y hy).1, Nat.lt_of_lt_of_le (hs y hy).2 hQ.2.2.2⟩, hEL, _, _, Fr.app N hQ.2.1, fun _ => rfl, X1, (State.WarmedH.refl x.s).since _, hZ, ho, fun q => by cases q⟩ hQ.2.2.2 hQ.1
    exact ⟨s₂, o, stp.trans a1, r⟩
  | true =>
    obtain ⟨v, _, ⟨T1, L1, k1, n1⟩, -, X1, hS1, hgr, ⟨Lc, hQ, l1, y1, z1, hCr⟩, stp⟩ := X.specialBackS hx (y := y) hy1 ho (mvT (s := x.s.setVm vm0) hZ w1) (mvT (s := x.s.setVm vm0) hZ w2) (mvT (s := x.s.setVm vm0) hZ w4) hy (backW (s := x.s) (Wn := Wn) C hZ w4 w3 hr.1 hr.2.1 hEL (hC rfl).1.1 (fun y hy => ⟨(hs y (hsub y hy)).2, (hC rfl).2 y (hsub y hy)⟩)) (g := mkF x.m pc ls (argsL.reverse ++ .ref a :: rest)) rfl (hz.trans hm.symm) (Steps.refl _) (a := a) (argsL := argsL) (rest := rest) hlen rfl hWW (Jvm.hb hb hd) (fun _ _ => ⟨rfl, e0, hr.2.2.1, hr.2.2.2⟩)
    dsimp only [Pt.U, Pt.locs, Pt.cells, Pt.slots] at X1 l1 y1 z1 stp hQ hS1 hgr hCr
    subst l1 y1 z1
    rw [e0] at hgr
    obtain ⟨Xr, Sr, Zr, Or⟩ := rebS (s := x.s) (vm0 := vm0) S hgr X1 hS1 (Nat.le_refl _) hZ ho
    obtain ⟨s₂, o, a1, r⟩ := K T1 T1.heap v ⟨hx, hb, hm, hret, hn, hl, rfl, hQ.2.2.1, hr.2.2.1, hr.2.2.2, fun y hy => ⟨(hs y hy).1, Nat.lt_of_lt_of_le (hs y hy).2 hgr⟩, hEL, _, _, Fr.app N hQ.2.1, (fun q => by cases q), Xr, Sr, Zr, Or, fun _ => ⟨(hC rfl).1.trans hCr, fun y hy => hCr.safe (hs y hy).2 ((hC rfl).2 y hy)⟩⟩ hgr hQ.1
    exact ⟨s₂, o, stp.trans a1, r⟩
theorem W.callV (w : W x wd l Z EL R own code mx ret nm T h k n sf) {y : MethodName} {bytes : ByteArray} {maxL : Nat} {rt : Option FieldType} {rm : Room} {sf0 : List Addr} {Q' : Option Value → Heap → Prop} {i : Nat} {argsL rest : List Value} {a : Addr} {Cl : String} (Wn : Nat) (hd : Dc code pc (.invokevirtual i) 3 pc') (w1 : (Jvm.Cond.methodLink own i y).before a0 Z = true) (wd1 : (Jvm.Cond.declares y).before a0 Z = true) (ws : (Jvm.Cond.selects Cl y y).before a0 Z = true) (w2 : (Jvm.Cond.instanceMethod y).before a0 Z = true) (w3 : (Jvm.Cond.initialized y.cls).before a0 Z = true) (w4 : (Jvm.Cond.code y bytes maxL rt).before a0 Z = true) (hy : y.cls ≠ "java/lang/invoke/MethodHandle" ∧ y.cls ≠ "java/lang/invoke/VarHandle") (Ea : Exa Z h a Cl) (C : Ct wd l Z EL y bytes maxL rt [] rm sf0 (.ref a :: argsL).toArray h Q') (hlen : ∀ sig, parseMethodDescriptor y.desc = some sig → argsL.length = sig.parameters.length) (hz : ls.size = mx) (hst : st = argsL.reverse ++ .ref a :: rest) (hW : (rest.map fun v => v.category).sum ≤ Wn) (hr : rm.frames + 1 ≤ R.frames ∧ Wn + (maxL + 11) + rm.locals ≤ R.locals ∧ k + rm.cells ≤ R.cells ∧ n + rm.slots ≤ R.slots) (hsub : ∀ y ∈ sf0, y ∈ sf) (K : ∀ T' h' v, W x wd l Z EL R own code mx ret nm T' h' (k + rm.cells) (n + rm.slots) sf → h.size ≤ h'.size → Q' v h' → Go x wd Z EL R Q T' pc' ls (v.toList ++ rest)) : Go x wd Z EL R Q T pc ls st := by
  obtain ⟨hd, rfl⟩ := hd
  subst hst
  obtain ⟨hx, hb, hm, hret, hn, hl, e0, E, c1, c2, hs, hEL, L, vm0, N, g, X, S, hZ, ho, hC⟩ := w
  have hWW : 2 * (mkF x.m pc ls (argsL.reverse ++ .ref a :: rest)).monitorRoom + (rest.map fun v => v.category).sum ≤ Wn := by show 2 * 0 + _ ≤ _; omega
  obtain ⟨cB, kB, qa, qb, qc⟩ := isOf (s := x.s.setVm vm0) hZ e0 Ea
  cases wd with
  | false =>
    have eq := g rfl
    subst eq
    obtain ⟨v, _, ⟨T1, L1, k1, n1⟩, -, X1, ⟨Lc, hQ, l1, y1, z1⟩, stp⟩ := X.virtualBack hx (y := y) (z := y) ho (mvT hZ w1) (mvT hZ wd1) (notFace_of_selects (args := #[]) (mvT hZ ws)) (mvT hZ ws) (mvT hZ w2) hy (backN (Wn := Wn) C hZ w4 w3 hr.1 hr.2.1) qa qc (g := mkF x.m pc ls (argsL.reverse ++ .ref a :: rest)) rfl (hz.trans hm.symm) (Steps.refl _) (argsL := argsL) (rest := rest) hlen rfl hWW (Jvm.hb hb hd) (fun _ _ => ⟨rfl, e0, hr.2.2.1, hr.2.2.2⟩)
    dsimp only [Pt.U, Pt.locs, Pt.cells, Pt.slots] at X1 l1 y1 z1 stp hQ
    subst l1 y1 z1
    obtain ⟨s₂, o, a1, r⟩ := K T1 T1.heap v ⟨hx, hb, hm, hret, hn, hl, rfl, hQ.2.2.1, hr.2.2.1, hr.2.2.2, fun y hy => ⟨(hs y hy).1, Nat.lt_of_lt_of_le (hs y hy).2 hQ.2.2.2⟩, hEL, _, _, Fr.app N hQ.2.1, fun _ => rfl, X1, (State.WarmedH.refl x.s).since _, hZ, ho, fun q => by cases q⟩ hQ.2.2.2 hQ.1
    exact ⟨s₂, o, stp.trans a1, r⟩
  | true =>
    obtain ⟨v, _, ⟨T1, L1, k1, n1⟩, -, X1, hS1, hgr, ⟨Lc, hQ, l1, y1, z1, hCr⟩, stp⟩ := X.virtualBackS hx (y := y) (z := y) ho (mvT (s := x.s.setVm vm0) hZ w1) (mvT (s := x.s.setVm vm0) hZ wd1) (notFace_of_selects (args := #[]) (mvT (s := x.s.setVm vm0) hZ ws)) (mvT (s := x.s.setVm vm0) hZ ws) (mvT (s := x.s.setVm vm0) hZ w2) hy (backW (s := x.s) (Wn := Wn) C hZ w4 w3 hr.1 hr.2.1 hEL (hC rfl).1.1 (fun y hy => ⟨(hs y (hsub y hy)).2, (hC rfl).2 y (hsub y hy)⟩)) qa qc (g := mkF x.m pc ls (argsL.reverse ++ .ref a :: rest)) rfl (hz.trans hm.symm) (Steps.refl _) (argsL := argsL) (rest := rest) hlen rfl hWW (Jvm.hb hb hd) (fun _ _ => ⟨rfl, e0, hr.2.2.1, hr.2.2.2⟩)
    dsimp only [Pt.U, Pt.locs, Pt.cells, Pt.slots] at X1 l1 y1 z1 stp hQ hS1 hgr hCr
    subst l1 y1 z1
    rw [e0] at hgr
    obtain ⟨Xr, Sr, Zr, Or⟩ := rebS (s := x.s) (vm0 := vm0) S hgr X1 hS1 (Nat.le_refl _) hZ ho
    obtain ⟨s₂, o, a1, r⟩ := K T1 T1.heap v ⟨hx, hb, hm, hret, hn, hl, rfl, hQ.2.2.1, hr.2.2.1, hr.2.2.2, fun y hy => ⟨(hs y hy).1, Nat.lt_of_lt_of_le (hs y hy).2 hgr⟩, hEL, _, _, Fr.app N hQ.2.1, (fun q => by cases q), Xr, Sr, Zr, Or, fun _ => ⟨(hC rfl).1.trans hCr, fun y hy => hCr.safe (hs y hy).2 ((hC rfl).2 y hy)⟩⟩ hgr hQ.1
    exact ⟨s₂, o, stp.trans a1, r⟩
theorem W.callVZ (w : W x wd l Z EL R own code mx ret nm T h k n sf) {y : MethodName} {bytes : ByteArray} {maxL : Nat} {rt : Option FieldType} {rm : Room} {sf0 : List Addr} {Q' : Option Value → Heap → Prop} {i : Nat} {argsL rest : List Value} {a : Addr} {z : MethodName} {Cl Sup : String} (Wn : Nat) (hd : Dc code pc (.invokevirtual i) 3 pc') (w1 : (Jvm.Cond.methodLink own i y).before a0 Z = true) (wd1 : (Jvm.Cond.declares y).before a0 Z = true) (wsp : (Jvm.Cond.superclass y.cls Sup).before a0 Z = true) (ws : (Jvm.Cond.selects Cl y z).before a0 Z = true) (w2 : (Jvm.Cond.instanceMethod z).before a0 Z = true) (w3 : (Jvm.Cond.initialized z.cls).before a0 Z = true) (w4 : (Jvm.Cond.code z bytes maxL rt).before a0 Z = true) (hy : y.cls ≠ "java/lang/invoke/MethodHandle" ∧ y.cls ≠ "java/lang/invoke/VarHandle") (Ea : Exa Z h a Cl) (C : Ct wd l Z EL z bytes maxL rt [] rm sf0 (.ref a :: argsL).toArray h Q') (hlen : ∀ sig, parseMethodDescriptor y.desc = some sig → argsL.length = sig.parameters.length) (hz : ls.size = mx) (hst : st = argsL.reverse ++ .ref a :: rest) (hW : (rest.map fun v => v.category).sum ≤ Wn) (hr : rm.frames + 1 ≤ R.frames ∧ Wn + (maxL + 11) + rm.locals ≤ R.locals ∧ k + rm.cells ≤ R.cells ∧ n + rm.slots ≤ R.slots) (hsub : ∀ y ∈ sf0, y ∈ sf) (K : ∀ T' h' v, W x wd l Z EL R own code mx ret nm T' h' (k + rm.cells) (n + rm.slots) sf → h.size ≤ h'.size → Q' v h' → Go x wd Z EL R Q T' pc' ls (v.toList ++ rest)) : Go x wd Z EL R Q T pc ls st := by
  obtain ⟨hd, rfl⟩ := hd
  subst hst
  obtain ⟨hx, hb, hm, hret, hn, hl, e0, E, c1, c2, hs, hEL, L, vm0, N, g, X, S, hZ, ho, hC⟩ := w
  have hWW : 2 * (mkF x.m pc ls (argsL.reverse ++ .ref a :: rest)).monitorRoom + (rest.map fun v => v.category).sum ≤ Wn := by show 2 * 0 + _ ≤ _; omega
  obtain ⟨cB, kB, qa, qb, qc⟩ := isOf (s := x.s.setVm vm0) hZ e0 Ea
  cases wd with
  | false =>
    have eq := g rfl
    subst eq
    obtain ⟨v, _, ⟨T1, L1, k1, n1⟩, -, X1, ⟨Lc, hQ, l1, y1, z1⟩, stp⟩ := X.virtualBack hx (y := y) (z := z) ho (mvT hZ w1) (mvT hZ wd1) (nf_super (args := #[]) (mvT hZ wsp)) (mvT hZ ws) (mvT hZ w2) hy (backN (Wn := Wn) C hZ w4 w3 hr.1 hr.2.1) qa qc (g := mkF x.m pc ls (argsL.reverse ++ .ref a :: rest)) rfl (hz.trans hm.symm) (Steps.refl _) (argsL := argsL) (rest := rest) hlen rfl hWW (Jvm.hb hb hd) (fun _ _ => ⟨rfl, e0, hr.2.2.1, hr.2.2.2⟩)
    dsimp only [Pt.U, Pt.locs, Pt.cells, Pt.slots] at X1 l1 y1 z1 stp hQ
    subst l1 y1 z1
    obtain ⟨s₂, o, a1, r⟩ := K T1 T1.heap v ⟨hx, hb, hm, hret, hn, hl, rfl, hQ.2.2.1, hr.2.2.1, hr.2.2.2, fun y hy => ⟨(hs y hy).1, Nat.lt_of_lt_of_le (hs y hy).2 hQ.2.2.2⟩, hEL, _, _, Fr.app N hQ.2.1, fun _ => rfl, X1, (State.WarmedH.refl x.s).since _, hZ, ho, fun q => by cases q⟩ hQ.2.2.2 hQ.1
    exact ⟨s₂, o, stp.trans a1, r⟩
  | true =>
    obtain ⟨v, _, ⟨T1, L1, k1, n1⟩, -, X1, hS1, hgr, ⟨Lc, hQ, l1, y1, z1, hCr⟩, stp⟩ := X.virtualBackS hx (y := y) (z := z) ho (mvT (s := x.s.setVm vm0) hZ w1) (mvT (s := x.s.setVm vm0) hZ wd1) (nf_super (args := #[]) (mvT (s := x.s.setVm vm0) hZ wsp)) (mvT (s := x.s.setVm vm0) hZ ws) (mvT (s := x.s.setVm vm0) hZ w2) hy (backW (s := x.s) (Wn := Wn) C hZ w4 w3 hr.1 hr.2.1 hEL (hC rfl).1.1 (fun y hy => ⟨(hs y (hsub y hy)).2, (hC rfl).2 y (hsub y hy)⟩)) qa qc (g := mkF x.m pc ls (argsL.reverse ++ .ref a :: rest)) rfl (hz.trans hm.symm) (Steps.refl _) (argsL := argsL) (rest := rest) hlen rfl hWW (Jvm.hb hb hd) (fun _ _ => ⟨rfl, e0, hr.2.2.1, hr.2.2.2⟩)
    dsimp only [Pt.U, Pt.locs, Pt.cells, Pt.slots] at X1 l1 y1 z1 stp hQ hS1 hgr hCr
    subst l1 y1 z1
    rw [e0] at hgr
    obtain ⟨Xr, Sr, Zr, Or⟩ := rebS (s := x.s) (vm0 := vm0) S hgr X1 hS1 (Nat.le_refl _) hZ ho
    obtain ⟨s₂, o, a1, r⟩ := K T1 T1.heap v ⟨hx, hb, hm, hret, hn, hl, rfl, hQ.2.2.1, hr.2.2.1, hr.2.2.2, fun y hy => ⟨(hs y hy).1, Nat.lt_of_lt_of_le (hs y hy).2 hgr⟩, hEL, _, _, Fr.app N hQ.2.1, (fun q => by cases q), Xr, Sr, Zr, Or, fun _ => ⟨(hC rfl).1.trans hCr, fun y hy => hCr.safe (hs y hy).2 ((hC rfl).2 y hy)⟩⟩ hgr hQ.1
    exact ⟨s₂, o, stp.trans a1, r⟩
theorem W.callVU (w : W x wd l Z EL R own code mx ret nm T h k n sf) {y : MethodName} {bytes : ByteArray} {maxL : Nat} {rt : Option FieldType} {rm : Room} {sf0 : List Addr} {Q' : Option Value → Heap → Prop} {i : Nat} {argsL rest : List Value} {a : Addr} {z : MethodName} {Cl ow : String} (Wn : Nat) (hd : Dc code pc (.invokevirtual i) 3 pc') (w1 : (Jvm.Cond.methodLink own i y).before a0 Z = true) (wsm : (Jvm.Cond.sameMethod y.cls ow y.name y.desc).before a0 Z = true) (wd1 : (Jvm.Cond.declares ⟨ow, y.name, y.desc⟩).before a0 Z = true) (ws : (Jvm.Cond.selects Cl y z).before a0 Z = true) (w2 : (Jvm.Cond.instanceMethod z).before a0 Z = true) (w3 : (Jvm.Cond.initialized z.cls).before a0 Z = true) (w4 : (Jvm.Cond.code z bytes maxL rt).before a0 Z = true) (hy : ow ≠ "java/lang/invoke/MethodHandle" ∧ ow ≠ "java/lang/invoke/VarHandle") (Ea : Exa Z h a Cl) (C : Ct wd l Z EL z bytes maxL rt [] rm sf0 (.ref a :: argsL).toArray h Q') (hlen : ∀ sig, parseMethodDescriptor y.desc = some sig → argsL.length = sig.parameters.length) (hz : ls.size = mx) (hst : st = argsL.reverse ++ .ref a :: rest) (hW : (rest.map fun v => v.category).sum ≤ Wn) (hr : rm.frames + 1 ≤ R.frames ∧ Wn + (maxL + 11) + rm.locals ≤ R.locals ∧ k + rm.cells ≤ R.cells ∧ n + rm.slots ≤ R.slots) (hsub : ∀ y ∈ sf0, y ∈ sf) (K : ∀ T' h' v, W x wd l Z EL R own code mx ret nm T' h' (k + rm.cells) (n + rm.slots) sf → h.size ≤ h'.size → Q' v h' → Go x wd Z EL R Q T' pc' ls (v.toList ++ rest)) : Go x wd Z EL R Q T pc ls st := by
  obtain ⟨hd, rfl⟩ := hd
  subst hst
  obtain ⟨hx, hb, hm, hret, hn, hl, e0, E, c1, c2, hs, hEL, L, vm0, N, g, X, S, hZ, ho, hC⟩ := w
  have hWW : 2 * (mkF x.m pc ls (argsL.reverse ++ .ref a :: rest)).monitorRoom + (rest.map fun v => v.category).sum ≤ Wn := by show 2 * 0 + _ ≤ _; omega
  obtain ⟨cB, kB, qa, qb, qc⟩ := isOf (s := x.s.setVm vm0) hZ e0 Ea
  cases wd with
  | false =>
    have eq := g rfl
    subst eq
    obtain ⟨v, _, ⟨T1, L1, k1, n1⟩, -, X1, ⟨Lc, hQ, l1, y1, z1⟩, stp⟩ := X.virtualBackUp hx (x := y) (y := z) ho (mvT hZ w1) (mvT hZ wsm) (mvT hZ wd1) hy (mvT hZ ws) (mvT hZ w2) (backN (Wn := Wn) C hZ w4 w3 hr.1 hr.2.1) qa qc (g := mkF x.m pc ls (argsL.reverse ++ .ref a :: rest)) rfl (hz.trans hm.symm) (Steps.refl _) (argsL := argsL) (rest := rest) hlen rfl hWW (Jvm.hb hb hd) (fun _ _ => ⟨rfl, e0, hr.2.2.1, hr.2.2.2⟩)
    dsimp only [Pt.U, Pt.locs, Pt.cells, Pt.slots] at X1 l1 y1 z1 stp hQ
    subst l1 y1 z1
    obtain ⟨s₂, o, a1, r⟩ := K T1 T1.heap v ⟨hx, hb, hm, hret, hn, hl, rfl, hQ.2.2.1, hr.2.2.1, hr.2.2.2, fun y hy => ⟨(hs y hy).1, Nat.lt_of_lt_of_le (hs y hy).2 hQ.2.2.2⟩, hEL, _, _, Fr.app N hQ.2.1, fun _ => rfl, X1, (State.WarmedH.refl x.s).since _, hZ, ho, fun q => by cases q⟩ hQ.2.2.2 hQ.1
    exact ⟨s₂, o, stp.trans a1, r⟩
  | true =>
    obtain ⟨v, _, ⟨T1, L1, k1, n1⟩, -, X1, hS1, hgr, ⟨Lc, hQ, l1, y1, z1, hCr⟩, stp⟩ := X.virtualBackUpS hx (x := y) (y := z) ho (mvT (s := x.s.setVm vm0) hZ w1) (mvT (s := x.s.setVm vm0) hZ wsm) (mvT (s := x.s.setVm vm0) hZ wd1) hy (mvT (s := x.s.setVm vm0) hZ ws) (mvT (s := x.s.setVm vm0) hZ w2) (backW (s := x.s) (Wn := Wn) C hZ w4 w3 hr.1 hr.2.1 hEL (hC rfl).1.1 (fun y hy => ⟨(hs y (hsub y hy)).2, (hC rfl).2 y (hsub y hy)⟩)) qa qc (g := mkF x.m pc ls (argsL.reverse ++ .ref a :: rest)) rfl (hz.trans hm.symm) (Steps.refl _) (argsL := argsL) (rest := rest) hlen rfl hWW (Jvm.hb hb hd) (fun _ _ => ⟨rfl, e0, hr.2.2.1, hr.2.2.2⟩)
    dsimp only [Pt.U, Pt.locs, Pt.cells, Pt.slots] at X1 l1 y1 z1 stp hQ hS1 hgr hCr
    subst l1 y1 z1
    rw [e0] at hgr
    obtain ⟨Xr, Sr, Zr, Or⟩ := rebS (s := x.s) (vm0 := vm0) S hgr X1 hS1 (Nat.le_refl _) hZ ho
    obtain ⟨s₂, o, a1, r⟩ := K T1 T1.heap v ⟨hx, hb, hm, hret, hn, hl, rfl, hQ.2.2.1, hr.2.2.1, hr.2.2.2, fun y hy => ⟨(hs y hy).1, Nat.lt_of_lt_of_le (hs y hy).2 hgr⟩, hEL, _, _, Fr.app N hQ.2.1, (fun q => by cases q), Xr, Sr, Zr, Or, fun _ => ⟨(hC rfl).1.trans hCr, fun y hy => hCr.safe (hs y hy).2 ((hC rfl).2 y hy)⟩⟩ hgr hQ.1
    exact ⟨s₂, o, stp.trans a1, r⟩
theorem W.lsw (w : W x wd l Z EL R own code mx ret nm T h k n sf) {dflt off : Int} {pairs : Array (Int × Int)} {len : Nat} {i : Int32} (hd : Dc code pc (.lookupswitch dflt pairs) len pc') (hp : (pairs.toList.zip (pairs.toList.drop 1)).all (fun (a, next) => a.1 < next.1) = true) (ho : (match pairs.find? (·.1 == i.toInt) with | some (_, o) => o | none => dflt) = off) (ht : Tg pc off pcT) (K : Go x wd Z EL R Q T pcT ls st) : Go x wd Z EL R Q T pc ls (.int i :: st) := by
  obtain ⟨hd, rfl⟩ := hd
  obtain ⟨ht, rfl⟩ := ht
  obtain ⟨hx, hb, hm, hr, hn, hl, e0, E, c1, c2, hs, hEL, L, vm0, N, g, X, S, hZ, ho', hC⟩ := w
  obtain ⟨s₂, o, a1, r⟩ := K
  refine ⟨s₂, o, ?_, r⟩
  rcases hf : pairs.find? (·.1 == i.toInt) with _ | ⟨a, off'⟩
  · simp only [hf] at ho
    subst ho
    exact X.lookupswitchMiss hx (g := mkF x.m pc ls (.int i :: st)) rfl rfl (Jvm.hb hb hd) hp hf ht _ a1
  · simp only [hf] at ho
    subst ho
    exact X.lookupswitchHit hx (g := mkF x.m pc ls (.int i :: st)) rfl rfl (Jvm.hb hb hd) hp hf ht _ a1
theorem W.instNo (w : W x wd l Z EL R own code mx ret nm T h k n sf) {i : Nat} {a : Addr} {C K0 : String} (hd : Dc code pc (.instanceof i) 3 pc') (wl : (Jvm.Cond.classLink own i K0).before a0 Z = true) (E : Exa Z h a C) (F : ∃ c t, Z.vm.findClass C = some c ∧ Z.vm.findClass K0 = some t ∧ Z.vm.assignable c t = false) (K : ∀ T', W x wd l Z EL R own code mx ret nm T' h k n sf → Go x wd Z EL R Q T' pc' ls (.int 0 :: st)) : Go x wd Z EL R Q T pc ls (.ref a :: st) := by
  obtain ⟨hd, rfl⟩ := hd
  exact w.goT (fun s0 L X hx hZ ho hb hm e0 => RoadKit.instNo X hx hZ ho wl e0 E F (g := mkF x.m pc ls (.ref a :: st)) rfl rfl (Jvm.hb hb hd)) K
theorem W.ldc2D (w : W x wd l Z EL R own code mx ret nm T h k n sf) {i : Nat} {v : UInt64} (hd : Dc code pc (.ldc2_w i) 3 pc') (wc : (Jvm.Cond.constantDouble own i v).before a0 Z = true) (K : Go x wd Z EL R Q T pc' ls (.double v :: st)) : Go x wd Z EL R Q T pc ls st := by
  obtain ⟨hd, rfl⟩ := hd
  obtain ⟨hx, hb, hm, hr, hn, hl, e0, E, c1, c2, hs, hEL, L, vm0, N, g, X, S, hZ, ho, hC⟩ := w
  obtain ⟨s₂, o, a1, r⟩ := K
  exact ⟨s₂, o, X.ldc2DoubleC hx ho (mv (s := x.s.setVm vm0) hZ wc) (g := mkF x.m pc ls st) rfl (Jvm.hb hb hd) _ a1, r⟩
theorem W.retD (w : W x wd l Z EL R own code mx ret nm T h k n sf) {v : UInt64} (hd : Dc code pc .dreturn 1 pc') (hr : ret = some .double) (hQ : Q (some (.double v)) h) : Go x wd Z EL R Q T pc ls (.double v :: st) := by
  obtain ⟨hd, rfl⟩ := hd
  exact w.done (v := some (.double v)) (fun q => by rw [hr] at q; cases q) hQ fun s0 L X hx hb hret fs hl => retOut X hx (hret.trans hr) rfl (Or.inr (Or.inr (Or.inl ⟨rfl, rfl, v, rfl⟩))) (Jvm.hb hb hd) hl
theorem W.ldc2J (w : W x wd l Z EL R own code mx ret nm T h k n sf) {i : Nat} {v : Int64} (hd : Dc code pc (.ldc2_w i) 3 pc') (wc : (Jvm.Cond.constantLong own i v).before a0 Z = true) (K : Go x wd Z EL R Q T pc' ls (.long v :: st)) : Go x wd Z EL R Q T pc ls st := by
  obtain ⟨hd, rfl⟩ := hd
  obtain ⟨hx, hb, hm, hr, hn, hl, e0, E, c1, c2, hs, hEL, L, vm0, N, g, X, S, hZ, ho, hC⟩ := w
  obtain ⟨s₂, o, a1, r⟩ := K
  exact ⟨s₂, o, X.ldc2J hx ho (mv (s := x.s.setVm vm0) hZ wc) rfl (Jvm.hb hb hd) a1, r⟩
theorem W.instNull (w : W x wd l Z EL R own code mx ret nm T h k n sf) {i : Nat} (hd : Dc code pc (.instanceof i) 3 pc') (K : Go x wd Z EL R Q T pc' ls (.int 0 :: st)) : Go x wd Z EL R Q T pc ls (.null :: st) := by
  obtain ⟨hd, rfl⟩ := hd
  obtain ⟨hx, hb, hm, hr, hn, hl, e0, E, c1, c2, hs, hEL, L, vm0, N, g, X, S, hZ, ho, hC⟩ := w
  obtain ⟨s₂, o, a1, r⟩ := K
  exact ⟨s₂, o, X.instanceofNull hx (g := mkF x.m pc ls (.null :: st)) rfl rfl (Jvm.hb hb hd) _ a1, r⟩
theorem W.getFR (w : W x wd l Z EL R own code mx ret nm T h k n sf) {i : Nat} {a : Addr} {O f d : String} {v : Value} (hd : Dc code pc (.getfield i) 3 pc') (wl : (Jvm.Cond.fieldRef own i O f d).before a0 Z = true) (F : Fld Z h a O f d v) (K : Go x wd Z EL R Q T pc' ls (v :: st)) : Go x wd Z EL R Q T pc ls (.ref a :: st) := by
  obtain ⟨hd, rfl⟩ := hd
  obtain ⟨hx, hb, hm, hr, hn, hl, e0, E, c1, c2, hs, hEL, L, vm0, N, g, X, S, hZ, ho, hC⟩ := w
  obtain ⟨s₂, o, a1, r⟩ := K
  obtain ⟨cell, cf, kk, ii, fl, h1, h2, h3, h4, -, -, h7⟩ := F
  have hZT : Z.Warmed39 T.vm := wtrans (s := x.s.setVm vm0) hZ X.warmed
  have hq := Cond.fieldRef_warmed39 hZT wl
  have hoT : (Z.setVm T.vm).vm.findClass own = some x.m.cls := (X.warmed.alike.findClass _ _).trans ho
  obtain ⟨q1, q2, q3, q4, g1, g2⟩ := Cond.fieldRef_spec hoT hq
  obtain ⟨k', hi, -⟩ := State.fieldFound?_setVm (s := Z) hZT.alike h2
  cases hi.symm.trans g1
  have hd' := Jvm.hb hb hd
  have g2' : T.vm.fieldReady x.m.cls i cf fl := g2
  refine ⟨s₂, o, ?_, r⟩
  show Steps x.p.tables x.e x.below (T.setTop { method := x.m, pc := pc, locals := ls, stack := .ref a :: st, locked := none }) _
  jvm_step X.here [hx, hd', getfield.wp_ready (e := x.e) (s := T) (f := mkF x.m pc ls (.ref a :: st)) X.here.top g2' h3 rfl (show T.heap[a]? = some cell by rw [e0]; exact h1) h4 h7]
  exact a1
theorem W.ldcS (w : W x true l Z EL R own code mx ret nm T h k n sf) {i : Nat} {text : String} (nn : Nat) (hd : Dc code pc (.ldc i) 2 pc') (wl : (Jvm.Cond.stringLink own i text).before a0 Z = true) (wS : ∀ a ∈ Bundle.stringAtoms, a.before a0 Z = true) (hEL : EW Z a0 EL) (hn4 : 4 * text.toList.length ≤ nn) (hbig : nn ≤ 536870912) (hr : k + 2 ≤ R.cells ∧ n + (nn + 4) ≤ R.slots) (K : ∀ (a : Addr) T' h', W x true l Z EL R own code mx ret nm T' h' (k + 2) (n + (nn + 4)) sf → Ext h h' → Go x true Z EL R Q T' pc' ls (.ref a :: st)) : Go x true Z EL R Q T pc ls st := by
  obtain ⟨hd, rfl⟩ := hd
  obtain ⟨hx, hb, hm, hret, hnm, hl, e0, E, c1, c2, hs, -, L, vm0, N, g, X, S, hZ, ho, hC⟩ := w
  obtain ⟨a, T', h', k1, X', e', E', S', hk1, Z', o', hCr, -, stp⟩ := ldcOH X hx hZ ho wl wS e0 S (Nat.le_refl _) hEL (hC rfl).1.1 (g := mkF x.m pc ls st) rfl (Jvm.hb hb hd) hn4 hbig hr.1 hr.2
  obtain ⟨s₂, o, a1, r⟩ := K a T' h' ⟨hx, hb, hm, hret, hnm, hl, e', ext_trans E E', hr.1, hr.2, fun y hy => ⟨(hs y hy).1, Nat.lt_of_lt_of_le (hs y hy).2 E'.1⟩, ⟨a0, hEL⟩, L, _, N, (fun q => by cases q), X', since_mono S' hk1, Z', o', fun _ => ⟨(hC rfl).1.trans hCr, fun y hy => hCr.safe (hs y hy).2 ((hC rfl).2 y hy)⟩⟩ E'
  exact ⟨s₂, o, stp _ a1, r⟩
theorem W.ldcR (w : W x true l Z EL R own code mx ret nm T h k n sf) {i : Nat} {text : String} {vs : List Value} (z : Int32) (nn : Nat) (hd : Dc code pc (.ldc i) 2 pc') (wl : (Jvm.Cond.stringLink own i text).before a0 Z = true) (wS : ∀ a ∈ Bundle.stringAtoms, a.before a0 Z = true) (hEL : EW Z a0 EL) (hmem : (own, i) ∈ EL) (ht : (∀ c ∈ text.toList, c.toNat < 256) ∧ text.toList.map (fun c => Value.int (Jvm.Lit.byteI c.toNat.toUInt16)) = vs) (hz : ¬ z < 0) (hlz : z.toNatClampNeg = vs.length) (hn4 : 4 * text.toList.length ≤ nn) (hbig : nn ≤ 536870912) (hr : k + 2 ≤ R.cells ∧ n + (nn + 4) ≤ R.slots) (K : ∀ (a b : Addr) kb T' h', W x true l Z EL R own code mx ret nm T' h' (k + 2) (n + (nn + 4)) sf → Ext h h' → Exa Z h' a "java/lang/String" → Fld Z h' a "java/lang/String" "coder" "B" (.int 0) → Fld Z h' a "java/lang/String" "value" "[B" (.ref b) → Arv Z h' b kb .byte z vs (.int 0) → (∀ y ∈ sf, y ≠ a ∧ y ≠ b) → Go x true Z EL R Q T' pc' ls (.ref a :: st)) : Go x true Z EL R Q T pc ls st := by
  obtain ⟨hd, rfl⟩ := hd
  obtain ⟨hx, hb, hm, hret, hnm, hl, e0, E, c1, c2, hs, -, L, vm0, N, g, X, S, hZ, ho, hC⟩ := w
  obtain ⟨a, T', h', k1, b, kb, X', e', E', S', hk1, Z', o', q1, q2, q3, q4, -, -, hCr, -, hne, stp⟩ := ldcCH X hx hZ ho wl wS e0 S (Nat.le_refl _) hEL hmem (hC rfl).1.1 ht hz hlz (g := mkF x.m pc ls st) rfl (Jvm.hb hb hd) hn4 hbig hr.1 hr.2
  have hsf : ∀ y ∈ sf, Safe Z EL T'.vm h' y := fun y hy => hCr.safe (hs y hy).2 ((hC rfl).2 y hy)
  obtain ⟨s₂, o, a1, r⟩ := K a b kb T' h' ⟨hx, hb, hm, hret, hnm, hl, e', ext_trans E E', hr.1, hr.2, fun y hy => ⟨(hs y hy).1, Nat.lt_of_lt_of_le (hs y hy).2 E'.1⟩, ⟨a0, hEL⟩, L, _, N, (fun q => by cases q), X', since_mono S' hk1, Z', o', fun _ => ⟨(hC rfl).1.trans hCr, hsf⟩⟩ E' q1 q2 q3 q4 (fun y hy => hne y (hsf y hy))
  exact ⟨s₂, o, stp _ a1, r⟩
end Laws
theorem eqv_int {args : Array Value} {first s : State} {o : Option Outcome} {idx : List Nat} {a b : Term} {z : Int32} (h : (Jvm.Cond.eq a b).value args first o s idx = some true) (hb : b.eval args first o idx s = some (.int z)) : a.eval args first o idx s = some (.int z) := by
  cases ha : a.eval args first o idx s with
  | none => simp [Jvm.Cond.value, ha, hb] at h
  | some v => cases v <;> simp [Jvm.Cond.value, ha, hb] at h ⊢; exact h
theorem eqv_ref {args : Array Value} {first s : State} {o : Option Outcome} {idx : List Nat} {a b : Term} {z : Addr} (h : (Jvm.Cond.eq a b).value args first o s idx = some true) (hb : b.eval args first o idx s = some (.ref z)) : a.eval args first o idx s = some (.ref z) := by
  cases ha : a.eval args first o idx s with
  | none => simp [Jvm.Cond.value, ha, hb] at h
  | some v => cases v <;> simp [Jvm.Cond.value, ha, hb] at h ⊢; exact h
theorem sta_exa {Z : State} {args : Array Value} {C f d K : String} (hx : (Jvm.Cond.exactly (.static C f d) K).value args Z none Z [] = some true) (hi : (Jvm.Cond.initialized C).before args Z = true) (hl : (Jvm.Cond.laysStatic C f d).before args Z = true) :
    ∃ a, (Term.static C f d).eval args Z none [] Z = some (.ref a) ∧ Sta Z Z.heap C f d (.ref a) ∧ Exa Z Z.heap a K := by
  obtain ⟨a, ev⟩ := exa_v hx
  exact ⟨a, ev, Sta.start ev (Or.inr ⟨hi, hl⟩), Exa.start ev hx⟩
theorem fld_int {Z : State} {args : Array Value} {t : Term} {C f d : String} {z : Int32} {a : Addr} (h : (Jvm.Cond.eq (.field t C f d) (.int z)).value args Z none Z [] = some true) (ht : t.eval args Z none [] Z = some (.ref a)) : Fld Z Z.heap a C f d (.int z) :=
  Fld.start (by rw [← fld_at ht]; exact eqv_int h (Term.int_eval z))
theorem fld_ref {Z : State} {args : Array Value} {t u : Term} {C f d : String} {a b : Addr} (h : (Jvm.Cond.eq (.field t C f d) u).value args Z none Z [] = some true) (ht : t.eval args Z none [] Z = some (.ref a)) (hu : u.eval args Z none [] Z = some (.ref b)) : Fld Z Z.heap a C f d (.ref b) :=
  Fld.start (by rw [← fld_at ht]; exact eqv_ref h hu)
theorem ord_ne {Z : State} {h : Heap} {a b : Addr} {C f d : String} {u v : Int32} (F : Fld Z h a C f d (.int u)) (G : Fld Z h b C f d (.int v)) (q : u ≠ v) : a ≠ b := Fld.ne F G fun e => q (Value.int.inj e)
/-- a String at a, its bytes in the array at t, its coder k -/
def StrL (Z : State) (h : Heap) (a t : Addr) (k : Int32) (bs : List Int32) : Prop :=
  Exa Z h a "java/lang/String" ∧ Fld Z h a "java/lang/String" "value" "[B" (.ref t) ∧ Fld Z h a "java/lang/String" "coder" "B" (.int k) ∧ ∃ kb, Arv Z h t kb .byte (Int32.ofNat bs.length) (bs.map .int) (.int 0) ∧ bs.length < 2 ^ 31
section StrFacts
variable {Z : State} {h h' : Heap} {a t : Addr} {k : Int32} {bs : List Int32}
theorem StrL.ext (F : StrL Z h a t k bs) (E : Ext h h') : StrL Z h' a t k bs := ⟨F.1.ext E, F.2.1.ext E, F.2.2.1.ext E, by obtain ⟨kb, A, q⟩ := F.2.2.2; exact ⟨kb, A.ext E, q⟩⟩
theorem StrL.keep {ws : List Addr} (F : StrL Z h a t k bs) (K : Keep h h' ws) (q1 : a ∉ ws) (q2 : t ∉ ws) : StrL Z h' a t k bs := ⟨F.1.keep K, F.2.1.keep K q1, F.2.2.1.keep K q1, by obtain ⟨kb, A, q⟩ := F.2.2.2; exact ⟨kb, A.keep K q2, q⟩⟩
theorem StrL.wr {x : Addr} {sl : Nat} {v : Value} (F : StrL Z h a t k bs) (W : Wr h h' x sl v) (q1 : a ≠ x) (q2 : t ≠ x) : StrL Z h' a t k bs := F.keep (Keep.of_wr W) (ninS q1 nin0) (ninS q2 nin0)
theorem StrL.lt (F : StrL Z h a t k bs) : a < h.size := F.1.lt
theorem StrL.lt' (F : StrL Z h a t k bs) : t < h.size := by obtain ⟨kb, A, -⟩ := F.2.2.2; exact A.lt
theorem ofN_toInt {n : Nat} (h : n < 2 ^ 31) : (Int32.ofNat n).toInt = (n : Int) := Int32.toInt_ofNat_small h
theorem ofN_clamp {n : Nat} (h : n < 2 ^ 31) : (Int32.ofNat n).toNatClampNeg = n := by simp only [Int32.toNatClampNeg, ofN_toInt h]; rfl
theorem ofN_nn {n : Nat} (h : n < 2 ^ 31) : ¬ Int32.ofNat n < 0 := by rw [Int32.lt_iff_toInt_lt, ofN_toInt h]; exact Int.not_lt.mpr (Int.natCast_nonneg n)
theorem ofN_lt {i n : Nat} (hi : i < 2 ^ 31) (hn : n < 2 ^ 31) : Int32.ofNat i < Int32.ofNat n ↔ i < n := by rw [Int32.lt_iff_toInt_lt, ofN_toInt hi, ofN_toInt hn]; omega
theorem ofN_inj {i n : Nat} (hi : i < 2 ^ 31) (hn : n < 2 ^ 31) : Int32.ofNat i = Int32.ofNat n ↔ i = n := by rw [← Int32.toInt_inj, ofN_toInt hi, ofN_toInt hn]; omega
theorem ofN_succ {i : Nat} (hi : i + 1 < 2 ^ 31) : Int32.ofNat i + 1 = Int32.ofNat (i + 1) := by
  rw [← Int32.toInt_inj, ofN_toInt hi]
  have q := c_iadd (Int32.ofNat i) 1
  have r := rng32 (Int32.ofNat i + 1)
  rw [ofN_toInt (by omega), show (1 : Int32).toInt = 1 from rfl] at q
  omega
theorem mapGet (bs : List Int32) (i : Nat) : (bs.map Value.int).getD i (.int 0) = .int (bs.getD i 0) := by
  simp only [List.getD_eq_getElem?_getD, List.getElem?_map]; cases bs[i]? <;> rfl
theorem list_eq {bs cs : List Int32} (h : bs.length = cs.length) (q : ∀ j, j < bs.length → bs.getD j 0 = cs.getD j 0) : bs = cs := by
  refine List.ext_getElem h fun i h1 h2 => ?_
  have := q i h1
  simpa [List.getD_eq_getElem?_getD, List.getElem?_eq_getElem h1, List.getElem?_eq_getElem h2] using this
theorem StrL.same {t' : Addr} {k' : Int32} {cs : List Int32} (F : StrL Z h a t k bs) (G : StrL Z h a t' k' cs) : bs = cs := by
  obtain ⟨-, F1, -, kb, A, hb⟩ := F
  obtain ⟨-, G1, -, kc, B, hc⟩ := G
  have e : t = t' := by
    by_cases q : t = t'
    · exact q
    · exact absurd rfl (Fld.ne F1 G1 fun z => q (Value.ref.inj z))
  subst e
  obtain ⟨c1, a1, -, s1, -, h1, -⟩ := A
  obtain ⟨c2, b1, -, s2, -, h2, -⟩ := B
  cases a1.1.symm.trans b1.1
  rw [ofN_clamp hb] at s1
  rw [ofN_clamp hc] at s2
  refine list_eq (s1.symm.trans s2) fun j hj => ?_
  have e1 := h1 j (by rw [s1]; exact hj)
  have e2 := h2 j (by rw [s1]; exact hj)
  rw [mapGet] at e1 e2
  exact Value.int.inj (Option.some.inj (e1.symm.trans e2))
end StrFacts
theorem b255' {c : Int32} (c0 : 0 ≤ c.toInt) (c1 : ¬ 255 < c) : nar .byte c &&& (255 : Int32) = c := by
  rw [Int32.lt_iff_toInt_lt, show (255 : Int32).toInt = 255 from rfl] at c1
  have e1 := c_i2b c
  have e2 := c_mask (nar .byte c) 255 8 (by decide) (by decide)
  apply Int32.toInt_inj.mp
  rw [e2]
  simp only [nar]
  omega
theorem nchar {c : Int32} (c0 : 0 ≤ c.toInt) (c1 : ¬ 255 < c) : nar .char c = c := by
  rw [Int32.lt_iff_toInt_lt, show (255 : Int32).toInt = 255 from rfl] at c1
  have e1 := c_i2c c
  apply Int32.toInt_inj.mp
  simp only [nar]
  omega
theorem b255 {c : Int32} (c0 : 0 ≤ c.toInt) (c1 : ¬ 255 < c) : nar .char (nar .byte c &&& (255 : Int32)) = c := by rw [b255' c0 c1]; exact nchar c0 c1
theorem nb_inj {c d : Int32} (c0 : 0 ≤ c.toInt) (c1 : ¬ 255 < c) (d0 : 0 ≤ d.toInt) (d1 : ¬ 255 < d) (h : nar .byte c = nar .byte d) : c = d := by
  rw [Int32.lt_iff_toInt_lt, show (255 : Int32).toInt = 255 from rfl] at c1 d1
  have h2 : (nar .byte c).toInt = (nar .byte d).toInt := by rw [h]
  have e1 := c_i2b c
  have e2 := c_i2b d
  simp only [nar] at h2
  apply Int32.toInt_inj.mp
  omega
theorem nbb (c : Int32) : nar .byte (nar .byte c) = nar .byte c := by simp [nar]
theorem ncc (c : Int32) : nar .char (nar .char c) = nar .char c := by
  have := XT.narrow_c c
  simp only [narrow, Value.int.injEq] at this
  exact this
theorem nar_and (c : Int32) : nar .char (c &&& 255) = c &&& 255 := i2c_mask c
theorem le255 (c : Int32) : ¬ 255 < c &&& 255 := by
  rw [Int32.lt_iff_toInt_lt]; exact Int.not_lt.mpr (c_and c 255 (by decide)).2
theorem le255n (c : Int32) : ¬ 255 < nar .char (c &&& 255) := by rw [nar_and]; exact le255 c
theorem fnb (c : Int32) : fits .byte (.int (nar .byte c)) = true := fits_nar_byte c
theorem fnc (c : Int32) : fits .char (.int (nar .char c)) = true := fits_nar_char c
theorem cmpL_lt (x y : Int64) : XT.cmpL x y < 0 ↔ x < y := by
  unfold XT.cmpL; split <;> (try split) <;> simp_all [Int64.lt_iff_toInt_lt, ← Int64.toInt_inj] <;> omega
theorem cmpL_gt (x y : Int64) : 0 < XT.cmpL x y ↔ y < x := by
  unfold XT.cmpL; split <;> (try split) <;> simp_all [Int64.lt_iff_toInt_lt, ← Int64.toInt_inj] <;> omega
theorem ns_root {Z : State} {a0 : Array Value} {O K : String} {n : Nat} (w : (Jvm.Cond.noSuperclass O).before a0 Z = true) (wk : (Jvm.Cond.instantiable K n).before a0 Z = true) (hn : O ≠ K) : NS Z O K := by
  obtain ⟨c, k, h1, h2, h3, -, -⟩ := Cond.noSuperclass_spec w
  obtain ⟨t, kt, g1, -⟩ := Cond.instantiable_spec wk
  have ne := ids_ne h1 g1 hn
  refine ⟨c, t, h1, g1, fun fuel => ?_⟩
  cases fuel with
  | zero => rfl
  | succ f => simp [Vm.isSubclassAux, ne, h2, h3]
theorem ns_no {Z : State} {a0 : Array Value} {C S K : String} {n : Nat} (w : (Jvm.Cond.superclass C S).before a0 Z = true) (wk : (Jvm.Cond.instantiable K n).before a0 Z = true) (m : NS Z C K) (hn : C ≠ K) : ∃ c t, Z.vm.findClass C = some c ∧ Z.vm.findClass K = some t ∧ Z.vm.assignable c t = false := by
  obtain ⟨c, t, h0, g0, n3⟩ := m
  obtain ⟨p, k, kp, h1, h2, h3, h4, h5, -, h7⟩ := Cond.superclass_spec h0 w
  obtain ⟨t', kt, g1, g2, g5, g7, -⟩ := Cond.instantiable_spec wk
  cases g0.symm.trans g1
  have ne := ids_ne h0 g0 hn
  have g8 : kt.isInterface = false := (Bool.or_eq_false_iff.mp g7).1
  refine ⟨c, t, h0, g0, ?_⟩
  show Z.vm.assignableAux (255 + 1) c t = false
  simp [Vm.assignableAux, ne, h2, g2, h5, g5, g8, Vm.isSubclass, n3]
/-- an array of boxes that stood at the start: each of its class -/
def Bx (Z : State) (a : Addr) (cl : Cell) (K : String) (z : Int32) : Prop :=
  Arr Z Z.heap a cl (.object K) ∧ cl.slots.size = z.toNatClampNeg ∧ ¬ z < 0 ∧ ∀ j : Int32, ¬ (j < 0 ∨ cl.slots.size ≤ j.toNatClampNeg) → ∃ b : Addr, cl.slots[j.toNatClampNeg]? = some (.ref b) ∧ Exa Z Z.heap b K
theorem Bx.start {Z : State} {a0 : Array Value} {t : Term} {c : Jvm.Cond} {a : Addr} {K : String} {z : Int32} (et : ∀ idx, t.eval a0 Z none idx Z = some (.ref a)) (ha : (Jvm.Cond.arrayOf t (.object K)).value a0 Z none Z [] = some true) (hl : (Jvm.Cond.eq (.length t) (.int z)).value a0 Z none Z [] = some true) (hz : ¬ z < 0)
    (h : (Jvm.Cond.all t (.and (.exactly (.elem t (.index 0)) K) c)).value a0 Z none Z [] = some true) : ∃ cl, Bx Z a cl K z := by
  obtain ⟨cl, A⟩ := Arr.start (et []) ha
  have e1 := eqv_int hl (Term.int_eval z)
  obtain ⟨a', cl', e2, e3, e4⟩ := Term.length_spec e1
  cases (et []).symm.trans e2
  cases (State.arrayAt?_spec e3).1.symm.trans A.1
  have q : cl.slots.size < 2 ^ 31 := by
    simp only [Term.eval, et [], e3, Option.bind_eq_bind, Option.bind_some] at e1
    by_cases q : cl.slots.size < 2 ^ 31
    · exact q
    · simp [q] at e1
  have e := (Value.int.inj e4).symm
  refine ⟨cl, A, by rw [← e]; simp only [Int32.toNatClampNeg, len_toInt q]; rfl, hz, fun j hj => ?_⟩
  have nn : ¬ j < 0 := fun x => hj (Or.inl x)
  obtain ⟨u1, -⟩ := and_e (Cond.all_elim (et []) (A.fin (Vm.Alike.refl _)) h j.toNatClampNeg (Nat.lt_of_not_le fun x => hj (Or.inr x)))
  obtain ⟨box, eb⟩ := exa_v u1
  exact ⟨box, (elem_f (et _) (idx_at nn) (A.fin (Vm.Alike.refl _)) nn).symm.trans eb, exa_at eb u1⟩
theorem natOf {i : Int32} {n : Nat} (h0 : 0 ≤ i.toInt) (h1 : i.toInt < (n : Int)) : ∃ j : Nat, j < n ∧ i = Int32.ofInt (j : Int) := ⟨i.toInt.toNat, by omega, by rw [Int.toNat_of_nonneg h0]; exact (Int32.ofInt_toInt i).symm⟩
theorem own_in {i z : Int32} {D : Int} (h0 : 0 ≤ i.toInt) (h1 : i.toInt < D) (hz : z.toInt = D) : ¬ i < 0 ∧ i < z := ⟨by rw [Int32.lt_iff_toInt_lt]; exact Int.not_lt.mpr h0, by rw [Int32.lt_iff_toInt_lt, hz]; exact h1⟩
theorem modR (k d : Int32) (D : Int) (hd : d.toInt = D) (hD : 0 < D) : 0 ≤ ((k &&& 2147483647) % d).toInt ∧ ((k &&& 2147483647) % d).toInt < D := by
  have h := (c_and k 2147483647 (by decide)).1
  rw [(c_irem _ d D hd).1 h]; exact ⟨Int.emod_nonneg _ (by omega), Int.emod_lt_of_pos _ hD⟩
theorem and1 (k : Int32) : k &&& 1 = 0 ∨ k &&& 1 = 1 := by
  obtain ⟨j, h, e⟩ := natOf (n := 2) (c_and k 1 (by decide)).1 (Int.lt_of_le_of_lt (c_and k 1 (by decide)).2 (by decide))
  rw [e]
  have h2 : j = 0 ∨ j = 1 := by omega
  rcases h2 with rfl | rfl
  · exact Or.inl rfl
  · exact Or.inr rfl
theorem and3 (k : Int32) : k &&& 3 = 0 ∨ k &&& 3 = 1 ∨ k &&& 3 = 2 ∨ k &&& 3 = 3 := by
  obtain ⟨j, h, e⟩ := natOf (n := 4) (c_and k 3 (by decide)).1 (Int.lt_of_le_of_lt (c_and k 3 (by decide)).2 (by decide))
  rw [e]
  have h2 : j = 0 ∨ j = 1 ∨ j = 2 ∨ j = 3 := by omega
  rcases h2 with rfl | rfl | rfl | rfl
  · exact Or.inl rfl
  · exact Or.inr (Or.inl rfl)
  · exact Or.inr (Or.inr (Or.inl rfl))
  · exact Or.inr (Or.inr (Or.inr rfl))
theorem maskNeg (k : Int32) : ¬ (k &&& 2147483647) < 0 := by
  rw [Int32.lt_iff_toInt_lt]; exact Int.not_lt.mpr (c_and k 2147483647 (by decide)).1
/-- an array that stood at the start, by the case's words -/
theorem arv_start {Z : State} {a0 : Array Value} {t : Term} {a : Addr} {ty : FieldType} {z : Int32} {vs : List Value} {dv : Value} (hF : Fit Z) (ha : (Jvm.Cond.arrayOf t ty).value a0 Z none Z [] = some true) (ht : t.eval a0 Z none [] Z = some (.ref a)) (hl : (Jvm.Cond.eq (.length t) (.int z)).value a0 Z none Z [] = some true)
    (hz : ¬ z < 0) (hn : z.toNatClampNeg = vs.length) (H : ∀ cl : Cell, Z.heap[a]? = some cl → HasL cl 0 vs) : ∃ kc, Arv Z Z.heap a kc ty z vs dv := by
  obtain ⟨cl, A⟩ := Arr.start ht ha
  have e1 := eqv_int hl (Term.int_eval z)
  obtain ⟨a', cl', e2, e3, e4⟩ := Term.length_spec e1
  cases ht.symm.trans e2
  cases (State.arrayAt?_spec e3).1.symm.trans A.1
  have hb : cl.slots.size < 2 ^ 31 := by
    simp only [Term.eval, ht, e3, Option.bind_eq_bind, Option.bind_some] at e1
    by_cases q : cl.slots.size < 2 ^ 31
    · exact q
    · simp [q] at e1
  exact ⟨cl.cls, Arv.start hF A hb (Value.int.inj e4).symm hz hn (H cl A.1)⟩
theorem elem_slot {Z : State} {a0 : Array Value} {t u : Term} {a b : Addr} {j : Int32} {n : Nat} {cl : Cell} (h : (Jvm.Cond.eq (.elem t (.int j)) u).value a0 Z none Z [] = some true) (ht : t.eval a0 Z none [] Z = some (.ref a)) (hu : u.eval a0 Z none [] Z = some (.ref b)) (hn : j.toNatClampNeg = n) (hc : Z.heap[a]? = some cl) : cl.slots[n]? = some (.ref b) := by
  subst hn
  exact (elem_in (eqv_ref h hu) ht (Term.int_eval j) hc).2
theorem elem_slotI {Z : State} {a0 : Array Value} {t : Term} {a : Addr} {j b : Int32} {n : Nat} {cl : Cell} (h : (Jvm.Cond.eq (.elem t (.int j)) (.int b)).value a0 Z none Z [] = some true) (ht : t.eval a0 Z none [] Z = some (.ref a)) (hn : j.toNatClampNeg = n) (hc : Z.heap[a]? = some cl) : cl.slots[n]? = some (.int b) := by
  subst hn
  exact (elem_in (eqv_int h (Term.int_eval b)) ht (Term.int_eval j) hc).2
theorem len_start {Z : State} {a0 : Array Value} {t : Term} {a : Addr} {cl : Cell} {ty : FieldType} {z : Int32} (A : Arr Z Z.heap a cl ty) (ht : t.eval a0 Z none [] Z = some (.ref a)) (hl : (Jvm.Cond.eq (.length t) (.int z)).value a0 Z none Z [] = some true) : cl.slots.size = z.toNatClampNeg := by
  have e1 := eqv_int hl (Term.int_eval z)
  obtain ⟨a', cl', e2, e3, e4⟩ := Term.length_spec e1
  cases ht.symm.trans e2
  cases (State.arrayAt?_spec e3).1.symm.trans A.1
  have q : cl.slots.size < 2 ^ 31 := by
    simp only [Term.eval, ht, e3, Option.bind_eq_bind, Option.bind_some] at e1
    by_cases q : cl.slots.size < 2 ^ 31
    · exact q
    · simp [q] at e1
  have e := (Value.int.inj e4).symm
  rw [← e]; simp only [Int32.toNatClampNeg, len_toInt q]; rfl
theorem hasL_rep {cl : Cell} {v : Value} : ∀ (n i : Nat), (∀ j, i ≤ j → j < i + n → cl.slots[j]? = some v) → HasL cl i (List.replicate n v)
  | 0, _, _ => trivial
  | n + 1, i, h => ⟨h i (Nat.le_refl _) (by omega), hasL_rep n (i + 1) fun j h1 h2 => h j (by omega) (by omega)⟩
/-- a String that stood at the start, by the case's words -/
theorem str_start {Z : State} {a0 : Array Value} {t : Term} {a : Addr} {z : Int32} {bs : List Int32} (hF : Fit Z) (ht : t.eval a0 Z none [] Z = some (.ref a)) (hx : (Jvm.Cond.exactly t "java/lang/String").value a0 Z none Z [] = some true) (hc : (Jvm.Cond.eq (.field t "java/lang/String" "coder" "B") (.int 0)).value a0 Z none Z [] = some true) (ha : (Jvm.Cond.arrayOf (.field t "java/lang/String" "value" "[B") .byte).value a0 Z none Z [] = some true) (hl : (Jvm.Cond.eq (.length (.field t "java/lang/String" "value" "[B")) (.int z)).value a0 Z none Z [] = some true) (hz : ¬ z < 0) (hn : z = Int32.ofNat bs.length) (hb : bs.length < 2 ^ 31)
    (H : ∀ (b : Addr) (cl : Cell), (Term.field t "java/lang/String" "value" "[B").eval a0 Z none [] Z = some (.ref b) → Arr Z Z.heap b cl .byte → cl.slots.size = bs.length → HasL cl 0 (bs.map .int)) : ∃ b, StrL Z Z.heap a b 0 bs := by
  obtain ⟨b, eb⟩ := arr_v ha
  obtain ⟨cl0, A0⟩ := Arr.start eb ha
  have hs := len_start A0 eb hl
  subst hn
  obtain ⟨kc, A⟩ := arv_start (vs := bs.map .int) (dv := .int 0) hF ha eb hl hz (by rw [ofN_clamp hb, List.length_map]) (fun cl hcl => by cases A0.1.symm.trans hcl; exact H b _ eb A0 (by rw [hs, ofN_clamp hb]))
  exact ⟨b, Exa.start ht hx, Fld.start (by rw [← fld_at ht]; exact eb), fld_int hc ht, kc, A, hb⟩
theorem str_all {Z : State} {a0 : Array Value} {F : Term} {b : Addr} {cl : Cell} {n : Nat} {v : Int32} (eF : ∀ idx, F.eval a0 Z none idx Z = some (.ref b)) (A : Arr Z Z.heap b cl .byte) (hs : cl.slots.size = n) (hn : n < 2 ^ 31) (hall : (Jvm.Cond.all F (.eq (.elem F (.index 0)) (.int v))).value a0 Z none Z [] = some true) : HasL cl 0 (List.replicate n (.int v)) :=
  hasL_rep n 0 fun j _ hj => by
    have h31 : j < 2 ^ 31 := by omega
    have u := Cond.all_elim (eF []) (A.fin (Vm.Alike.refl _)) hall j (by omega)
    have ix := idx_at (s := Z) (args := a0) (first := Z) (o := none) (j := Int32.ofNat j) (ofN_nn h31)
    rw [ofN_clamp h31] at ix
    have e := elem_f (eF [j]) ix (A.fin (Vm.Alike.refl _)) (ofN_nn h31)
    rw [ofN_clamp h31] at e
    exact e.symm.trans (eqv_int u (Term.int_eval v))
theorem safe_empty {Z : State} {a0 : Array Value} {vm : Vm} {h : Heap} {d : Addr} {kd : ClassId} {z : Int32} {vs : List Value} {dv : Value} {own : String} {ix : Nat} (wl : (Jvm.Cond.stringLink own ix "").before a0 Z = true) (hZ : Z.Warmed39 vm) (A : Arv Z h d kd .byte z vs dv) (hz : 0 < z.toNatClampNeg) : Safe Z [(own, ix)] vm h d := fun B => by
  obtain ⟨cl, Ar, -, S, -, -, -⟩ := A
  obtain ⟨A1, ⟨-, kA, hkA, compA, hkindA⟩, -⟩ := Ar
  obtain ⟨kA', hkA', ekA⟩ := hZ.alike.2.2 _ _ hkA
  obtain ⟨p, hp, u, a, hb, q, -, F, rfl | rfl⟩ := B
  · cases (show h[q.sa]? = some q.sC from F.ha).symm.trans A1
    obtain ⟨cS, ⟨-, -, e⟩, ⟨kS, g1, g2, -⟩, -⟩ := F
    subst e
    cases (show vm.classes[q.sC.cls]? = some kS from g1).symm.trans hkA'
    rw [ekA] at g2
    have := hkindA.symm.trans g2
    cases this
  · cases List.mem_singleton.mp hp
    cases (show h[q.sd]? = some q.SA from F.hd).symm.trans A1
    obtain ⟨c, k, cf, i, b1, b2, b3, b4, b5, -⟩ := hb
    obtain ⟨k', cf', i', un, g1, g2, g3, g4, -, g6, -⟩ := Cond.stringLink_spec (s := Z.setVm vm) b1 (Cond.stringLink_warmed39 hZ wl)
    cases (show vm.classes[c]? = some k' from g1).symm.trans b2
    cases g2.symm.trans b3
    have e := g3.symm.trans b4
    cases e
    have e := g4.symm.trans b5
    cases e
    have t := text_bytes_le g6
    obtain ⟨cS, -, -, -, hs⟩ := F
    rw [← hs, S] at t
    exact absurd (Nat.lt_of_lt_of_le hz t) (by decide)
/-- a char out of its two bytes -/
theorem own_gc {c : Int32} (h0 : 0 ≤ c.toInt) (h1 : c.toInt < 65536) : nar .char (((nar .byte (c >>> ((0 : Int32) &&& 31)) &&& (255 : Int32)) <<< ((0 : Int32) &&& 31)) ||| ((nar .byte (c >>> ((8 : Int32) &&& 31)) &&& (255 : Int32)) <<< ((8 : Int32) &&& 31))) = c := by
  have a1 := c_ishr c 0 0 (by decide)
  have a2 := c_ishr c 8 8 (by decide)
  have b1 := c_i2b (c >>> ((0 : Int32) &&& 31))
  have b2 := c_i2b (c >>> ((8 : Int32) &&& 31))
  have m1 := c_mask (nar .byte (c >>> ((0 : Int32) &&& 31))) 255 8 (by decide) (by decide)
  have m2 := c_mask (nar .byte (c >>> ((8 : Int32) &&& 31))) 255 8 (by decide) (by decide)
  have s1 := c_ishl (nar .byte (c >>> ((0 : Int32) &&& 31)) &&& (255 : Int32)) 0 0 (by decide)
  have s2 := c_ishl (nar .byte (c >>> ((8 : Int32) &&& 31)) &&& (255 : Int32)) 8 8 (by decide)
  have r1 := rng32 ((nar .byte (c >>> ((0 : Int32) &&& 31)) &&& (255 : Int32)) <<< ((0 : Int32) &&& 31))
  have r2 := rng32 ((nar .byte (c >>> ((8 : Int32) &&& 31)) &&& (255 : Int32)) <<< ((8 : Int32) &&& 31))
  have o := c_or' ((nar .byte (c >>> ((0 : Int32) &&& 31)) &&& (255 : Int32)) <<< ((0 : Int32) &&& 31)) ((nar .byte (c >>> ((8 : Int32) &&& 31)) &&& (255 : Int32)) <<< ((8 : Int32) &&& 31)) 8 (by decide) 256 (by decide)
  have r3 := rng32 (((nar .byte (c >>> ((0 : Int32) &&& 31)) &&& (255 : Int32)) <<< ((0 : Int32) &&& 31)) ||| ((nar .byte (c >>> ((8 : Int32) &&& 31)) &&& (255 : Int32)) <<< ((8 : Int32) &&& 31)))
  have i := c_i2c (((nar .byte (c >>> ((0 : Int32) &&& 31)) &&& (255 : Int32)) <<< ((0 : Int32) &&& 31)) ||| ((nar .byte (c >>> ((8 : Int32) &&& 31)) &&& (255 : Int32)) <<< ((8 : Int32) &&& 31)))
  apply Int32.toInt_inj.mp
  simp only [nar] at m1 m2 s1 s2 r1 r2 r3 o i ⊢
  omega
/-- null, or a String -/
def Sn (Z : State) (h : Heap) (v : Value) : Prop := v = .null ∨ ∃ s, v = .ref s ∧ Exa Z h s "java/lang/String"
theorem Sn.ext {Z : State} {h h' : Heap} {v : Value} (F : Sn Z h v) (E : Ext h h') : Sn Z h' v := by
  rcases F with q | ⟨s, q, X⟩
  · exact Or.inl q
  · exact Or.inr ⟨s, q, X.ext E⟩
theorem Sn.isRef {Z : State} {h : Heap} {v : Value} (F : Sn Z h v) : v.isRef = true := by rcases F with rfl | ⟨s, rfl, -⟩ <;> rfl
/-- the conjuncts of a condition -/
def ands : Jvm.Cond → List Jvm.Cond
  | .and a b => a :: ands b
  | c => [c]
theorem ands_all {args : Array Value} {s : State} : ∀ (c : Jvm.Cond), c.value args s none s [] = some true → ∀ d ∈ ands c, d.value args s none s [] = some true := by
  intro c
  induction c with
  | and a b _ ih =>
    intro h d hd
    obtain ⟨h1, h2⟩ := and_e h
    rcases List.mem_cons.mp hd with rfl | hd
    · exact h1
    · exact ih h2 d hd
  | _ => intro h d hd; cases List.mem_singleton.mp hd; exact h
theorem nw {c : Jvm.Cond} {Z : State} {a0 : Array Value} (hn : c.value a0 Z none Z [] = some true) (i : Nat) {d : Jvm.Cond} (h : (ands c)[i]? = some d) : d.value a0 Z none Z [] = some true := ands_all c hn d (List.mem_of_getElem? h)
/-- the object that a static holds at the start -/
def sad (Z : State) (a0 : Array Value) (C f d : String) : Addr := match (Term.static C f d).eval a0 Z none [] Z with | some (.ref a) => a | _ => 0
theorem sad_eq {Z : State} {a0 : Array Value} {C f d : String} {a : Addr} (h : (Term.static C f d).eval a0 Z none [] Z = some (.ref a)) : sad Z a0 C f d = a := by simp only [sad, h]
theorem sad_exa {Z : State} {a0 : Array Value} {C f d K : String} (hx : (Jvm.Cond.exactly (.static C f d) K).value a0 Z none Z [] = some true) (hi : (Jvm.Cond.initialized C).before a0 Z = true) (hl : (Jvm.Cond.laysStatic C f d).before a0 Z = true) :
    (Term.static C f d).eval a0 Z none [] Z = some (.ref (sad Z a0 C f d)) ∧ Sta Z Z.heap C f d (.ref (sad Z a0 C f d)) ∧ Exa Z Z.heap (sad Z a0 C f d) K := by
  obtain ⟨a, ev, S, E⟩ := sta_exa hx hi hl
  rw [sad_eq ev]; exact ⟨ev, S, E⟩
theorem nb1 : nar .boolean 1 = 1 := rfl
theorem nb0 : nar .boolean 0 = 0 := rfl
theorem rne {a b : Addr} (q : a ≠ b) : ¬ (Value.ref a = Value.ref b) := fun e => q (Value.ref.inj e)
theorem narR {t : FieldType} {v : Value} (h : v.isRef = true) : narrow t v = v := by cases v <;> cases t <;> first | rfl | (simp [Value.isRef] at h)
theorem fitR {t : FieldType} {v : Value} (h : v.isRef = true) (ht : t.isReference = true) : fits t v = true := by cases t <;> simp [FieldType.isReference] at ht <;> cases v <;> first | rfl | (simp [Value.isRef] at h)
end Jvm.OwnW
namespace Jvm.Pilot.@@N@@
open Jvm Jvm.ClassFile Sem Op Lib Jvm.Free Jvm.Stand Jvm.LawKit Jvm.RoadKit Jvm.OwnW Bundle Jvm.Pilot.@@N@@.Jvm.D
theorem tw {Z : State} {a0 : Array Value} (hw : ∀ d ∈ tables_1, d.before a0 Z = true) (i : Nat) {d : Jvm.Cond} (h : tables_1[i]? = some d) : d.before a0 Z = true := hw _ (List.mem_of_getElem? h)
theorem fit_of {s : State} (hF : heapFits s = true) : Fit s := fun {y c} hc i hi => by
  obtain ⟨ha, rfl⟩ := Array.getElem?_eq_some_iff.mp hc
  have q := List.all_eq_true.mp ((Array.all_eq_true_iff_forall_mem.mp hF) _ (Array.getElem_mem ha)) i (List.mem_range.mpr hi)
  simpa [Array.getElem?_eq_getElem hi] using q
theorem pn_com_example_pathmeter_pathmeter_Metric : plainName "com/example/pathmeter/pathmeter/Metric" = true := by first | (simp [plainName, overriddenIn]; done) | decide +kernel
theorem pn_com_example_pathmeter_pathmeter_MetricReorderedBestPinLaw : plainName "com/example/pathmeter/pathmeter/MetricReorderedBestPinLaw" = true := by first | (simp [plainName, overriddenIn]; done) | decide +kernel
theorem pd_0 : parseMethodDescriptor "(D)D" = some ⟨[.double], some .double⟩ := by decide +kernel
theorem pd_1 : parseMethodDescriptor "(I)Lcom/example/pathmeter/pathmeter/Metric;" = some ⟨[.int], some (.object "com/example/pathmeter/pathmeter/Metric")⟩ := by decide +kernel
theorem own_EW {Z : State} {a0 : Array Value} (hw : ∀ d ∈ tables_1, d.before a0 Z = true) : EW Z a0 [] := EW.nil
def A_IGP_METRIC (Z : State) (a0 : Array Value) : Addr := sad Z a0 "com/example/pathmeter/pathmeter/Metric" "IGP_METRIC" "Lcom/example/pathmeter/pathmeter/Metric;"
theorem s_IGP_METRIC {Z : State} {a0 : Array Value} (hw : ∀ d ∈ tables_1, d.before a0 Z = true) (hn : narrow_1.value a0 Z none Z [] = some true) : (Term.static "com/example/pathmeter/pathmeter/Metric" "IGP_METRIC" "Lcom/example/pathmeter/pathmeter/Metric;").eval a0 Z none [] Z = some (.ref (A_IGP_METRIC Z a0)) ∧ Sta Z Z.heap "com/example/pathmeter/pathmeter/Metric" "IGP_METRIC" "Lcom/example/pathmeter/pathmeter/Metric;" (.ref (A_IGP_METRIC Z a0)) ∧ Exa Z Z.heap (A_IGP_METRIC Z a0) "com/example/pathmeter/pathmeter/Metric" := sad_exa (nw hn 0 rfl) (tw hw 6 rfl) (tw hw 7 rfl)
def A_SUM (Z : State) (a0 : Array Value) : Addr := sad Z a0 "com/example/pathmeter/pathmeter/Metric$Composition" "SUM" "Lcom/example/pathmeter/pathmeter/Metric$Composition;"
theorem s_SUM {Z : State} {a0 : Array Value} (hw : ∀ d ∈ tables_1, d.before a0 Z = true) (hn : narrow_1.value a0 Z none Z [] = some true) : (Term.static "com/example/pathmeter/pathmeter/Metric$Composition" "SUM" "Lcom/example/pathmeter/pathmeter/Metric$Composition;").eval a0 Z none [] Z = some (.ref (A_SUM Z a0)) ∧ Sta Z Z.heap "com/example/pathmeter/pathmeter/Metric$Composition" "SUM" "Lcom/example/pathmeter/pathmeter/Metric$Composition;" (.ref (A_SUM Z a0)) ∧ Exa Z Z.heap (A_SUM Z a0) "com/example/pathmeter/pathmeter/Metric$Composition" := sad_exa (nw hn 1 rfl) (tw hw 15 rfl) (tw hw 16 rfl)
def A_TE_METRIC (Z : State) (a0 : Array Value) : Addr := sad Z a0 "com/example/pathmeter/pathmeter/Metric" "TE_METRIC" "Lcom/example/pathmeter/pathmeter/Metric;"
theorem s_TE_METRIC {Z : State} {a0 : Array Value} (hw : ∀ d ∈ tables_1, d.before a0 Z = true) (hn : narrow_1.value a0 Z none Z [] = some true) : (Term.static "com/example/pathmeter/pathmeter/Metric" "TE_METRIC" "Lcom/example/pathmeter/pathmeter/Metric;").eval a0 Z none [] Z = some (.ref (A_TE_METRIC Z a0)) ∧ Sta Z Z.heap "com/example/pathmeter/pathmeter/Metric" "TE_METRIC" "Lcom/example/pathmeter/pathmeter/Metric;" (.ref (A_TE_METRIC Z a0)) ∧ Exa Z Z.heap (A_TE_METRIC Z a0) "com/example/pathmeter/pathmeter/Metric" := sad_exa (nw hn 4 rfl) (tw hw 6 rfl) (tw hw 23 rfl)
def A_DELAY_VARIATION_US (Z : State) (a0 : Array Value) : Addr := sad Z a0 "com/example/pathmeter/pathmeter/Metric" "DELAY_VARIATION_US" "Lcom/example/pathmeter/pathmeter/Metric;"
theorem s_DELAY_VARIATION_US {Z : State} {a0 : Array Value} (hw : ∀ d ∈ tables_1, d.before a0 Z = true) (hn : narrow_1.value a0 Z none Z [] = some true) : (Term.static "com/example/pathmeter/pathmeter/Metric" "DELAY_VARIATION_US" "Lcom/example/pathmeter/pathmeter/Metric;").eval a0 Z none [] Z = some (.ref (A_DELAY_VARIATION_US Z a0)) ∧ Sta Z Z.heap "com/example/pathmeter/pathmeter/Metric" "DELAY_VARIATION_US" "Lcom/example/pathmeter/pathmeter/Metric;" (.ref (A_DELAY_VARIATION_US Z a0)) ∧ Exa Z Z.heap (A_DELAY_VARIATION_US Z a0) "com/example/pathmeter/pathmeter/Metric" := sad_exa (nw hn 6 rfl) (tw hw 6 rfl) (tw hw 26 rfl)
def A_LOSS_PCT (Z : State) (a0 : Array Value) : Addr := sad Z a0 "com/example/pathmeter/pathmeter/Metric" "LOSS_PCT" "Lcom/example/pathmeter/pathmeter/Metric;"
theorem s_LOSS_PCT {Z : State} {a0 : Array Value} (hw : ∀ d ∈ tables_1, d.before a0 Z = true) (hn : narrow_1.value a0 Z none Z [] = some true) : (Term.static "com/example/pathmeter/pathmeter/Metric" "LOSS_PCT" "Lcom/example/pathmeter/pathmeter/Metric;").eval a0 Z none [] Z = some (.ref (A_LOSS_PCT Z a0)) ∧ Sta Z Z.heap "com/example/pathmeter/pathmeter/Metric" "LOSS_PCT" "Lcom/example/pathmeter/pathmeter/Metric;" (.ref (A_LOSS_PCT Z a0)) ∧ Exa Z Z.heap (A_LOSS_PCT Z a0) "com/example/pathmeter/pathmeter/Metric" := sad_exa (nw hn 8 rfl) (tw hw 6 rfl) (tw hw 28 rfl)
def A_LOSS (Z : State) (a0 : Array Value) : Addr := sad Z a0 "com/example/pathmeter/pathmeter/Metric$Composition" "LOSS" "Lcom/example/pathmeter/pathmeter/Metric$Composition;"
theorem s_LOSS {Z : State} {a0 : Array Value} (hw : ∀ d ∈ tables_1, d.before a0 Z = true) (hn : narrow_1.value a0 Z none Z [] = some true) : (Term.static "com/example/pathmeter/pathmeter/Metric$Composition" "LOSS" "Lcom/example/pathmeter/pathmeter/Metric$Composition;").eval a0 Z none [] Z = some (.ref (A_LOSS Z a0)) ∧ Sta Z Z.heap "com/example/pathmeter/pathmeter/Metric$Composition" "LOSS" "Lcom/example/pathmeter/pathmeter/Metric$Composition;" (.ref (A_LOSS Z a0)) ∧ Exa Z Z.heap (A_LOSS Z a0) "com/example/pathmeter/pathmeter/Metric$Composition" := sad_exa (nw hn 9 rfl) (tw hw 15 rfl) (tw hw 29 rfl)
def A_MAX_RESERVED_PCT (Z : State) (a0 : Array Value) : Addr := sad Z a0 "com/example/pathmeter/pathmeter/Metric" "MAX_RESERVED_PCT" "Lcom/example/pathmeter/pathmeter/Metric;"
theorem s_MAX_RESERVED_PCT {Z : State} {a0 : Array Value} (hw : ∀ d ∈ tables_1, d.before a0 Z = true) (hn : narrow_1.value a0 Z none Z [] = some true) : (Term.static "com/example/pathmeter/pathmeter/Metric" "MAX_RESERVED_PCT" "Lcom/example/pathmeter/pathmeter/Metric;").eval a0 Z none [] Z = some (.ref (A_MAX_RESERVED_PCT Z a0)) ∧ Sta Z Z.heap "com/example/pathmeter/pathmeter/Metric" "MAX_RESERVED_PCT" "Lcom/example/pathmeter/pathmeter/Metric;" (.ref (A_MAX_RESERVED_PCT Z a0)) ∧ Exa Z Z.heap (A_MAX_RESERVED_PCT Z a0) "com/example/pathmeter/pathmeter/Metric" := sad_exa (nw hn 12 rfl) (tw hw 6 rfl) (tw hw 34 rfl)
def A_MAX (Z : State) (a0 : Array Value) : Addr := sad Z a0 "com/example/pathmeter/pathmeter/Metric$Composition" "MAX" "Lcom/example/pathmeter/pathmeter/Metric$Composition;"
theorem s_MAX {Z : State} {a0 : Array Value} (hw : ∀ d ∈ tables_1, d.before a0 Z = true) (hn : narrow_1.value a0 Z none Z [] = some true) : (Term.static "com/example/pathmeter/pathmeter/Metric$Composition" "MAX" "Lcom/example/pathmeter/pathmeter/Metric$Composition;").eval a0 Z none [] Z = some (.ref (A_MAX Z a0)) ∧ Sta Z Z.heap "com/example/pathmeter/pathmeter/Metric$Composition" "MAX" "Lcom/example/pathmeter/pathmeter/Metric$Composition;" (.ref (A_MAX Z a0)) ∧ Exa Z Z.heap (A_MAX Z a0) "com/example/pathmeter/pathmeter/Metric$Composition" := sad_exa (nw hn 13 rfl) (tw hw 15 rfl) (tw hw 35 rfl)
def A_DELAY_US (Z : State) (a0 : Array Value) : Addr := sad Z a0 "com/example/pathmeter/pathmeter/Metric" "DELAY_US" "Lcom/example/pathmeter/pathmeter/Metric;"
theorem s_DELAY_US {Z : State} {a0 : Array Value} (hw : ∀ d ∈ tables_1, d.before a0 Z = true) (hn : narrow_1.value a0 Z none Z [] = some true) : (Term.static "com/example/pathmeter/pathmeter/Metric" "DELAY_US" "Lcom/example/pathmeter/pathmeter/Metric;").eval a0 Z none [] Z = some (.ref (A_DELAY_US Z a0)) ∧ Sta Z Z.heap "com/example/pathmeter/pathmeter/Metric" "DELAY_US" "Lcom/example/pathmeter/pathmeter/Metric;" (.ref (A_DELAY_US Z a0)) ∧ Exa Z Z.heap (A_DELAY_US Z a0) "com/example/pathmeter/pathmeter/Metric" := sad_exa (nw hn 16 rfl) (tw hw 6 rfl) (tw hw 37 rfl)
def A_MAX_LBU_PCT (Z : State) (a0 : Array Value) : Addr := sad Z a0 "com/example/pathmeter/pathmeter/Metric" "MAX_LBU_PCT" "Lcom/example/pathmeter/pathmeter/Metric;"
theorem s_MAX_LBU_PCT {Z : State} {a0 : Array Value} (hw : ∀ d ∈ tables_1, d.before a0 Z = true) (hn : narrow_1.value a0 Z none Z [] = some true) : (Term.static "com/example/pathmeter/pathmeter/Metric" "MAX_LBU_PCT" "Lcom/example/pathmeter/pathmeter/Metric;").eval a0 Z none [] Z = some (.ref (A_MAX_LBU_PCT Z a0)) ∧ Sta Z Z.heap "com/example/pathmeter/pathmeter/Metric" "MAX_LBU_PCT" "Lcom/example/pathmeter/pathmeter/Metric;" (.ref (A_MAX_LBU_PCT Z a0)) ∧ Exa Z Z.heap (A_MAX_LBU_PCT Z a0) "com/example/pathmeter/pathmeter/Metric" := sad_exa (nw hn 18 rfl) (tw hw 6 rfl) (tw hw 39 rfl)
def A_MAX_LRBU_PCT (Z : State) (a0 : Array Value) : Addr := sad Z a0 "com/example/pathmeter/pathmeter/Metric" "MAX_LRBU_PCT" "Lcom/example/pathmeter/pathmeter/Metric;"
theorem s_MAX_LRBU_PCT {Z : State} {a0 : Array Value} (hw : ∀ d ∈ tables_1, d.before a0 Z = true) (hn : narrow_1.value a0 Z none Z [] = some true) : (Term.static "com/example/pathmeter/pathmeter/Metric" "MAX_LRBU_PCT" "Lcom/example/pathmeter/pathmeter/Metric;").eval a0 Z none [] Z = some (.ref (A_MAX_LRBU_PCT Z a0)) ∧ Sta Z Z.heap "com/example/pathmeter/pathmeter/Metric" "MAX_LRBU_PCT" "Lcom/example/pathmeter/pathmeter/Metric;" (.ref (A_MAX_LRBU_PCT Z a0)) ∧ Exa Z Z.heap (A_MAX_LRBU_PCT Z a0) "com/example/pathmeter/pathmeter/Metric" := sad_exa (nw hn 20 rfl) (tw hw 6 rfl) (tw hw 41 rfl)
def A_MIN_RESIDUAL_BW (Z : State) (a0 : Array Value) : Addr := sad Z a0 "com/example/pathmeter/pathmeter/Metric" "MIN_RESIDUAL_BW" "Lcom/example/pathmeter/pathmeter/Metric;"
theorem s_MIN_RESIDUAL_BW {Z : State} {a0 : Array Value} (hw : ∀ d ∈ tables_1, d.before a0 Z = true) (hn : narrow_1.value a0 Z none Z [] = some true) : (Term.static "com/example/pathmeter/pathmeter/Metric" "MIN_RESIDUAL_BW" "Lcom/example/pathmeter/pathmeter/Metric;").eval a0 Z none [] Z = some (.ref (A_MIN_RESIDUAL_BW Z a0)) ∧ Sta Z Z.heap "com/example/pathmeter/pathmeter/Metric" "MIN_RESIDUAL_BW" "Lcom/example/pathmeter/pathmeter/Metric;" (.ref (A_MIN_RESIDUAL_BW Z a0)) ∧ Exa Z Z.heap (A_MIN_RESIDUAL_BW Z a0) "com/example/pathmeter/pathmeter/Metric" := sad_exa (nw hn 22 rfl) (tw hw 6 rfl) (tw hw 43 rfl)
def A_MIN (Z : State) (a0 : Array Value) : Addr := sad Z a0 "com/example/pathmeter/pathmeter/Metric$Composition" "MIN" "Lcom/example/pathmeter/pathmeter/Metric$Composition;"
theorem s_MIN {Z : State} {a0 : Array Value} (hw : ∀ d ∈ tables_1, d.before a0 Z = true) (hn : narrow_1.value a0 Z none Z [] = some true) : (Term.static "com/example/pathmeter/pathmeter/Metric$Composition" "MIN" "Lcom/example/pathmeter/pathmeter/Metric$Composition;").eval a0 Z none [] Z = some (.ref (A_MIN Z a0)) ∧ Sta Z Z.heap "com/example/pathmeter/pathmeter/Metric$Composition" "MIN" "Lcom/example/pathmeter/pathmeter/Metric$Composition;" (.ref (A_MIN Z a0)) ∧ Exa Z Z.heap (A_MIN Z a0) "com/example/pathmeter/pathmeter/Metric$Composition" := sad_exa (nw hn 23 rfl) (tw hw 15 rfl) (tw hw 44 rfl)
def A_HOP_COUNT (Z : State) (a0 : Array Value) : Addr := sad Z a0 "com/example/pathmeter/pathmeter/Metric" "HOP_COUNT" "Lcom/example/pathmeter/pathmeter/Metric;"
theorem s_HOP_COUNT {Z : State} {a0 : Array Value} (hw : ∀ d ∈ tables_1, d.before a0 Z = true) (hn : narrow_1.value a0 Z none Z [] = some true) : (Term.static "com/example/pathmeter/pathmeter/Metric" "HOP_COUNT" "Lcom/example/pathmeter/pathmeter/Metric;").eval a0 Z none [] Z = some (.ref (A_HOP_COUNT Z a0)) ∧ Sta Z Z.heap "com/example/pathmeter/pathmeter/Metric" "HOP_COUNT" "Lcom/example/pathmeter/pathmeter/Metric;" (.ref (A_HOP_COUNT Z a0)) ∧ Exa Z Z.heap (A_HOP_COUNT Z a0) "com/example/pathmeter/pathmeter/Metric" := sad_exa (nw hn 26 rfl) (tw hw 6 rfl) (tw hw 46 rfl)
theorem f_IGP_METRIC_composition {Z : State} {a0 : Array Value} (hw : ∀ d ∈ tables_1, d.before a0 Z = true) (hn : narrow_1.value a0 Z none Z [] = some true) : Fld Z Z.heap (A_IGP_METRIC Z a0) "com/example/pathmeter/pathmeter/Metric" "composition" "Lcom/example/pathmeter/pathmeter/Metric$Composition;" (.ref (A_SUM Z a0)) := fld_ref (nw hn 2 rfl) (s_IGP_METRIC hw hn).1 (s_SUM hw hn).1
theorem f_SUM_growing {Z : State} {a0 : Array Value} (hw : ∀ d ∈ tables_1, d.before a0 Z = true) (hn : narrow_1.value a0 Z none Z [] = some true) : Fld Z Z.heap (A_SUM Z a0) "com/example/pathmeter/pathmeter/Metric$Composition" "growing" "Z" (.int (1 : Int32)) := fld_int (nw hn 3 rfl) (s_SUM hw hn).1
theorem f_TE_METRIC_composition {Z : State} {a0 : Array Value} (hw : ∀ d ∈ tables_1, d.before a0 Z = true) (hn : narrow_1.value a0 Z none Z [] = some true) : Fld Z Z.heap (A_TE_METRIC Z a0) "com/example/pathmeter/pathmeter/Metric" "composition" "Lcom/example/pathmeter/pathmeter/Metric$Composition;" (.ref (A_SUM Z a0)) := fld_ref (nw hn 5 rfl) (s_TE_METRIC hw hn).1 (s_SUM hw hn).1
theorem f_DELAY_VARIATION_US_composition {Z : State} {a0 : Array Value} (hw : ∀ d ∈ tables_1, d.before a0 Z = true) (hn : narrow_1.value a0 Z none Z [] = some true) : Fld Z Z.heap (A_DELAY_VARIATION_US Z a0) "com/example/pathmeter/pathmeter/Metric" "composition" "Lcom/example/pathmeter/pathmeter/Metric$Composition;" (.ref (A_SUM Z a0)) := fld_ref (nw hn 7 rfl) (s_DELAY_VARIATION_US hw hn).1 (s_SUM hw hn).1
theorem f_LOSS_PCT_composition {Z : State} {a0 : Array Value} (hw : ∀ d ∈ tables_1, d.before a0 Z = true) (hn : narrow_1.value a0 Z none Z [] = some true) : Fld Z Z.heap (A_LOSS_PCT Z a0) "com/example/pathmeter/pathmeter/Metric" "composition" "Lcom/example/pathmeter/pathmeter/Metric$Composition;" (.ref (A_LOSS Z a0)) := fld_ref (nw hn 10 rfl) (s_LOSS_PCT hw hn).1 (s_LOSS hw hn).1
theorem f_LOSS_growing {Z : State} {a0 : Array Value} (hw : ∀ d ∈ tables_1, d.before a0 Z = true) (hn : narrow_1.value a0 Z none Z [] = some true) : Fld Z Z.heap (A_LOSS Z a0) "com/example/pathmeter/pathmeter/Metric$Composition" "growing" "Z" (.int (0 : Int32)) := fld_int (nw hn 11 rfl) (s_LOSS hw hn).1
theorem f_MAX_RESERVED_PCT_composition {Z : State} {a0 : Array Value} (hw : ∀ d ∈ tables_1, d.before a0 Z = true) (hn : narrow_1.value a0 Z none Z [] = some true) : Fld Z Z.heap (A_MAX_RESERVED_PCT Z a0) "com/example/pathmeter/pathmeter/Metric" "composition" "Lcom/example/pathmeter/pathmeter/Metric$Composition;" (.ref (A_MAX Z a0)) := fld_ref (nw hn 14 rfl) (s_MAX_RESERVED_PCT hw hn).1 (s_MAX hw hn).1
theorem f_MAX_growing {Z : State} {a0 : Array Value} (hw : ∀ d ∈ tables_1, d.before a0 Z = true) (hn : narrow_1.value a0 Z none Z [] = some true) : Fld Z Z.heap (A_MAX Z a0) "com/example/pathmeter/pathmeter/Metric$Composition" "growing" "Z" (.int (1 : Int32)) := fld_int (nw hn 15 rfl) (s_MAX hw hn).1
theorem f_DELAY_US_composition {Z : State} {a0 : Array Value} (hw : ∀ d ∈ tables_1, d.before a0 Z = true) (hn : narrow_1.value a0 Z none Z [] = some true) : Fld Z Z.heap (A_DELAY_US Z a0) "com/example/pathmeter/pathmeter/Metric" "composition" "Lcom/example/pathmeter/pathmeter/Metric$Composition;" (.ref (A_SUM Z a0)) := fld_ref (nw hn 17 rfl) (s_DELAY_US hw hn).1 (s_SUM hw hn).1
theorem f_MAX_LBU_PCT_composition {Z : State} {a0 : Array Value} (hw : ∀ d ∈ tables_1, d.before a0 Z = true) (hn : narrow_1.value a0 Z none Z [] = some true) : Fld Z Z.heap (A_MAX_LBU_PCT Z a0) "com/example/pathmeter/pathmeter/Metric" "composition" "Lcom/example/pathmeter/pathmeter/Metric$Composition;" (.ref (A_MAX Z a0)) := fld_ref (nw hn 19 rfl) (s_MAX_LBU_PCT hw hn).1 (s_MAX hw hn).1
theorem f_MAX_LRBU_PCT_composition {Z : State} {a0 : Array Value} (hw : ∀ d ∈ tables_1, d.before a0 Z = true) (hn : narrow_1.value a0 Z none Z [] = some true) : Fld Z Z.heap (A_MAX_LRBU_PCT Z a0) "com/example/pathmeter/pathmeter/Metric" "composition" "Lcom/example/pathmeter/pathmeter/Metric$Composition;" (.ref (A_MAX Z a0)) := fld_ref (nw hn 21 rfl) (s_MAX_LRBU_PCT hw hn).1 (s_MAX hw hn).1
theorem f_MIN_RESIDUAL_BW_composition {Z : State} {a0 : Array Value} (hw : ∀ d ∈ tables_1, d.before a0 Z = true) (hn : narrow_1.value a0 Z none Z [] = some true) : Fld Z Z.heap (A_MIN_RESIDUAL_BW Z a0) "com/example/pathmeter/pathmeter/Metric" "composition" "Lcom/example/pathmeter/pathmeter/Metric$Composition;" (.ref (A_MIN Z a0)) := fld_ref (nw hn 24 rfl) (s_MIN_RESIDUAL_BW hw hn).1 (s_MIN hw hn).1
theorem f_MIN_growing {Z : State} {a0 : Array Value} (hw : ∀ d ∈ tables_1, d.before a0 Z = true) (hn : narrow_1.value a0 Z none Z [] = some true) : Fld Z Z.heap (A_MIN Z a0) "com/example/pathmeter/pathmeter/Metric$Composition" "growing" "Z" (.int (0 : Int32)) := fld_int (nw hn 25 rfl) (s_MIN hw hn).1
theorem f_HOP_COUNT_composition {Z : State} {a0 : Array Value} (hw : ∀ d ∈ tables_1, d.before a0 Z = true) (hn : narrow_1.value a0 Z none Z [] = some true) : Fld Z Z.heap (A_HOP_COUNT Z a0) "com/example/pathmeter/pathmeter/Metric" "composition" "Lcom/example/pathmeter/pathmeter/Metric$Composition;" (.ref (A_SUM Z a0)) := fld_ref (nw hn 27 rfl) (s_HOP_COUNT hw hn).1 (s_SUM hw hn).1
theorem own_wm (k : Int32) {m : Int64} {M : Int} (hm : m.toInt = M) (h0 : 0 < M) (h1 : M ≤ 1048577) : (k.toInt64 * m).toInt = k.toInt * M := by
  have r := rng32 k
  have b1 : k.toInt * M ≤ 2147483648 * 1048577 := Int.le_trans (Int.mul_le_mul_of_nonneg_right (by omega) (by omega)) (Int.mul_le_mul_of_nonneg_left h1 (by decide))
  have b2 : -(2147483648 * 1048577) ≤ k.toInt * M := by
    have := Int.mul_le_mul_of_nonneg_right (a := -2147483648) (b := k.toInt) (c := M) (by omega) (by omega)
    have := Int.mul_le_mul_of_nonneg_left (a := M) (b := 1048577) (c := 2147483648) h1 (by decide)
    omega
  rw [Int64.toInt_mul, Int32.toInt_toInt64, hm, Int.bmod_eq_of_le (by omega) (by omega)]
theorem own_w1048575 (k : Int32) : (k.toInt64 * (1048575 : Int64)).toInt = k.toInt * (1048575 : Nat) := own_wm k (M := 1048575) (by decide) (by decide) (by decide)
theorem own_w1048577 (k : Int32) : (k.toInt64 * (1048577 : Int64)).toInt = k.toInt * (1048577 : Nat) := own_wm k (M := 1048577) (by decide) (by decide) (by decide)
theorem own_nz {k : Int32} (h : ¬ k = 0) : k.toInt ≠ 0 := fun e => h (Int32.toInt_inj.mp (e.trans (by decide)))
theorem own_ten (i : Int32) : (i &&& (2147483647 : Int32)) % (10 : Int32) = 0 ∨ (i &&& (2147483647 : Int32)) % (10 : Int32) = 1 ∨ (i &&& (2147483647 : Int32)) % (10 : Int32) = 2 ∨ (i &&& (2147483647 : Int32)) % (10 : Int32) = 3 ∨ (i &&& (2147483647 : Int32)) % (10 : Int32) = 4 ∨ (i &&& (2147483647 : Int32)) % (10 : Int32) = 5 ∨ (i &&& (2147483647 : Int32)) % (10 : Int32) = 6 ∨ (i &&& (2147483647 : Int32)) % (10 : Int32) = 7 ∨ (i &&& (2147483647 : Int32)) % (10 : Int32) = 8 ∨ (i &&& (2147483647 : Int32)) % (10 : Int32) = 9 := by
  obtain ⟨j, h, e⟩ := natOf (n := 10) (modR i 10 10 (by decide) (by decide)).1 (modR i 10 10 (by decide) (by decide)).2
  rw [e]
  have h2 : j = 0 ∨ j = 1 ∨ j = 2 ∨ j = 3 ∨ j = 4 ∨ j = 5 ∨ j = 6 ∨ j = 7 ∨ j = 8 ∨ j = 9 := by omega
  rcases h2 with rfl | rfl | rfl | rfl | rfl | rfl | rfl | rfl | rfl | rfl <;> decide
theorem efP (m : MethodId) (x0 : Int32) : entryFrame m #[(.int x0)] 1 = mkF m 0 #[.val (.int x0)] [] := by first | (simp [entryFrame, mkF, argsToLocals, Value.category]; done) | rfl
theorem efR (m : MethodId) (a : Addr) (v : UInt64) : entryFrame m #[.ref a, .double v] 3 = mkF m 0 #[.val (.ref a), .val (.double v), .second] [] := by first | (simp [entryFrame, mkF, argsToLocals, Value.category]; done) | rfl
theorem ef0 (m : MethodId) (x0 : Int32) (x1 : Int32) (x2 : Int32) : entryFrame m #[(.int x0), (.int x1), (.int x2)] maxLocals = mkF m 0 #[.val (.int x0), .val (.int x1), .val (.int x2), .unset, .unset, .unset, .unset, .unset, .unset, .unset, .unset, .unset, .unset, .unset, .unset, .unset, .unset] [] := by first | (simp [entryFrame, mkF, argsToLocals, Value.category, maxLocals]; done) | rfl
theorem d1_0 : Dc method_2_code 0 (.iload_n 0) 1 1 := ⟨by decide +kernel, rfl⟩
theorem d1_1 : Dc method_2_code 1 (.ifCond .ne 7) 3 4 := ⟨by decide +kernel, rfl⟩
theorem d1_1t : Tg 1 (7) 8 := ⟨by decide, by decide⟩
theorem d1_4 : Dc method_2_code 4 (.getstatic 7) 3 7 := ⟨by decide +kernel, rfl⟩
theorem d1_7 : Dc method_2_code 7 .areturn 1 8 := ⟨by decide +kernel, rfl⟩
theorem d1_8 : Dc method_2_code 8 (.iload_n 0) 1 9 := ⟨by decide +kernel, rfl⟩
theorem d1_9 : Dc method_2_code 9 (.iconst 1) 1 10 := ⟨by decide +kernel, rfl⟩
theorem d1_10 : Dc method_2_code 10 (.if_icmp .ne 7) 3 13 := ⟨by decide +kernel, rfl⟩
theorem d1_10t : Tg 10 (7) 17 := ⟨by decide, by decide⟩
theorem d1_13 : Dc method_2_code 13 (.getstatic 13) 3 16 := ⟨by decide +kernel, rfl⟩
theorem d1_16 : Dc method_2_code 16 .areturn 1 17 := ⟨by decide +kernel, rfl⟩
theorem d1_17 : Dc method_2_code 17 (.iload_n 0) 1 18 := ⟨by decide +kernel, rfl⟩
theorem d1_18 : Dc method_2_code 18 (.iconst 2) 1 19 := ⟨by decide +kernel, rfl⟩
theorem d1_19 : Dc method_2_code 19 (.if_icmp .ne 7) 3 22 := ⟨by decide +kernel, rfl⟩
theorem d1_19t : Tg 19 (7) 26 := ⟨by decide, by decide⟩
theorem d1_22 : Dc method_2_code 22 (.getstatic 16) 3 25 := ⟨by decide +kernel, rfl⟩
theorem d1_25 : Dc method_2_code 25 .areturn 1 26 := ⟨by decide +kernel, rfl⟩
theorem d1_26 : Dc method_2_code 26 (.iload_n 0) 1 27 := ⟨by decide +kernel, rfl⟩
theorem d1_27 : Dc method_2_code 27 (.iconst 3) 1 28 := ⟨by decide +kernel, rfl⟩
theorem d1_28 : Dc method_2_code 28 (.if_icmp .ne 7) 3 31 := ⟨by decide +kernel, rfl⟩
theorem d1_28t : Tg 28 (7) 35 := ⟨by decide, by decide⟩
theorem d1_31 : Dc method_2_code 31 (.getstatic 19) 3 34 := ⟨by decide +kernel, rfl⟩
theorem d1_34 : Dc method_2_code 34 .areturn 1 35 := ⟨by decide +kernel, rfl⟩
theorem d1_35 : Dc method_2_code 35 (.iload_n 0) 1 36 := ⟨by decide +kernel, rfl⟩
theorem d1_36 : Dc method_2_code 36 (.iconst 4) 1 37 := ⟨by decide +kernel, rfl⟩
theorem d1_37 : Dc method_2_code 37 (.if_icmp .ne 7) 3 40 := ⟨by decide +kernel, rfl⟩
theorem d1_37t : Tg 37 (7) 44 := ⟨by decide, by decide⟩
theorem d1_40 : Dc method_2_code 40 (.getstatic 22) 3 43 := ⟨by decide +kernel, rfl⟩
theorem d1_43 : Dc method_2_code 43 .areturn 1 44 := ⟨by decide +kernel, rfl⟩
theorem d1_44 : Dc method_2_code 44 (.iload_n 0) 1 45 := ⟨by decide +kernel, rfl⟩
theorem d1_45 : Dc method_2_code 45 (.iconst 5) 1 46 := ⟨by decide +kernel, rfl⟩
theorem d1_46 : Dc method_2_code 46 (.if_icmp .ne 7) 3 49 := ⟨by decide +kernel, rfl⟩
theorem d1_46t : Tg 46 (7) 53 := ⟨by decide, by decide⟩
theorem d1_49 : Dc method_2_code 49 (.getstatic 25) 3 52 := ⟨by decide +kernel, rfl⟩
theorem d1_52 : Dc method_2_code 52 .areturn 1 53 := ⟨by decide +kernel, rfl⟩
theorem d1_53 : Dc method_2_code 53 (.iload_n 0) 1 54 := ⟨by decide +kernel, rfl⟩
theorem d1_54 : Dc method_2_code 54 (.bipush 6) 2 56 := ⟨by decide +kernel, rfl⟩
theorem d1_56 : Dc method_2_code 56 (.if_icmp .ne 7) 3 59 := ⟨by decide +kernel, rfl⟩
theorem d1_56t : Tg 56 (7) 63 := ⟨by decide, by decide⟩
theorem d1_59 : Dc method_2_code 59 (.getstatic 28) 3 62 := ⟨by decide +kernel, rfl⟩
theorem d1_62 : Dc method_2_code 62 .areturn 1 63 := ⟨by decide +kernel, rfl⟩
theorem d1_63 : Dc method_2_code 63 (.iload_n 0) 1 64 := ⟨by decide +kernel, rfl⟩
theorem d1_64 : Dc method_2_code 64 (.bipush 7) 2 66 := ⟨by decide +kernel, rfl⟩
theorem d1_66 : Dc method_2_code 66 (.if_icmp .ne 7) 3 69 := ⟨by decide +kernel, rfl⟩
theorem d1_66t : Tg 66 (7) 73 := ⟨by decide, by decide⟩
theorem d1_69 : Dc method_2_code 69 (.getstatic 31) 3 72 := ⟨by decide +kernel, rfl⟩
theorem d1_72 : Dc method_2_code 72 .areturn 1 73 := ⟨by decide +kernel, rfl⟩
theorem d1_73 : Dc method_2_code 73 (.iload_n 0) 1 74 := ⟨by decide +kernel, rfl⟩
theorem d1_74 : Dc method_2_code 74 (.bipush 8) 2 76 := ⟨by decide +kernel, rfl⟩
theorem d1_76 : Dc method_2_code 76 (.if_icmp .ne 7) 3 79 := ⟨by decide +kernel, rfl⟩
theorem d1_76t : Tg 76 (7) 83 := ⟨by decide, by decide⟩
theorem d1_79 : Dc method_2_code 79 (.getstatic 34) 3 82 := ⟨by decide +kernel, rfl⟩
theorem d1_82 : Dc method_2_code 82 .areturn 1 83 := ⟨by decide +kernel, rfl⟩
theorem d1_83 : Dc method_2_code 83 (.getstatic 37) 3 86 := ⟨by decide +kernel, rfl⟩
theorem d1_86 : Dc method_2_code 86 .areturn 1 87 := ⟨by decide +kernel, rfl⟩
theorem d2_0 : Dc prog_4_method_19_code 0 (.aload_n 0) 1 1 := ⟨by decide +kernel, rfl⟩
theorem d2_1 : Dc prog_4_method_19_code 1 (.getfield 90) 3 4 := ⟨by decide +kernel, rfl⟩
theorem d2_4 : Dc prog_4_method_19_code 4 (.getfield 196) 3 7 := ⟨by decide +kernel, rfl⟩
theorem d2_7 : Dc prog_4_method_19_code 7 (.ifCond .eq 11) 3 10 := ⟨by decide +kernel, rfl⟩
theorem d2_7t : Tg 7 (11) 18 := ⟨by decide, by decide⟩
theorem d2_10 : Dc prog_4_method_19_code 10 (.dload_n 1) 1 11 := ⟨by decide +kernel, rfl⟩
theorem d2_11 : Dc prog_4_method_19_code 11 (.ldc2_w 199) 3 14 := ⟨by decide +kernel, rfl⟩
theorem d2_14 : Dc prog_4_method_19_code 14 .dmul 1 15 := ⟨by decide +kernel, rfl⟩
theorem d2_15 : Dc prog_4_method_19_code 15 (.goto 12) 3 18 := ⟨by decide +kernel, rfl⟩
theorem d2_15t : Tg 15 (12) 27 := ⟨by decide, by decide⟩
theorem d2_18 : Dc prog_4_method_19_code 18 (.dload_n 1) 1 19 := ⟨by decide +kernel, rfl⟩
theorem d2_19 : Dc prog_4_method_19_code 19 (.ldc2_w 201) 3 22 := ⟨by decide +kernel, rfl⟩
theorem d2_22 : Dc prog_4_method_19_code 22 .dmul 1 23 := ⟨by decide +kernel, rfl⟩
theorem d2_23 : Dc prog_4_method_19_code 23 (.ldc2_w 203) 3 26 := ⟨by decide +kernel, rfl⟩
theorem d2_26 : Dc prog_4_method_19_code 26 .dadd 1 27 := ⟨by decide +kernel, rfl⟩
theorem d2_27 : Dc prog_4_method_19_code 27 .dreturn 1 28 := ⟨by decide +kernel, rfl⟩
theorem d0_0 : Dc code 0 (.iload_n 0) 1 1 := ⟨at_0, rfl⟩
theorem d0_1 : Dc code 1 (.ldc 40) 2 3 := ⟨at_1, rfl⟩
theorem d0_3 : Dc code 3 .iand 1 4 := ⟨at_3, rfl⟩
theorem d0_4 : Dc code 4 (.bipush 10) 2 6 := ⟨at_4, rfl⟩
theorem d0_6 : Dc code 6 .irem 1 7 := ⟨at_6, rfl⟩
theorem d0_7 : Dc code 7 (.istore_n 3) 1 8 := ⟨at_7, rfl⟩
theorem d0_8 : Dc code 8 (.iload_n 3) 1 9 := ⟨at_8, rfl⟩
theorem d0_9 : Dc code 9 (.invokestatic 41) 3 12 := ⟨at_9, rfl⟩
theorem d0_12 : Dc code 12 (.astore 4) 2 14 := ⟨at_12, rfl⟩
theorem d0_14 : Dc code 14 (.iload_n 3) 1 15 := ⟨at_14, rfl⟩
theorem d0_15 : Dc code 15 (.iconst 5) 1 16 := ⟨at_15, rfl⟩
theorem d0_16 : Dc code 16 (.if_icmp .eq 13) 3 19 := ⟨at_16, rfl⟩
theorem d0_16t : Tg 16 (13) 29 := ⟨by decide, by decide⟩
theorem d0_19 : Dc code 19 (.iload_n 3) 1 20 := ⟨at_19, rfl⟩
theorem d0_20 : Dc code 20 (.bipush 9) 2 22 := ⟨at_20, rfl⟩
theorem d0_22 : Dc code 22 (.if_icmp .eq 7) 3 25 := ⟨at_22, rfl⟩
theorem d0_22t : Tg 22 (7) 29 := ⟨by decide, by decide⟩
theorem d0_25 : Dc code 25 (.iconst 1) 1 26 := ⟨at_25, rfl⟩
theorem d0_26 : Dc code 26 (.goto 4) 3 29 := ⟨at_26, rfl⟩
theorem d0_26t : Tg 26 (4) 30 := ⟨by decide, by decide⟩
theorem d0_29 : Dc code 29 (.iconst 0) 1 30 := ⟨at_29, rfl⟩
theorem d0_30 : Dc code 30 (.istore 5) 2 32 := ⟨at_30, rfl⟩
theorem d0_32 : Dc code 32 (.iload_n 2) 1 33 := ⟨at_32, rfl⟩
theorem d0_33 : Dc code 33 (.iconst 1) 1 34 := ⟨at_33, rfl⟩
theorem d0_34 : Dc code 34 .iand 1 35 := ⟨at_34, rfl⟩
theorem d0_35 : Dc code 35 (.ifCond .eq 7) 3 38 := ⟨at_35, rfl⟩
theorem d0_35t : Tg 35 (7) 42 := ⟨by decide, by decide⟩
theorem d0_38 : Dc code 38 (.iconst 1) 1 39 := ⟨at_38, rfl⟩
theorem d0_39 : Dc code 39 (.goto 4) 3 42 := ⟨at_39, rfl⟩
theorem d0_39t : Tg 39 (4) 43 := ⟨by decide, by decide⟩
theorem d0_42 : Dc code 42 (.iconst 0) 1 43 := ⟨at_42, rfl⟩
theorem d0_43 : Dc code 43 (.istore 6) 2 45 := ⟨at_43, rfl⟩
theorem d0_45 : Dc code 45 (.iload 6) 2 47 := ⟨at_45, rfl⟩
theorem d0_47 : Dc code 47 (.ifCond .eq 9) 3 50 := ⟨at_47, rfl⟩
theorem d0_47t : Tg 47 (9) 56 := ⟨by decide, by decide⟩
theorem d0_50 : Dc code 50 (.ldc2_w 47) 3 53 := ⟨at_50, rfl⟩
theorem d0_53 : Dc code 53 (.goto 4) 3 56 := ⟨at_53, rfl⟩
theorem d0_53t : Tg 53 (4) 57 := ⟨by decide, by decide⟩
theorem d0_56 : Dc code 56 (.dconst 1) 1 57 := ⟨at_56, rfl⟩
theorem d0_57 : Dc code 57 (.dstore 7) 2 59 := ⟨at_57, rfl⟩
theorem d0_59 : Dc code 59 (.iload_n 1) 1 60 := ⟨at_59, rfl⟩
theorem d0_60 : Dc code 60 .i2d 1 61 := ⟨at_60, rfl⟩
theorem d0_61 : Dc code 61 (.dload 7) 2 63 := ⟨at_61, rfl⟩
theorem d0_63 : Dc code 63 .dmul 1 64 := ⟨at_63, rfl⟩
theorem d0_64 : Dc code 64 (.dstore 9) 2 66 := ⟨at_64, rfl⟩
theorem d0_66 : Dc code 66 (.aload 4) 2 68 := ⟨at_66, rfl⟩
theorem d0_68 : Dc code 68 (.dload 9) 2 70 := ⟨at_68, rfl⟩
theorem d0_70 : Dc code 70 (.invokevirtual 49) 3 73 := ⟨at_70, rfl⟩
theorem d0_73 : Dc code 73 (.dstore 11) 2 75 := ⟨at_73, rfl⟩
theorem d0_75 : Dc code 75 (.iload_n 1) 1 76 := ⟨at_75, rfl⟩
theorem d0_76 : Dc code 76 .i2l 1 77 := ⟨at_76, rfl⟩
theorem d0_77 : Dc code 77 (.lstore 13) 2 79 := ⟨at_77, rfl⟩
theorem d0_79 : Dc code 79 (.iload 5) 2 81 := ⟨at_79, rfl⟩
theorem d0_81 : Dc code 81 (.ifCond .eq 22) 3 84 := ⟨at_81, rfl⟩
theorem d0_81t : Tg 81 (22) 103 := ⟨by decide, by decide⟩
theorem d0_84 : Dc code 84 (.lload 13) 2 86 := ⟨at_84, rfl⟩
theorem d0_86 : Dc code 86 (.ldc2_w 53) 3 89 := ⟨at_86, rfl⟩
theorem d0_89 : Dc code 89 .lmul 1 90 := ⟨at_89, rfl⟩
theorem d0_90 : Dc code 90 .l2d 1 91 := ⟨at_90, rfl⟩
theorem d0_91 : Dc code 91 (.dload 7) 2 93 := ⟨at_91, rfl⟩
theorem d0_93 : Dc code 93 .dmul 1 94 := ⟨at_93, rfl⟩
theorem d0_94 : Dc code 94 (.ldc2_w 55) 3 97 := ⟨at_94, rfl⟩
theorem d0_97 : Dc code 97 .dmul 1 98 := ⟨at_97, rfl⟩
theorem d0_98 : Dc code 98 (.dstore 15) 2 100 := ⟨at_98, rfl⟩
theorem d0_100 : Dc code 100 (.goto 31) 3 103 := ⟨at_100, rfl⟩
theorem d0_100t : Tg 100 (31) 131 := ⟨by decide, by decide⟩
theorem d0_103 : Dc code 103 (.iload_n 1) 1 104 := ⟨at_103, rfl⟩
theorem d0_104 : Dc code 104 (.ifCond .ne 11) 3 107 := ⟨at_104, rfl⟩
theorem d0_104t : Tg 104 (11) 115 := ⟨by decide, by decide⟩
theorem d0_107 : Dc code 107 (.ldc2_w 57) 3 110 := ⟨at_107, rfl⟩
theorem d0_110 : Dc code 110 (.dstore 15) 2 112 := ⟨at_110, rfl⟩
theorem d0_112 : Dc code 112 (.goto 19) 3 115 := ⟨at_112, rfl⟩
theorem d0_112t : Tg 112 (19) 131 := ⟨by decide, by decide⟩
theorem d0_115 : Dc code 115 (.lload 13) 2 117 := ⟨at_115, rfl⟩
theorem d0_117 : Dc code 117 (.ldc2_w 59) 3 120 := ⟨at_117, rfl⟩
theorem d0_120 : Dc code 120 .lmul 1 121 := ⟨at_120, rfl⟩
theorem d0_121 : Dc code 121 .l2d 1 122 := ⟨at_121, rfl⟩
theorem d0_122 : Dc code 122 (.dload 7) 2 124 := ⟨at_122, rfl⟩
theorem d0_124 : Dc code 124 .dmul 1 125 := ⟨at_124, rfl⟩
theorem d0_125 : Dc code 125 (.ldc2_w 55) 3 128 := ⟨at_125, rfl⟩
theorem d0_128 : Dc code 128 .dmul 1 129 := ⟨at_128, rfl⟩
theorem d0_129 : Dc code 129 (.dstore 15) 2 131 := ⟨at_129, rfl⟩
theorem d0_131 : Dc code 131 (.dload 11) 2 133 := ⟨at_131, rfl⟩
theorem d0_133 : Dc code 133 (.dload 15) 2 135 := ⟨at_133, rfl⟩
theorem d0_135 : Dc code 135 (.dcmp .l) 1 136 := ⟨at_135, rfl⟩
theorem d0_136 : Dc code 136 (.ifCond .ne 7) 3 139 := ⟨at_136, rfl⟩
theorem d0_136t : Tg 136 (7) 143 := ⟨by decide, by decide⟩
theorem d0_139 : Dc code 139 (.iconst 1) 1 140 := ⟨at_139, rfl⟩
theorem d0_140 : Dc code 140 (.goto 4) 3 143 := ⟨at_140, rfl⟩
theorem d0_140t : Tg 140 (4) 144 := ⟨by decide, by decide⟩
theorem d0_143 : Dc code 143 (.iconst 0) 1 144 := ⟨at_143, rfl⟩
theorem d0_144 : Dc code 144 .ireturn 1 145 := ⟨at_144, rfl⟩
set_option maxRecDepth 65536 in
set_option maxHeartbeats 40000000 in
theorem rmPick (l : Launch) (Z : State) (a0 : Array Value) (hw : ∀ d ∈ tables_1, d.before a0 Z = true) (hn : narrow_1.value a0 Z none Z [] = some true) (w0 : Int32) (hw10 : w0 = 0 ∨ w0 = 1 ∨ w0 = 2 ∨ w0 = 3 ∨ w0 = 4 ∨ w0 = 5 ∨ w0 = 6 ∨ w0 = 7 ∨ w0 = 8 ∨ w0 = 9) (h0 : Heap) (hE : Ext Z.heap h0) :
    Ct false l Z [] (⟨"com/example/pathmeter/pathmeter/MetricReorderedBestPinLaw", "pick", "(I)Lcom/example/pathmeter/pathmeter/Metric;"⟩ : MethodName) method_2_code 1 (some (.object "com/example/pathmeter/pathmeter/Metric")) [] ({ frames := 0, cells := 0, slots := 0, locals := 0 } : Room) [] #[(.int w0)] h0 (fun r u => ∃ a cc g, r = some (.ref a) ∧ Exa Z h0 a "com/example/pathmeter/pathmeter/Metric" ∧ Fld Z h0 a "com/example/pathmeter/pathmeter/Metric" "composition" "Lcom/example/pathmeter/pathmeter/Metric$Composition;" (.ref cc) ∧ Fld Z h0 cc "com/example/pathmeter/pathmeter/Metric$Composition" "growing" "Z" (.int g) ∧ ((g = 0 ∧ (w0 = 5 ∨ w0 = 9)) ∨ (g = 1 ∧ ¬ w0 = 5 ∧ ¬ w0 = 9)) ∧ h0 = u) := by
  refine Ct.intro pn_com_example_pathmeter_pathmeter_MetricReorderedBestPinLaw hE (fun m => efP m w0) nosf ⟨a0, own_EW hw⟩ ?_
  intro x T w
  refine w.iloadN d1_0 rfl ?_
  refine w.ifNe d1_1 d1_1t (fun q0 => ?_) (fun q0 => ?_)
  · refine w.iloadN d1_8 rfl ?_
    refine w.iconst (1 : Int32) d1_9 rfl ?_
    refine w.icmpNe d1_10 d1_10t (fun q1 => ?_) (fun q1 => ?_)
    · refine w.iloadN d1_17 rfl ?_
      refine w.iconst (2 : Int32) d1_18 rfl ?_
      refine w.icmpNe d1_19 d1_19t (fun q2 => ?_) (fun q2 => ?_)
      · refine w.iloadN d1_26 rfl ?_
        refine w.iconst (3 : Int32) d1_27 rfl ?_
        refine w.icmpNe d1_28 d1_28t (fun q3 => ?_) (fun q3 => ?_)
        · refine w.iloadN d1_35 rfl ?_
          refine w.iconst (4 : Int32) d1_36 rfl ?_
          refine w.icmpNe d1_37 d1_37t (fun q4 => ?_) (fun q4 => ?_)
          · refine w.iloadN d1_44 rfl ?_
            refine w.iconst (5 : Int32) d1_45 rfl ?_
            refine w.icmpNe d1_46 d1_46t (fun q5 => ?_) (fun q5 => ?_)
            · refine w.iloadN d1_53 rfl ?_
              refine w.bipush (6 : Int32) d1_54 rfl ?_
              refine w.icmpNe d1_56 d1_56t (fun q6 => ?_) (fun q6 => ?_)
              · refine w.iloadN d1_63 rfl ?_
                refine w.bipush (7 : Int32) d1_64 rfl ?_
                refine w.icmpNe d1_66 d1_66t (fun q7 => ?_) (fun q7 => ?_)
                · refine w.iloadN d1_73 rfl ?_
                  refine w.bipush (8 : Int32) d1_74 rfl ?_
                  refine w.icmpNe d1_76 d1_76t (fun q8 => ?_) (fun q8 => ?_)
                  · refine w.getS d1_83 (tw hw 42 rfl) (s_MIN_RESIDUAL_BW hw hn).2.1 ?_
                    intro T w
                    exact w.retA d1_86 rfl rfl rfl rfl ⟨_, _, _, rfl, ((s_MIN_RESIDUAL_BW hw hn).2.2.ext w.old), ((f_MIN_RESIDUAL_BW_composition hw hn).ext w.old), ((f_MIN_growing hw hn).ext w.old), (Or.inl ⟨rfl, Or.inr (((((((((hw10.resolve_left q0).resolve_left q1).resolve_left q2).resolve_left q3).resolve_left q4).resolve_left q5).resolve_left q6).resolve_left q7).resolve_left q8)⟩), rfl⟩
                  · refine w.getS d1_79 (tw hw 33 rfl) (s_MAX_RESERVED_PCT hw hn).2.1 ?_
                    intro T w
                    exact w.retA d1_82 rfl rfl rfl rfl ⟨_, _, _, rfl, ((s_MAX_RESERVED_PCT hw hn).2.2.ext w.old), ((f_MAX_RESERVED_PCT_composition hw hn).ext w.old), ((f_MAX_growing hw hn).ext w.old), (Or.inr ⟨rfl, by rw [q8]; decide, by rw [q8]; decide⟩), rfl⟩
                · refine w.getS d1_69 (tw hw 40 rfl) (s_MAX_LRBU_PCT hw hn).2.1 ?_
                  intro T w
                  exact w.retA d1_72 rfl rfl rfl rfl ⟨_, _, _, rfl, ((s_MAX_LRBU_PCT hw hn).2.2.ext w.old), ((f_MAX_LRBU_PCT_composition hw hn).ext w.old), ((f_MAX_growing hw hn).ext w.old), (Or.inr ⟨rfl, by rw [q7]; decide, by rw [q7]; decide⟩), rfl⟩
              · refine w.getS d1_59 (tw hw 38 rfl) (s_MAX_LBU_PCT hw hn).2.1 ?_
                intro T w
                exact w.retA d1_62 rfl rfl rfl rfl ⟨_, _, _, rfl, ((s_MAX_LBU_PCT hw hn).2.2.ext w.old), ((f_MAX_LBU_PCT_composition hw hn).ext w.old), ((f_MAX_growing hw hn).ext w.old), (Or.inr ⟨rfl, by rw [q6]; decide, by rw [q6]; decide⟩), rfl⟩
            · refine w.getS d1_49 (tw hw 27 rfl) (s_LOSS_PCT hw hn).2.1 ?_
              intro T w
              exact w.retA d1_52 rfl rfl rfl rfl ⟨_, _, _, rfl, ((s_LOSS_PCT hw hn).2.2.ext w.old), ((f_LOSS_PCT_composition hw hn).ext w.old), ((f_LOSS_growing hw hn).ext w.old), (Or.inl ⟨rfl, Or.inl q5⟩), rfl⟩
          · refine w.getS d1_40 (tw hw 25 rfl) (s_DELAY_VARIATION_US hw hn).2.1 ?_
            intro T w
            exact w.retA d1_43 rfl rfl rfl rfl ⟨_, _, _, rfl, ((s_DELAY_VARIATION_US hw hn).2.2.ext w.old), ((f_DELAY_VARIATION_US_composition hw hn).ext w.old), ((f_SUM_growing hw hn).ext w.old), (Or.inr ⟨rfl, by rw [q4]; decide, by rw [q4]; decide⟩), rfl⟩
        · refine w.getS d1_31 (tw hw 36 rfl) (s_DELAY_US hw hn).2.1 ?_
          intro T w
          exact w.retA d1_34 rfl rfl rfl rfl ⟨_, _, _, rfl, ((s_DELAY_US hw hn).2.2.ext w.old), ((f_DELAY_US_composition hw hn).ext w.old), ((f_SUM_growing hw hn).ext w.old), (Or.inr ⟨rfl, by rw [q3]; decide, by rw [q3]; decide⟩), rfl⟩
      · refine w.getS d1_22 (tw hw 45 rfl) (s_HOP_COUNT hw hn).2.1 ?_
        intro T w
        exact w.retA d1_25 rfl rfl rfl rfl ⟨_, _, _, rfl, ((s_HOP_COUNT hw hn).2.2.ext w.old), ((f_HOP_COUNT_composition hw hn).ext w.old), ((f_SUM_growing hw hn).ext w.old), (Or.inr ⟨rfl, by rw [q2]; decide, by rw [q2]; decide⟩), rfl⟩
    · refine w.getS d1_13 (tw hw 22 rfl) (s_TE_METRIC hw hn).2.1 ?_
      intro T w
      exact w.retA d1_16 rfl rfl rfl rfl ⟨_, _, _, rfl, ((s_TE_METRIC hw hn).2.2.ext w.old), ((f_TE_METRIC_composition hw hn).ext w.old), ((f_SUM_growing hw hn).ext w.old), (Or.inr ⟨rfl, by rw [q1]; decide, by rw [q1]; decide⟩), rfl⟩
  · refine w.getS d1_4 (tw hw 5 rfl) (s_IGP_METRIC hw hn).2.1 ?_
    intro T w
    exact w.retA d1_7 rfl rfl rfl rfl ⟨_, _, _, rfl, ((s_IGP_METRIC hw hn).2.2.ext w.old), ((f_IGP_METRIC_composition hw hn).ext w.old), ((f_SUM_growing hw hn).ext w.old), (Or.inr ⟨rfl, by rw [q0]; decide, by rw [q0]; decide⟩), rfl⟩

set_option maxRecDepth 65536 in
set_option maxHeartbeats 40000000 in
theorem rmRB1 (l : Launch) (Z : State) (a0 : Array Value) (hw : ∀ d ∈ tables_1, d.before a0 Z = true) (a cc : Addr) (v : UInt64) (h0 : Heap) (hE : Ext Z.heap h0) (G1 : Fld Z h0 a "com/example/pathmeter/pathmeter/Metric" "composition" "Lcom/example/pathmeter/pathmeter/Metric$Composition;" (.ref cc)) (G2 : Fld Z h0 cc "com/example/pathmeter/pathmeter/Metric$Composition" "growing" "Z" (.int (1 : Int32))) (hn1 : Jvm.Free.Fl.NoNaN64 (FP.dmul v 4607182410210082816)) :
    Ct false l Z [] (⟨"com/example/pathmeter/pathmeter/Metric", "reorderedBest", "(D)D"⟩ : MethodName) prog_4_method_19_code 3 (some .double) [] ({ frames := 0, cells := 0, slots := 0, locals := 0 } : Room) [] #[(.ref a), (.double v)] h0 (fun r u => r = some (.double (FP.dmul v 4607182410210082816)) ∧ h0 = u) := by
  refine Ct.intro pn_com_example_pathmeter_pathmeter_Metric hE (fun m => efR m a v) nosf ⟨a0, own_EW hw⟩ ?_
  intro x T w
  refine w.aloadN d2_0 rfl rfl ?_
  refine w.getF d2_1 (tw hw 13 rfl) G1 ?_
  intro T w
  refine w.getFR d2_4 (tw hw 17 rfl) G2 ?_
  refine w.ifEq d2_7 d2_7t (fun q => absurd q (by decide)) (fun _ => ?_)
  refine w.dloadN d2_10 rfl ?_
  refine w.ldc2D d2_11 (tw hw 19 rfl) ?_
  refine w.dmul d2_14 hn1 ?_
  refine w.goto d2_15 d2_15t ?_
  exact w.retD d2_27 rfl ⟨rfl, rfl⟩

set_option maxRecDepth 65536 in
set_option maxHeartbeats 40000000 in
theorem rmRB0 (l : Launch) (Z : State) (a0 : Array Value) (hw : ∀ d ∈ tables_1, d.before a0 Z = true) (a cc : Addr) (v : UInt64) (h0 : Heap) (hE : Ext Z.heap h0) (G1 : Fld Z h0 a "com/example/pathmeter/pathmeter/Metric" "composition" "Lcom/example/pathmeter/pathmeter/Metric$Composition;" (.ref cc)) (G2 : Fld Z h0 cc "com/example/pathmeter/pathmeter/Metric$Composition" "growing" "Z" (.int (0 : Int32))) (hn1 : Jvm.Free.Fl.NoNaN64 (FP.dmul v 4607182423094984704)) (hn2 : Jvm.Free.Fl.NoNaN64 (FP.dadd (FP.dmul v 4607182423094984704) 103582791429521408)) :
    Ct false l Z [] (⟨"com/example/pathmeter/pathmeter/Metric", "reorderedBest", "(D)D"⟩ : MethodName) prog_4_method_19_code 3 (some .double) [] ({ frames := 0, cells := 0, slots := 0, locals := 0 } : Room) [] #[(.ref a), (.double v)] h0 (fun r u => r = some (.double (FP.dadd (FP.dmul v 4607182423094984704) 103582791429521408)) ∧ h0 = u) := by
  refine Ct.intro pn_com_example_pathmeter_pathmeter_Metric hE (fun m => efR m a v) nosf ⟨a0, own_EW hw⟩ ?_
  intro x T w
  refine w.aloadN d2_0 rfl rfl ?_
  refine w.getF d2_1 (tw hw 13 rfl) G1 ?_
  intro T w
  refine w.getFR d2_4 (tw hw 17 rfl) G2 ?_
  refine w.ifEq d2_7 d2_7t (fun _ => ?_) (fun q => absurd rfl q)
  refine w.dloadN d2_18 rfl ?_
  refine w.ldc2D d2_19 (tw hw 30 rfl) ?_
  refine w.dmul d2_22 hn1 ?_
  refine w.ldc2D d2_23 (tw hw 31 rfl) ?_
  refine w.dadd d2_26 hn2 ?_
  exact w.retD d2_27 rfl ⟨rfl, rfl⟩

set_option maxRecDepth 65536 in
set_option maxHeartbeats 40000000 in
theorem p32_1 (l : Launch) (Z : State) (a0 : Array Value) (hw : ∀ d ∈ tables_1, d.before a0 Z = true) (i0 k i2 w0 : Int32) (a cc : Addr) (h0 : Heap) (Ea : Exa Z h0 a "com/example/pathmeter/pathmeter/Metric") (G1 : Fld Z h0 a "com/example/pathmeter/pathmeter/Metric" "composition" "Lcom/example/pathmeter/pathmeter/Metric$Composition;" (.ref cc)) (G2 : Fld Z h0 cc "com/example/pathmeter/pathmeter/Metric$Composition" "growing" "Z" (.int (1 : Int32))) (cx : Cx) (T : State) (w : W cx false l Z [] room_1 (MethodName.cls x) code maxLocals ret (MethodName.name x) T h0 (0) (0) []) :
    Go cx false Z [] room_1 (fun v _ => v = some (.int 1)) T 32 #[.val (.int i0), .val (.int k), .val (.int i2), .val (.int w0), .val (.ref a), .val (.int (1 : Int32)), .unset, .unset, .unset, .unset, .unset, .unset, .unset, .unset, .unset, .unset, .unset] [] := by
  refine w.iloadN d0_32 rfl ?_
  refine w.iconst (1 : Int32) d0_33 rfl ?_
  refine w.iand d0_34 ?_
  refine w.ifEq d0_35 d0_35t (fun q1 => ?_) (fun q1 => ?_)
  · refine w.iconst (0 : Int32) d0_42 rfl ?_
    refine w.istore #[.val (.int i0), .val (.int k), .val (.int i2), .val (.int w0), .val (.ref a), .val (.int (1 : Int32)), .val (.int (0 : Int32)), .unset, .unset, .unset, .unset, .unset, .unset, .unset, .unset, .unset, .unset] d0_43 rfl ?_
    refine w.iload d0_45 rfl ?_
    refine w.ifEq d0_47 d0_47t (fun _ => ?_) (fun q => absurd rfl q)
    refine w.dconst1 d0_56 ?_
    refine w.dstore #[.val (.int i0), .val (.int k), .val (.int i2), .val (.int w0), .val (.ref a), .val (.int (1 : Int32)), .val (.int (0 : Int32)), .val (.double 4607182418800017408), .second, .unset, .unset, .unset, .unset, .unset, .unset, .unset, .unset] d0_57 rfl ?_
    refine w.iloadN d0_59 rfl ?_
    refine w.i2d d0_60 ?_
    refine w.dload d0_61 rfl ?_
    refine w.dmul d0_63 (OwnFp.nn (OwnFp.sofar OwnFp.scale1)) ?_
    refine w.dstore #[.val (.int i0), .val (.int k), .val (.int i2), .val (.int w0), .val (.ref a), .val (.int (1 : Int32)), .val (.int (0 : Int32)), .val (.double 4607182418800017408), .second, .val (.double (FP.dmul (FP.i2d k) 4607182418800017408)), .second, .unset, .unset, .unset, .unset, .unset, .unset] d0_64 rfl ?_
    refine w.aload d0_66 rfl rfl ?_
    refine w.dload d0_68 rfl ?_
    refine w.callV (argsL := [(.double (FP.dmul (FP.i2d k) 4607182418800017408))]) (rest := []) 0 d0_70 (tw hw 8 rfl) (tw hw 9 rfl) (tw hw 11 rfl) (tw hw 10 rfl) (tw hw 6 rfl) (tw hw 12 rfl) (by decide) Ea (rmRB1 l Z a0 hw a cc (FP.dmul (FP.i2d k) 4607182418800017408) h0 w.old G1 G2 (OwnFp.nn (OwnFp.growV OwnFp.scale1))) (lenOf pd_0 rfl) rfl rfl (Nat.le_refl _) ⟨by decide, by decide, by decide, by decide⟩ all0 ?_
    intro T h1 r w _ hQ
    obtain ⟨rfl, rfl⟩ := hQ
    show Go cx _ Z _ _ _ T 73 #[.val (.int i0), .val (.int k), .val (.int i2), .val (.int w0), .val (.ref a), .val (.int (1 : Int32)), .val (.int (0 : Int32)), .val (.double 4607182418800017408), .second, .val (.double (FP.dmul (FP.i2d k) 4607182418800017408)), .second, .unset, .unset, .unset, .unset, .unset, .unset] [(.double (FP.dmul (FP.dmul (FP.i2d k) 4607182418800017408) 4607182410210082816))]
    refine w.dstore #[.val (.int i0), .val (.int k), .val (.int i2), .val (.int w0), .val (.ref a), .val (.int (1 : Int32)), .val (.int (0 : Int32)), .val (.double 4607182418800017408), .second, .val (.double (FP.dmul (FP.i2d k) 4607182418800017408)), .second, .val (.double (FP.dmul (FP.dmul (FP.i2d k) 4607182418800017408) 4607182410210082816)), .second, .unset, .unset, .unset, .unset] d0_73 rfl ?_
    refine w.iloadN d0_75 rfl ?_
    refine w.i2l d0_76 ?_
    refine w.lstore #[.val (.int i0), .val (.int k), .val (.int i2), .val (.int w0), .val (.ref a), .val (.int (1 : Int32)), .val (.int (0 : Int32)), .val (.double 4607182418800017408), .second, .val (.double (FP.dmul (FP.i2d k) 4607182418800017408)), .second, .val (.double (FP.dmul (FP.dmul (FP.i2d k) 4607182418800017408) 4607182410210082816)), .second, .val (.long k.toInt64), .second, .unset, .unset] d0_77 rfl ?_
    refine w.iload d0_79 rfl ?_
    refine w.ifEq d0_81 d0_81t (fun q => absurd q (by decide)) (fun _ => ?_)
    refine w.lload d0_84 rfl ?_
    refine w.ldc2J d0_86 (tw hw 20 rfl) ?_
    refine w.lmul d0_89 ?_
    refine w.l2d d0_90 ?_
    refine w.dload d0_91 rfl ?_
    refine w.dmul d0_93 (OwnFp.nn (OwnFp.expect1 (m := 1048575) OwnFp.scale1 (by decide) (by decide) (own_w1048575 k))) ?_
    refine w.ldc2D d0_94 (tw hw 21 rfl) ?_
    refine w.dmul d0_97 (OwnFp.nn (OwnFp.expect (m := 1048575) OwnFp.scale1 (by decide) (by decide) (own_w1048575 k))) ?_
    refine w.dstore #[.val (.int i0), .val (.int k), .val (.int i2), .val (.int w0), .val (.ref a), .val (.int (1 : Int32)), .val (.int (0 : Int32)), .val (.double 4607182418800017408), .second, .val (.double (FP.dmul (FP.i2d k) 4607182418800017408)), .second, .val (.double (FP.dmul (FP.dmul (FP.i2d k) 4607182418800017408) 4607182410210082816)), .second, .val (.long k.toInt64), .second, .val (.double (FP.dmul (FP.dmul (FP.l2d (k.toInt64 * (1048575 : Int64))) 4607182418800017408) 4517110426252607488)), .second] d0_98 rfl ?_
    refine w.goto d0_100 d0_100t ?_
    refine w.dload d0_131 rfl ?_
    refine w.dload d0_133 rfl ?_
    refine w.dcmp d0_135 ?_
    refine w.ifNe d0_136 d0_136t (fun q => absurd ((congrArg (fun o => cmpValue o .l) (OwnFp.grow OwnFp.scale1 (own_w1048575 k))).trans rfl) q) (fun _ => ?_)
    refine w.iconst (1 : Int32) d0_139 rfl ?_
    refine w.goto d0_140 d0_140t ?_
    exact w.retN d0_144 rfl (by simp) rfl
  · refine w.iconst (1 : Int32) d0_38 rfl ?_
    refine w.goto d0_39 d0_39t ?_
    refine w.istore #[.val (.int i0), .val (.int k), .val (.int i2), .val (.int w0), .val (.ref a), .val (.int (1 : Int32)), .val (.int (1 : Int32)), .unset, .unset, .unset, .unset, .unset, .unset, .unset, .unset, .unset, .unset] d0_43 rfl ?_
    refine w.iload d0_45 rfl ?_
    refine w.ifEq d0_47 d0_47t (fun q => absurd q (by decide)) (fun _ => ?_)
    refine w.ldc2D d0_50 (tw hw 24 rfl) ?_
    refine w.goto d0_53 d0_53t ?_
    refine w.dstore #[.val (.int i0), .val (.int k), .val (.int i2), .val (.int w0), .val (.ref a), .val (.int (1 : Int32)), .val (.int (1 : Int32)), .val (.double 4467570830351532032), .second, .unset, .unset, .unset, .unset, .unset, .unset, .unset, .unset] d0_57 rfl ?_
    refine w.iloadN d0_59 rfl ?_
    refine w.i2d d0_60 ?_
    refine w.dload d0_61 rfl ?_
    refine w.dmul d0_63 (OwnFp.nn (OwnFp.sofar OwnFp.scale31)) ?_
    refine w.dstore #[.val (.int i0), .val (.int k), .val (.int i2), .val (.int w0), .val (.ref a), .val (.int (1 : Int32)), .val (.int (1 : Int32)), .val (.double 4467570830351532032), .second, .val (.double (FP.dmul (FP.i2d k) 4467570830351532032)), .second, .unset, .unset, .unset, .unset, .unset, .unset] d0_64 rfl ?_
    refine w.aload d0_66 rfl rfl ?_
    refine w.dload d0_68 rfl ?_
    refine w.callV (argsL := [(.double (FP.dmul (FP.i2d k) 4467570830351532032))]) (rest := []) 0 d0_70 (tw hw 8 rfl) (tw hw 9 rfl) (tw hw 11 rfl) (tw hw 10 rfl) (tw hw 6 rfl) (tw hw 12 rfl) (by decide) Ea (rmRB1 l Z a0 hw a cc (FP.dmul (FP.i2d k) 4467570830351532032) h0 w.old G1 G2 (OwnFp.nn (OwnFp.growV OwnFp.scale31))) (lenOf pd_0 rfl) rfl rfl (Nat.le_refl _) ⟨by decide, by decide, by decide, by decide⟩ all0 ?_
    intro T h2 r w _ hQ
    obtain ⟨rfl, rfl⟩ := hQ
    show Go cx _ Z _ _ _ T 73 #[.val (.int i0), .val (.int k), .val (.int i2), .val (.int w0), .val (.ref a), .val (.int (1 : Int32)), .val (.int (1 : Int32)), .val (.double 4467570830351532032), .second, .val (.double (FP.dmul (FP.i2d k) 4467570830351532032)), .second, .unset, .unset, .unset, .unset, .unset, .unset] [(.double (FP.dmul (FP.dmul (FP.i2d k) 4467570830351532032) 4607182410210082816))]
    refine w.dstore #[.val (.int i0), .val (.int k), .val (.int i2), .val (.int w0), .val (.ref a), .val (.int (1 : Int32)), .val (.int (1 : Int32)), .val (.double 4467570830351532032), .second, .val (.double (FP.dmul (FP.i2d k) 4467570830351532032)), .second, .val (.double (FP.dmul (FP.dmul (FP.i2d k) 4467570830351532032) 4607182410210082816)), .second, .unset, .unset, .unset, .unset] d0_73 rfl ?_
    refine w.iloadN d0_75 rfl ?_
    refine w.i2l d0_76 ?_
    refine w.lstore #[.val (.int i0), .val (.int k), .val (.int i2), .val (.int w0), .val (.ref a), .val (.int (1 : Int32)), .val (.int (1 : Int32)), .val (.double 4467570830351532032), .second, .val (.double (FP.dmul (FP.i2d k) 4467570830351532032)), .second, .val (.double (FP.dmul (FP.dmul (FP.i2d k) 4467570830351532032) 4607182410210082816)), .second, .val (.long k.toInt64), .second, .unset, .unset] d0_77 rfl ?_
    refine w.iload d0_79 rfl ?_
    refine w.ifEq d0_81 d0_81t (fun q => absurd q (by decide)) (fun _ => ?_)
    refine w.lload d0_84 rfl ?_
    refine w.ldc2J d0_86 (tw hw 20 rfl) ?_
    refine w.lmul d0_89 ?_
    refine w.l2d d0_90 ?_
    refine w.dload d0_91 rfl ?_
    refine w.dmul d0_93 (OwnFp.nn (OwnFp.expect1 (m := 1048575) OwnFp.scale31 (by decide) (by decide) (own_w1048575 k))) ?_
    refine w.ldc2D d0_94 (tw hw 21 rfl) ?_
    refine w.dmul d0_97 (OwnFp.nn (OwnFp.expect (m := 1048575) OwnFp.scale31 (by decide) (by decide) (own_w1048575 k))) ?_
    refine w.dstore #[.val (.int i0), .val (.int k), .val (.int i2), .val (.int w0), .val (.ref a), .val (.int (1 : Int32)), .val (.int (1 : Int32)), .val (.double 4467570830351532032), .second, .val (.double (FP.dmul (FP.i2d k) 4467570830351532032)), .second, .val (.double (FP.dmul (FP.dmul (FP.i2d k) 4467570830351532032) 4607182410210082816)), .second, .val (.long k.toInt64), .second, .val (.double (FP.dmul (FP.dmul (FP.l2d (k.toInt64 * (1048575 : Int64))) 4467570830351532032) 4517110426252607488)), .second] d0_98 rfl ?_
    refine w.goto d0_100 d0_100t ?_
    refine w.dload d0_131 rfl ?_
    refine w.dload d0_133 rfl ?_
    refine w.dcmp d0_135 ?_
    refine w.ifNe d0_136 d0_136t (fun q => absurd ((congrArg (fun o => cmpValue o .l) (OwnFp.grow OwnFp.scale31 (own_w1048575 k))).trans rfl) q) (fun _ => ?_)
    refine w.iconst (1 : Int32) d0_139 rfl ?_
    refine w.goto d0_140 d0_140t ?_
    exact w.retN d0_144 rfl (by simp) rfl

set_option maxRecDepth 65536 in
set_option maxHeartbeats 40000000 in
theorem p32_0 (l : Launch) (Z : State) (a0 : Array Value) (hw : ∀ d ∈ tables_1, d.before a0 Z = true) (i0 k i2 w0 : Int32) (a cc : Addr) (h0 : Heap) (Ea : Exa Z h0 a "com/example/pathmeter/pathmeter/Metric") (G1 : Fld Z h0 a "com/example/pathmeter/pathmeter/Metric" "composition" "Lcom/example/pathmeter/pathmeter/Metric$Composition;" (.ref cc)) (G2 : Fld Z h0 cc "com/example/pathmeter/pathmeter/Metric$Composition" "growing" "Z" (.int (0 : Int32))) (cx : Cx) (T : State) (w : W cx false l Z [] room_1 (MethodName.cls x) code maxLocals ret (MethodName.name x) T h0 (0) (0) []) :
    Go cx false Z [] room_1 (fun v _ => v = some (.int 1)) T 32 #[.val (.int i0), .val (.int k), .val (.int i2), .val (.int w0), .val (.ref a), .val (.int (0 : Int32)), .unset, .unset, .unset, .unset, .unset, .unset, .unset, .unset, .unset, .unset, .unset] [] := by
  refine w.iloadN d0_32 rfl ?_
  refine w.iconst (1 : Int32) d0_33 rfl ?_
  refine w.iand d0_34 ?_
  refine w.ifEq d0_35 d0_35t (fun q1 => ?_) (fun q1 => ?_)
  · refine w.iconst (0 : Int32) d0_42 rfl ?_
    refine w.istore #[.val (.int i0), .val (.int k), .val (.int i2), .val (.int w0), .val (.ref a), .val (.int (0 : Int32)), .val (.int (0 : Int32)), .unset, .unset, .unset, .unset, .unset, .unset, .unset, .unset, .unset, .unset] d0_43 rfl ?_
    refine w.iload d0_45 rfl ?_
    refine w.ifEq d0_47 d0_47t (fun _ => ?_) (fun q => absurd rfl q)
    refine w.dconst1 d0_56 ?_
    refine w.dstore #[.val (.int i0), .val (.int k), .val (.int i2), .val (.int w0), .val (.ref a), .val (.int (0 : Int32)), .val (.int (0 : Int32)), .val (.double 4607182418800017408), .second, .unset, .unset, .unset, .unset, .unset, .unset, .unset, .unset] d0_57 rfl ?_
    refine w.iloadN d0_59 rfl ?_
    refine w.i2d d0_60 ?_
    refine w.dload d0_61 rfl ?_
    refine w.dmul d0_63 (OwnFp.nn (OwnFp.sofar OwnFp.scale1)) ?_
    refine w.dstore #[.val (.int i0), .val (.int k), .val (.int i2), .val (.int w0), .val (.ref a), .val (.int (0 : Int32)), .val (.int (0 : Int32)), .val (.double 4607182418800017408), .second, .val (.double (FP.dmul (FP.i2d k) 4607182418800017408)), .second, .unset, .unset, .unset, .unset, .unset, .unset] d0_64 rfl ?_
    refine w.aload d0_66 rfl rfl ?_
    refine w.dload d0_68 rfl ?_
    refine w.callV (argsL := [(.double (FP.dmul (FP.i2d k) 4607182418800017408))]) (rest := []) 0 d0_70 (tw hw 8 rfl) (tw hw 9 rfl) (tw hw 11 rfl) (tw hw 10 rfl) (tw hw 6 rfl) (tw hw 12 rfl) (by decide) Ea (rmRB0 l Z a0 hw a cc (FP.dmul (FP.i2d k) 4607182418800017408) h0 w.old G1 G2 (OwnFp.nn (OwnFp.shrinkV OwnFp.scale1)) (OwnFp.nnS OwnFp.scale1)) (lenOf pd_0 rfl) rfl rfl (Nat.le_refl _) ⟨by decide, by decide, by decide, by decide⟩ all0 ?_
    intro T h1 r w _ hQ
    obtain ⟨rfl, rfl⟩ := hQ
    show Go cx _ Z _ _ _ T 73 #[.val (.int i0), .val (.int k), .val (.int i2), .val (.int w0), .val (.ref a), .val (.int (0 : Int32)), .val (.int (0 : Int32)), .val (.double 4607182418800017408), .second, .val (.double (FP.dmul (FP.i2d k) 4607182418800017408)), .second, .unset, .unset, .unset, .unset, .unset, .unset] [(.double (FP.dadd (FP.dmul (FP.dmul (FP.i2d k) 4607182418800017408) 4607182423094984704) 103582791429521408))]
    refine w.dstore #[.val (.int i0), .val (.int k), .val (.int i2), .val (.int w0), .val (.ref a), .val (.int (0 : Int32)), .val (.int (0 : Int32)), .val (.double 4607182418800017408), .second, .val (.double (FP.dmul (FP.i2d k) 4607182418800017408)), .second, .val (.double (FP.dadd (FP.dmul (FP.dmul (FP.i2d k) 4607182418800017408) 4607182423094984704) 103582791429521408)), .second, .unset, .unset, .unset, .unset] d0_73 rfl ?_
    refine w.iloadN d0_75 rfl ?_
    refine w.i2l d0_76 ?_
    refine w.lstore #[.val (.int i0), .val (.int k), .val (.int i2), .val (.int w0), .val (.ref a), .val (.int (0 : Int32)), .val (.int (0 : Int32)), .val (.double 4607182418800017408), .second, .val (.double (FP.dmul (FP.i2d k) 4607182418800017408)), .second, .val (.double (FP.dadd (FP.dmul (FP.dmul (FP.i2d k) 4607182418800017408) 4607182423094984704) 103582791429521408)), .second, .val (.long k.toInt64), .second, .unset, .unset] d0_77 rfl ?_
    refine w.iload d0_79 rfl ?_
    refine w.ifEq d0_81 d0_81t (fun _ => ?_) (fun q => absurd rfl q)
    refine w.iloadN d0_103 rfl ?_
    refine w.ifNe d0_104 d0_104t (fun q2 => ?_) (fun q2 => ?_)
    · refine w.lload d0_115 rfl ?_
      refine w.ldc2J d0_117 (tw hw 32 rfl) ?_
      refine w.lmul d0_120 ?_
      refine w.l2d d0_121 ?_
      refine w.dload d0_122 rfl ?_
      refine w.dmul d0_124 (OwnFp.nn (OwnFp.expect1 (m := 1048577) OwnFp.scale1 (by decide) (by decide) (own_w1048577 k))) ?_
      refine w.ldc2D d0_125 (tw hw 21 rfl) ?_
      refine w.dmul d0_128 (OwnFp.nn (OwnFp.expect (m := 1048577) OwnFp.scale1 (by decide) (by decide) (own_w1048577 k))) ?_
      refine w.dstore #[.val (.int i0), .val (.int k), .val (.int i2), .val (.int w0), .val (.ref a), .val (.int (0 : Int32)), .val (.int (0 : Int32)), .val (.double 4607182418800017408), .second, .val (.double (FP.dmul (FP.i2d k) 4607182418800017408)), .second, .val (.double (FP.dadd (FP.dmul (FP.dmul (FP.i2d k) 4607182418800017408) 4607182423094984704) 103582791429521408)), .second, .val (.long k.toInt64), .second, .val (.double (FP.dmul (FP.dmul (FP.l2d (k.toInt64 * (1048577 : Int64))) 4607182418800017408) 4517110426252607488)), .second] d0_129 rfl ?_
      refine w.dload d0_131 rfl ?_
      refine w.dload d0_133 rfl ?_
      refine w.dcmp d0_135 ?_
      refine w.ifNe d0_136 d0_136t (fun q => absurd ((congrArg (fun o => cmpValue o .l) (OwnFp.shrink OwnFp.scale1 (own_nz q2) (own_w1048577 k))).trans rfl) q) (fun _ => ?_)
      refine w.iconst (1 : Int32) d0_139 rfl ?_
      refine w.goto d0_140 d0_140t ?_
      exact w.retN d0_144 rfl (by simp) rfl
    · refine w.ldc2D d0_107 (tw hw 47 rfl) ?_
      refine w.dstore #[.val (.int i0), .val (.int k), .val (.int i2), .val (.int w0), .val (.ref a), .val (.int (0 : Int32)), .val (.int (0 : Int32)), .val (.double 4607182418800017408), .second, .val (.double (FP.dmul (FP.i2d k) 4607182418800017408)), .second, .val (.double (FP.dadd (FP.dmul (FP.dmul (FP.i2d k) 4607182418800017408) 4607182423094984704) 103582791429521408)), .second, .val (.long k.toInt64), .second, .val (.double 103582791429521408), .second] d0_110 rfl ?_
      refine w.goto d0_112 d0_112t ?_
      refine w.dload d0_131 rfl ?_
      refine w.dload d0_133 rfl ?_
      refine w.dcmp d0_135 ?_
      refine w.ifNe d0_136 d0_136t (fun q => absurd (by subst q2; decide +kernel) q) (fun _ => ?_)
      refine w.iconst (1 : Int32) d0_139 rfl ?_
      refine w.goto d0_140 d0_140t ?_
      exact w.retN d0_144 rfl (by simp) rfl
  · refine w.iconst (1 : Int32) d0_38 rfl ?_
    refine w.goto d0_39 d0_39t ?_
    refine w.istore #[.val (.int i0), .val (.int k), .val (.int i2), .val (.int w0), .val (.ref a), .val (.int (0 : Int32)), .val (.int (1 : Int32)), .unset, .unset, .unset, .unset, .unset, .unset, .unset, .unset, .unset, .unset] d0_43 rfl ?_
    refine w.iload d0_45 rfl ?_
    refine w.ifEq d0_47 d0_47t (fun q => absurd q (by decide)) (fun _ => ?_)
    refine w.ldc2D d0_50 (tw hw 24 rfl) ?_
    refine w.goto d0_53 d0_53t ?_
    refine w.dstore #[.val (.int i0), .val (.int k), .val (.int i2), .val (.int w0), .val (.ref a), .val (.int (0 : Int32)), .val (.int (1 : Int32)), .val (.double 4467570830351532032), .second, .unset, .unset, .unset, .unset, .unset, .unset, .unset, .unset] d0_57 rfl ?_
    refine w.iloadN d0_59 rfl ?_
    refine w.i2d d0_60 ?_
    refine w.dload d0_61 rfl ?_
    refine w.dmul d0_63 (OwnFp.nn (OwnFp.sofar OwnFp.scale31)) ?_
    refine w.dstore #[.val (.int i0), .val (.int k), .val (.int i2), .val (.int w0), .val (.ref a), .val (.int (0 : Int32)), .val (.int (1 : Int32)), .val (.double 4467570830351532032), .second, .val (.double (FP.dmul (FP.i2d k) 4467570830351532032)), .second, .unset, .unset, .unset, .unset, .unset, .unset] d0_64 rfl ?_
    refine w.aload d0_66 rfl rfl ?_
    refine w.dload d0_68 rfl ?_
    refine w.callV (argsL := [(.double (FP.dmul (FP.i2d k) 4467570830351532032))]) (rest := []) 0 d0_70 (tw hw 8 rfl) (tw hw 9 rfl) (tw hw 11 rfl) (tw hw 10 rfl) (tw hw 6 rfl) (tw hw 12 rfl) (by decide) Ea (rmRB0 l Z a0 hw a cc (FP.dmul (FP.i2d k) 4467570830351532032) h0 w.old G1 G2 (OwnFp.nn (OwnFp.shrinkV OwnFp.scale31)) (OwnFp.nnS OwnFp.scale31)) (lenOf pd_0 rfl) rfl rfl (Nat.le_refl _) ⟨by decide, by decide, by decide, by decide⟩ all0 ?_
    intro T h2 r w _ hQ
    obtain ⟨rfl, rfl⟩ := hQ
    show Go cx _ Z _ _ _ T 73 #[.val (.int i0), .val (.int k), .val (.int i2), .val (.int w0), .val (.ref a), .val (.int (0 : Int32)), .val (.int (1 : Int32)), .val (.double 4467570830351532032), .second, .val (.double (FP.dmul (FP.i2d k) 4467570830351532032)), .second, .unset, .unset, .unset, .unset, .unset, .unset] [(.double (FP.dadd (FP.dmul (FP.dmul (FP.i2d k) 4467570830351532032) 4607182423094984704) 103582791429521408))]
    refine w.dstore #[.val (.int i0), .val (.int k), .val (.int i2), .val (.int w0), .val (.ref a), .val (.int (0 : Int32)), .val (.int (1 : Int32)), .val (.double 4467570830351532032), .second, .val (.double (FP.dmul (FP.i2d k) 4467570830351532032)), .second, .val (.double (FP.dadd (FP.dmul (FP.dmul (FP.i2d k) 4467570830351532032) 4607182423094984704) 103582791429521408)), .second, .unset, .unset, .unset, .unset] d0_73 rfl ?_
    refine w.iloadN d0_75 rfl ?_
    refine w.i2l d0_76 ?_
    refine w.lstore #[.val (.int i0), .val (.int k), .val (.int i2), .val (.int w0), .val (.ref a), .val (.int (0 : Int32)), .val (.int (1 : Int32)), .val (.double 4467570830351532032), .second, .val (.double (FP.dmul (FP.i2d k) 4467570830351532032)), .second, .val (.double (FP.dadd (FP.dmul (FP.dmul (FP.i2d k) 4467570830351532032) 4607182423094984704) 103582791429521408)), .second, .val (.long k.toInt64), .second, .unset, .unset] d0_77 rfl ?_
    refine w.iload d0_79 rfl ?_
    refine w.ifEq d0_81 d0_81t (fun _ => ?_) (fun q => absurd rfl q)
    refine w.iloadN d0_103 rfl ?_
    refine w.ifNe d0_104 d0_104t (fun q2 => ?_) (fun q2 => ?_)
    · refine w.lload d0_115 rfl ?_
      refine w.ldc2J d0_117 (tw hw 32 rfl) ?_
      refine w.lmul d0_120 ?_
      refine w.l2d d0_121 ?_
      refine w.dload d0_122 rfl ?_
      refine w.dmul d0_124 (OwnFp.nn (OwnFp.expect1 (m := 1048577) OwnFp.scale31 (by decide) (by decide) (own_w1048577 k))) ?_
      refine w.ldc2D d0_125 (tw hw 21 rfl) ?_
      refine w.dmul d0_128 (OwnFp.nn (OwnFp.expect (m := 1048577) OwnFp.scale31 (by decide) (by decide) (own_w1048577 k))) ?_
      refine w.dstore #[.val (.int i0), .val (.int k), .val (.int i2), .val (.int w0), .val (.ref a), .val (.int (0 : Int32)), .val (.int (1 : Int32)), .val (.double 4467570830351532032), .second, .val (.double (FP.dmul (FP.i2d k) 4467570830351532032)), .second, .val (.double (FP.dadd (FP.dmul (FP.dmul (FP.i2d k) 4467570830351532032) 4607182423094984704) 103582791429521408)), .second, .val (.long k.toInt64), .second, .val (.double (FP.dmul (FP.dmul (FP.l2d (k.toInt64 * (1048577 : Int64))) 4467570830351532032) 4517110426252607488)), .second] d0_129 rfl ?_
      refine w.dload d0_131 rfl ?_
      refine w.dload d0_133 rfl ?_
      refine w.dcmp d0_135 ?_
      refine w.ifNe d0_136 d0_136t (fun q => absurd ((congrArg (fun o => cmpValue o .l) (OwnFp.shrink OwnFp.scale31 (own_nz q2) (own_w1048577 k))).trans rfl) q) (fun _ => ?_)
      refine w.iconst (1 : Int32) d0_139 rfl ?_
      refine w.goto d0_140 d0_140t ?_
      exact w.retN d0_144 rfl (by simp) rfl
    · refine w.ldc2D d0_107 (tw hw 47 rfl) ?_
      refine w.dstore #[.val (.int i0), .val (.int k), .val (.int i2), .val (.int w0), .val (.ref a), .val (.int (0 : Int32)), .val (.int (1 : Int32)), .val (.double 4467570830351532032), .second, .val (.double (FP.dmul (FP.i2d k) 4467570830351532032)), .second, .val (.double (FP.dadd (FP.dmul (FP.dmul (FP.i2d k) 4467570830351532032) 4607182423094984704) 103582791429521408)), .second, .val (.long k.toInt64), .second, .val (.double 103582791429521408), .second] d0_110 rfl ?_
      refine w.goto d0_112 d0_112t ?_
      refine w.dload d0_131 rfl ?_
      refine w.dload d0_133 rfl ?_
      refine w.dcmp d0_135 ?_
      refine w.ifNe d0_136 d0_136t (fun q => absurd (by subst q2; decide +kernel) q) (fun _ => ?_)
      refine w.iconst (1 : Int32) d0_139 rfl ?_
      refine w.goto d0_140 d0_140t ?_
      exact w.retN d0_144 rfl (by simp) rfl

set_option maxRecDepth 65536 in
set_option maxHeartbeats 40000000 in
theorem rm0 (l : Launch) (Z : State) (a0 : Array Value) (hw : ∀ d ∈ tables_1, d.before a0 Z = true) (hn : narrow_1.value a0 Z none Z [] = some true) (i0 k i2 : Int32) (h0 : Heap) (hE : Ext Z.heap h0) :
    Ct false l Z [] x code maxLocals ret tables_1 room_1 [] #[(.int i0), (.int k), (.int i2)] h0 (fun v _ => v = some (.int 1)) := by
  refine Ct.intro pn_com_example_pathmeter_pathmeter_MetricReorderedBestPinLaw hE (fun m => ef0 m i0 k i2) nosf ⟨a0, own_EW hw⟩ ?_
  intro x T w
  refine w.iloadN d0_0 rfl ?_
  refine w.ldcI d0_1 (tw hw 0 rfl) ?_
  refine w.iand d0_3 ?_
  refine w.bipush (10 : Int32) d0_4 rfl ?_
  refine w.irem d0_6 (by decide) ?_
  refine w.istoreN #[.val (.int i0), .val (.int k), .val (.int i2), .val (.int ((i0 &&& (2147483647 : Int32)) % (10 : Int32))), .unset, .unset, .unset, .unset, .unset, .unset, .unset, .unset, .unset, .unset, .unset, .unset, .unset] d0_7 rfl ?_
  refine w.iloadN d0_8 rfl ?_
  refine w.callS (argsL := [(.int ((i0 &&& (2147483647 : Int32)) % (10 : Int32)))]) (rest := []) 0 d0_9 (tw hw 1 rfl) (tw hw 2 rfl) (tw hw 3 rfl) (tw hw 4 rfl) (by decide) (rmPick l Z a0 hw hn ((i0 &&& (2147483647 : Int32)) % (10 : Int32)) (own_ten i0) h0 w.old) (lenOf pd_1 rfl) rfl rfl (Nat.le_refl _) ⟨by decide, by decide, by decide, by decide⟩ all0 ?_
  intro T h1 r w _ hQ
  obtain ⟨a, cc, g, rfl, Ea, G1, G2, hg, rfl⟩ := hQ
  show Go x _ Z _ _ _ T 12 #[.val (.int i0), .val (.int k), .val (.int i2), .val (.int ((i0 &&& (2147483647 : Int32)) % (10 : Int32))), .unset, .unset, .unset, .unset, .unset, .unset, .unset, .unset, .unset, .unset, .unset, .unset, .unset] [(.ref a)]
  refine w.astore #[.val (.int i0), .val (.int k), .val (.int i2), .val (.int ((i0 &&& (2147483647 : Int32)) % (10 : Int32))), .val (.ref a), .unset, .unset, .unset, .unset, .unset, .unset, .unset, .unset, .unset, .unset, .unset, .unset] d0_12 rfl rfl ?_
  refine w.iloadN d0_14 rfl ?_
  refine w.iconst (5 : Int32) d0_15 rfl ?_
  refine w.icmpEq d0_16 d0_16t (fun q1 => ?_) (fun q1 => ?_)
  · refine w.iconst (0 : Int32) d0_29 rfl ?_
    refine w.istore #[.val (.int i0), .val (.int k), .val (.int i2), .val (.int ((i0 &&& (2147483647 : Int32)) % (10 : Int32))), .val (.ref a), .val (.int (0 : Int32)), .unset, .unset, .unset, .unset, .unset, .unset, .unset, .unset, .unset, .unset, .unset] d0_30 rfl ?_
    obtain ⟨rfl, -⟩ := hg.resolve_right (fun e => e.2.1 q1)
    exact p32_0 l Z a0 hw i0 k i2 _ a cc h0 Ea G1 G2 x T w
  · refine w.iloadN d0_19 rfl ?_
    refine w.bipush (9 : Int32) d0_20 rfl ?_
    refine w.icmpEq d0_22 d0_22t (fun q2 => ?_) (fun q2 => ?_)
    · refine w.iconst (0 : Int32) d0_29 rfl ?_
      refine w.istore #[.val (.int i0), .val (.int k), .val (.int i2), .val (.int ((i0 &&& (2147483647 : Int32)) % (10 : Int32))), .val (.ref a), .val (.int (0 : Int32)), .unset, .unset, .unset, .unset, .unset, .unset, .unset, .unset, .unset, .unset, .unset] d0_30 rfl ?_
      obtain ⟨rfl, -⟩ := hg.resolve_right (fun e => e.2.2 q2)
      exact p32_0 l Z a0 hw i0 k i2 _ a cc h0 Ea G1 G2 x T w
    · refine w.iconst (1 : Int32) d0_25 rfl ?_
      refine w.goto d0_26 d0_26t ?_
      refine w.istore #[.val (.int i0), .val (.int k), .val (.int i2), .val (.int ((i0 &&& (2147483647 : Int32)) % (10 : Int32))), .val (.ref a), .val (.int (1 : Int32)), .unset, .unset, .unset, .unset, .unset, .unset, .unset, .unset, .unset, .unset, .unset] d0_30 rfl ?_
      obtain ⟨rfl, -⟩ := hg.resolve_left (fun e => e.2.elim q1 q2)
      exact p32_1 l Z a0 hw i0 k i2 _ a cc h0 Ea G1 G2 x T w

set_option maxRecDepth 65536 in
set_option maxHeartbeats 40000000 in
theorem comes_1 {Post : Tables → Env → Array Value → State → Outcome → State → Prop} (hpost : ∀ tb e args s v u, (limb_1_1.after args s (.returned v) u = true ∧ limb_1_2.after args s (.returned v) u = true) → FrameEnd s (.returned v) u (Jvm.fieldLocs frame_1_writes args s ++ Jvm.arrayLocs frame_1_arrays args s ++ Jvm.staticLocs frame_1_statics s) 0 0 → Post tb e args s (.returned v) u) :
    ArmFor flags0 classFile x code maxLocals ret World_1 tables_1 room_1 Calls_1 rest_1 Pre_1 Post := by
  intro l hfl _ _ p e ha hc hk s m args below hf hA hF happ hP
  obtain ⟨hcalls, hrest, hpre⟩ := hP
  obtain ⟨-, -, -, hnamed, -, -, -, hat⟩ := (Spec.applies_iff hf).mp happ
  obtain ⟨hg, hn⟩ := and_e (Cond.before_iff.mp (show (Jvm.Cond.and given_1 narrow_1).before args s = true from hpre))
  obtain ⟨hc0, hg⟩ := and_e hg
  obtain ⟨w0, w1, w2, rfl⟩ : ∃ w0 w1 w2 : Value, args = #[w0, w1, w2] := by
    have hs : args.size = 3 := by simpa [Cond.value] using hc0
    obtain ⟨L⟩ := args
    match L, hs with
    | [w0, w1, w2], _ => exact ⟨w0, w1, w2, rfl⟩
  have hw := fun d (hd : d ∈ tables_1) => atoms_spec (ws := Jvm.Cond.code x code maxLocals ret :: tables_1) hat d (List.mem_cons_of_mem _ hd)
  have hfit : Fit s := fit_of hF
  obtain ⟨hg0, hg⟩ := and_e hg
  obtain ⟨i0, e0⟩ := is_v hg0
  obtain rfl : w0 = (.int i0) := Option.some.inj e0
  obtain ⟨hg1, hg⟩ := and_e hg
  obtain ⟨i1, e1⟩ := is_v hg1
  obtain rfl : w1 = (.int i1) := Option.some.inj e1
  obtain ⟨i2, e2⟩ := is_v hg
  obtain rfl : w2 = (.int i2) := Option.some.inj e2
  obtain ⟨n, o, h1, h2, h3, _, L, rfl, ⟨rfl, N, -, -⟩, hq⟩ := rm0 l s _ hw hn i0 i1 i2 s.heap (ext_refl _) p e ha hc hk s m _ below hf ((Spec.applies_iff_loose hf).mp happ).1 ⟨rfl, State.Warmed39.refl s, rfl, fun q => by cases q⟩ trivial
  refine ⟨n, _, h1, h2, h3, hpost _ _ _ _ _ _ ⟨Cond.after_iff.mpr rfl, Cond.after_iff.mpr (eq_i res_at (Term.int_eval (1)) rfl)⟩ ⟨hq.1, hq.2.1, (hq.2.2.sift fun y hy => Or.inr (N y hy)).mono (by decide) (by decide)⟩⟩
theorem main_1_1 : Claimed_1_1 := comes_1 fun _ _ _ _ _ _ h hF => ⟨h.1, hF⟩
theorem main_1_2 : Claimed_1_2 := comes_1 fun _ _ _ _ _ _ h hF => ⟨h.2, hF⟩
end Jvm.Pilot.@@N@@
namespace Jvm.Pilot.@@N@@
open Jvm Jvm.ClassFile Sem Op Lib Jvm.Free Jvm.Stand Jvm.Pilot.@@N@@.Jvm.D
/-! MADE BY PROGRAM (witnessworld.py) out of the Statement's table words and the real class files: 13 classes; the members and pool entries that the words name. The judged class is class 1, her method 2. -/
namespace start1
open Jvm.ClassFile
def u (s : String) : CpInfo := .utf8 (stringToUtf16 s)
/-- a pool by its gaps: so many unusable entries, then the entry; so many at the end -/
def gap : Nat → List CpInfo → List CpInfo
  | 0, r => r
  | n + 1, r => .unusable :: gap n r
def poolList (es : List (Nat × CpInfo)) (last : Nat) : List CpInfo := es.foldr (fun e r => gap e.1 (e.2 :: r)) (gap last [])
def pool (es : List (Nat × CpInfo)) (last : Nat) : Array CpInfo := ⟨poolList es last⟩
def fileOf (pool : Array CpInfo) (this : Nat) (attrs : Array Attribute := #[]) (ms : Array MethodInfo := #[]) (fl : Nat := 33) (sup : Nat := 0) (ifs : Array Nat := #[]) (fds : Array FieldInfo := #[]) : ClassFile where
  minorVersion := 0
  majorVersion := 65
  constantPool := pool
  accessFlags := fl
  thisClass := this
  superClass := sup
  interfaces := ifs
  fields := fds
  methods := ms
  attributes := attrs
def plain (name : String) (sup : Option ClassId) : Class where
  name := name
  kind := .ordinary
  loader := none
  accessFlags := 33
  super := sup
  interfaces := #[]
  cf := none
  fields := #[]
  methods := #[]
  instanceTypes := #[]
  staticTypes := #[]
  resolved := #[]
  callSites := []
  init := .initialized
  statics := none
  mirror := none

def pool0 : Array CpInfo := pool [(5, u "<init>"), (0, u "()V"), (1, .class_ 10), (1, u "java/lang/Object")] 113

def k0m0 : Method := { name := "<init>", desc := "()V", sig := { parameters := [], returnType := none }, accessFlags := 1, code := none }
/-- java/lang/Object -/
def k0 : Class := { plain "java/lang/Object" none with
  accessFlags := 33
  interfaces := #[]
  cf := some (fileOf pool0 8 #[] #[{ accessFlags := 1, nameIndex := 5, descriptorIndex := 6, attributes := #[] }] 33 0 #[] #[])
  fields := #[]
  methods := #[k0m0]
  instanceTypes := #[]
  staticTypes := #[]
  resolved := Array.replicate 124 none
  statics := none }

def pool1 : Array CpInfo := pool [(2, .class_ 4), (1, u "java/lang/Object"), (0, u "<init>"), (0, u "()V"), (0, .fieldref 8 9), (0, .class_ 10), (0, .nameAndType 11 12), (0, u "com/example/pathmeter/pathmeter/Metric"), (0, u "IGP_METRIC"), (0, u "Lcom/example/pathmeter/pathmeter/Metric;"), (0, .fieldref 8 14), (0, .nameAndType 15 12), (0, u "TE_METRIC"), (0, .fieldref 8 17), (0, .nameAndType 18 12), (0, u "HOP_COUNT"), (0, .fieldref 8 20), (0, .nameAndType 21 12), (0, u "DELAY_US"), (0, .fieldref 8 23), (0, .nameAndType 24 12), (0, u "DELAY_VARIATION_US"), (0, .fieldref 8 26), (0, .nameAndType 27 12), (0, u "LOSS_PCT"), (0, .fieldref 8 29), (0, .nameAndType 30 12), (0, u "MAX_LBU_PCT"), (0, .fieldref 8 32), (0, .nameAndType 33 12), (0, u "MAX_LRBU_PCT"), (0, .fieldref 8 35), (0, .nameAndType 36 12), (0, u "MAX_RESERVED_PCT"), (0, .fieldref 8 38), (0, .nameAndType 39 12), (0, u "MIN_RESIDUAL_BW"), (0, .integer 2147483647), (0, .methodref 42 43), (0, .class_ 44), (0, .nameAndType 45 46), (0, u "com/example/pathmeter/pathmeter/MetricReorderedBestPinLaw"), (0, u "pick"), (0, u "(I)Lcom/example/pathmeter/pathmeter/Metric;"), (0, .double 4467570830351532032), (1, .methodref 8 50), (0, .nameAndType 51 52), (0, u "reorderedBest"), (0, u "(D)D"), (0, .long 1048575), (1, .double 4517110426252607488), (1, .double 103582791429521408), (1, .long 1048577), (4, u "law"), (0, u "(III)Z")] 2

def k1m0 : Method := { name := "<init>", desc := "()V", sig := { parameters := [], returnType := none }, accessFlags := 2, code := none }
def k1c1 : Code := { maxStack := 2, maxLocals := 1, code := method_2_code, exceptionTable := #[], attributes := #[] }
def k1m1 : Method := { name := "pick", desc := "(I)Lcom/example/pathmeter/pathmeter/Metric;", sig := { parameters := [.int], returnType := some (.object "com/example/pathmeter/pathmeter/Metric") }, accessFlags := 10, code := some k1c1 }
def k1c2 : Code := { maxStack := 4, maxLocals := 17, code := code, exceptionTable := #[], attributes := #[] }
def k1m2 : Method := { name := "law", desc := "(III)Z", sig := { parameters := [.int, .int, .int], returnType := some .boolean }, accessFlags := 9, code := some k1c2 }
/-- com/example/pathmeter/pathmeter/MetricReorderedBestPinLaw -/
def k1 : Class := { plain "com/example/pathmeter/pathmeter/MetricReorderedBestPinLaw" (some 0) with
  accessFlags := 49
  interfaces := #[]
  cf := some (fileOf pool1 42 #[] #[{ accessFlags := 2, nameIndex := 5, descriptorIndex := 6, attributes := #[] }, { accessFlags := 10, nameIndex := 45, descriptorIndex := 46, attributes := #[] }, { accessFlags := 9, nameIndex := 64, descriptorIndex := 65, attributes := #[] }] 49 2 #[] #[])
  fields := #[]
  methods := #[k1m0, k1m1, k1m2]
  instanceTypes := #[]
  staticTypes := #[]
  resolved := Array.replicate 68 none
  statics := none }

def pool2 : Array CpInfo := pool [(1, .class_ 2), (0, u "java/lang/constant/Constable"), (0, .class_ 4), (0, u "java/lang/Object")] 6

/-- java/lang/constant/Constable -/
def k2 : Class := { plain "java/lang/constant/Constable" (some 0) with
  accessFlags := 1537
  interfaces := #[]
  cf := some (fileOf pool2 1 #[] #[] 1537 3 #[] #[])
  fields := #[]
  methods := #[]
  instanceTypes := #[]
  staticTypes := #[]
  resolved := Array.replicate 11 none
  statics := none }

def pool3 : Array CpInfo := pool [(1, .class_ 2), (0, u "java/lang/Comparable"), (0, .class_ 4), (0, u "java/lang/Object")] 7

/-- java/lang/Comparable -/
def k3 : Class := { plain "java/lang/Comparable" (some 0) with
  accessFlags := 1537
  interfaces := #[]
  cf := some (fileOf pool3 1 #[] #[] 1537 3 #[] #[])
  fields := #[]
  methods := #[]
  instanceTypes := #[]
  staticTypes := #[]
  resolved := Array.replicate 12 none
  statics := none }

def pool4 : Array CpInfo := pool [(1, .class_ 2), (0, u "java/io/Serializable"), (0, .class_ 4), (0, u "java/lang/Object")] 2

/-- java/io/Serializable -/
def k4 : Class := { plain "java/io/Serializable" (some 0) with
  accessFlags := 1537
  interfaces := #[]
  cf := some (fileOf pool4 1 #[] #[] 1537 3 #[] #[])
  fields := #[]
  methods := #[]
  instanceTypes := #[]
  staticTypes := #[]
  resolved := Array.replicate 7 none
  statics := none }

def pool5 : Array CpInfo := pool [(2, .class_ 4), (1, u "java/lang/Enum"), (0, u "name"), (0, u "Ljava/lang/String;"), (2, u "ordinal"), (0, u "I"), (1, .class_ 14), (1, u "java/lang/Object"), (4, u "hash"), (86, .class_ 108), (1, u "java/lang/Enum$EnumDesc"), (2, .class_ 112), (0, u "java/lang/constant/Constable"), (0, .class_ 114), (0, u "java/lang/Comparable"), (0, .class_ 116), (0, u "java/io/Serializable")] 87

/-- java/lang/Enum -/
def k5 : Class := { plain "java/lang/Enum" (some 0) with
  accessFlags := 1057
  interfaces := #[2, 3, 4]
  cf := some (fileOf pool5 2 #[.nestMembers #[106]] #[] 1057 12 #[111, 113, 115] #[{ accessFlags := 18, nameIndex := 5, descriptorIndex := 6, attributes := #[] }, { accessFlags := 18, nameIndex := 9, descriptorIndex := 10, attributes := #[] }, { accessFlags := 2, nameIndex := 19, descriptorIndex := 10, attributes := #[] }])
  fields := #[{ name := "name", type := (.object "java/lang/String"), accessFlags := 18, slot := 0, constantValue := 0 }, { name := "ordinal", type := .int, accessFlags := 18, slot := 1, constantValue := 0 }, { name := "hash", type := .int, accessFlags := 2, slot := 2, constantValue := 0 }]
  methods := #[]
  instanceTypes := #[(.object "java/lang/String"), .int, .int]
  staticTypes := #[]
  resolved := Array.replicate 204 none
  statics := none }

def pool6 : Array CpInfo := pool [(1, .class_ 2), (0, u "com/example/pathmeter/pathmeter/Metric"), (2, u "IGP_METRIC"), (0, u "Lcom/example/pathmeter/pathmeter/Metric;"), (2, u "TE_METRIC"), (2, u "HOP_COUNT"), (2, u "DELAY_US"), (2, u "DELAY_VARIATION_US"), (2, u "LOSS_PCT"), (2, u "MAX_LBU_PCT"), (2, u "MAX_LRBU_PCT"), (2, u "MAX_RESERVED_PCT"), (2, u "MIN_RESIDUAL_BW"), (2, u "$VALUES"), (0, u "[Lcom/example/pathmeter/pathmeter/Metric;"), (6, .class_ 46), (1, u "java/lang/Enum"), (6, u "key"), (27, u "Ljava/lang/String;"), (2, u "linkValue"), (0, u "Ljava/util/function/ToDoubleFunction;"), (2, u "pcepType"), (0, u "Ljava/util/OptionalInt;"), (0, .fieldref 1 91), (0, .nameAndType 92 93), (0, u "composition"), (0, u "Lcom/example/pathmeter/pathmeter/Metric$Composition;"), (27, .class_ 123), (1, u "com/example/pathmeter/pathmeter/Metric$Composition"), (1, u "Z"), (42, u "(D)D"), (5, u "D"), (21, .fieldref 121 197), (0, .nameAndType 198 125), (0, u "growing"), (0, .double 4607182410210082816), (1, .double 4607182423094984704), (1, .double 103582791429521408), (100, u "REORDER_SHARE"), (3, u "REORDER_FLOOR"), (22, u "reorderedBest")] 52

def k6c0 : Code := { maxStack := 4, maxLocals := 3, code := prog_4_method_19_code, exceptionTable := #[], attributes := #[] }
def k6m0 : Method := { name := "reorderedBest", desc := "(D)D", sig := { parameters := [.double], returnType := some .double }, accessFlags := 0, code := some k6c0 }
/-- com/example/pathmeter/pathmeter/Metric -/
def k6 : Class := { plain "com/example/pathmeter/pathmeter/Metric" (some 5) with
  accessFlags := 16433
  interfaces := #[]
  cf := some (fileOf pool6 1 #[.nestMembers #[121]] #[{ accessFlags := 0, nameIndex := 331, descriptorIndex := 168, attributes := #[] }] 16433 44 #[] #[{ accessFlags := 16409, nameIndex := 5, descriptorIndex := 6, attributes := #[] }, { accessFlags := 16409, nameIndex := 9, descriptorIndex := 6, attributes := #[] }, { accessFlags := 16409, nameIndex := 12, descriptorIndex := 6, attributes := #[] }, { accessFlags := 16409, nameIndex := 15, descriptorIndex := 6, attributes := #[] }, { accessFlags := 16409, nameIndex := 18, descriptorIndex := 6, attributes := #[] }, { accessFlags := 16409, nameIndex := 21, descriptorIndex := 6, attributes := #[] }, { accessFlags := 16409, nameIndex := 24, descriptorIndex := 6, attributes := #[] }, { accessFlags := 16409, nameIndex := 27, descriptorIndex := 6, attributes := #[] }, { accessFlags := 16409, nameIndex := 30, descriptorIndex := 6, attributes := #[] }, { accessFlags := 16409, nameIndex := 33, descriptorIndex := 6, attributes := #[] }, { accessFlags := 26, nameIndex := 304, descriptorIndex := 174, attributes := #[] }, { accessFlags := 26, nameIndex := 308, descriptorIndex := 174, attributes := #[] }, { accessFlags := 18, nameIndex := 53, descriptorIndex := 81, attributes := #[] }, { accessFlags := 18, nameIndex := 84, descriptorIndex := 85, attributes := #[] }, { accessFlags := 18, nameIndex := 88, descriptorIndex := 89, attributes := #[] }, { accessFlags := 18, nameIndex := 92, descriptorIndex := 93, attributes := #[] }, { accessFlags := 4122, nameIndex := 36, descriptorIndex := 37, attributes := #[] }])
  fields := #[{ name := "IGP_METRIC", type := (.object "com/example/pathmeter/pathmeter/Metric"), accessFlags := 16409, slot := 0, constantValue := 0 }, { name := "TE_METRIC", type := (.object "com/example/pathmeter/pathmeter/Metric"), accessFlags := 16409, slot := 1, constantValue := 0 }, { name := "HOP_COUNT", type := (.object "com/example/pathmeter/pathmeter/Metric"), accessFlags := 16409, slot := 2, constantValue := 0 }, { name := "DELAY_US", type := (.object "com/example/pathmeter/pathmeter/Metric"), accessFlags := 16409, slot := 3, constantValue := 0 }, { name := "DELAY_VARIATION_US", type := (.object "com/example/pathmeter/pathmeter/Metric"), accessFlags := 16409, slot := 4, constantValue := 0 }, { name := "LOSS_PCT", type := (.object "com/example/pathmeter/pathmeter/Metric"), accessFlags := 16409, slot := 5, constantValue := 0 }, { name := "MAX_LBU_PCT", type := (.object "com/example/pathmeter/pathmeter/Metric"), accessFlags := 16409, slot := 6, constantValue := 0 }, { name := "MAX_LRBU_PCT", type := (.object "com/example/pathmeter/pathmeter/Metric"), accessFlags := 16409, slot := 7, constantValue := 0 }, { name := "MAX_RESERVED_PCT", type := (.object "com/example/pathmeter/pathmeter/Metric"), accessFlags := 16409, slot := 8, constantValue := 0 }, { name := "MIN_RESIDUAL_BW", type := (.object "com/example/pathmeter/pathmeter/Metric"), accessFlags := 16409, slot := 9, constantValue := 0 }, { name := "REORDER_SHARE", type := .double, accessFlags := 26, slot := 10, constantValue := 0 }, { name := "REORDER_FLOOR", type := .double, accessFlags := 26, slot := 11, constantValue := 0 }, { name := "key", type := (.object "java/lang/String"), accessFlags := 18, slot := 3, constantValue := 0 }, { name := "linkValue", type := (.object "java/util/function/ToDoubleFunction"), accessFlags := 18, slot := 4, constantValue := 0 }, { name := "pcepType", type := (.object "java/util/OptionalInt"), accessFlags := 18, slot := 5, constantValue := 0 }, { name := "composition", type := (.object "com/example/pathmeter/pathmeter/Metric$Composition"), accessFlags := 18, slot := 6, constantValue := 0 }, { name := "$VALUES", type := (.array (.object "com/example/pathmeter/pathmeter/Metric")), accessFlags := 4122, slot := 12, constantValue := 0 }]
  methods := #[k6m0]
  instanceTypes := #[(.object "java/lang/String"), .int, .int, (.object "java/lang/String"), (.object "java/util/function/ToDoubleFunction"), (.object "java/util/OptionalInt"), (.object "com/example/pathmeter/pathmeter/Metric$Composition")]
  staticTypes := #[(.object "com/example/pathmeter/pathmeter/Metric"), (.object "com/example/pathmeter/pathmeter/Metric"), (.object "com/example/pathmeter/pathmeter/Metric"), (.object "com/example/pathmeter/pathmeter/Metric"), (.object "com/example/pathmeter/pathmeter/Metric"), (.object "com/example/pathmeter/pathmeter/Metric"), (.object "com/example/pathmeter/pathmeter/Metric"), (.object "com/example/pathmeter/pathmeter/Metric"), (.object "com/example/pathmeter/pathmeter/Metric"), (.object "com/example/pathmeter/pathmeter/Metric"), .double, .double, (.array (.object "com/example/pathmeter/pathmeter/Metric"))]
  resolved := (Array.replicate 384 none).setIfInBounds 196 (some (.field 7 8))
  statics := some 0 }

def pool7 : Array CpInfo := pool [(1, .class_ 2), (0, u "com/example/pathmeter/pathmeter/Metric$Composition"), (2, u "SUM"), (0, u "Lcom/example/pathmeter/pathmeter/Metric$Composition;"), (2, u "LOSS"), (2, u "MAX"), (2, u "MIN"), (2, u "$VALUES"), (0, u "[Lcom/example/pathmeter/pathmeter/Metric$Composition;"), (6, .class_ 28), (1, u "java/lang/Enum"), (8, u "start"), (0, u "D"), (2, u "step"), (0, u "Ljava/util/function/DoubleUnaryOperator;"), (2, u "add"), (0, u "Ljava/util/function/DoubleBinaryOperator;"), (2, u "finish"), (2, u "growing"), (0, u "Z"), (2, u "valueGrowing"), (2, u "exact"), (60, .class_ 121), (0, u "com/example/pathmeter/pathmeter/Metric")] 58

/-- com/example/pathmeter/pathmeter/Metric$Composition -/
def k7 : Class := { plain "com/example/pathmeter/pathmeter/Metric$Composition" (some 5) with
  accessFlags := 16432
  interfaces := #[]
  cf := some (fileOf pool7 1 #[.nestHost 120] #[] 16432 26 #[] #[{ accessFlags := 16409, nameIndex := 5, descriptorIndex := 6, attributes := #[] }, { accessFlags := 16409, nameIndex := 9, descriptorIndex := 6, attributes := #[] }, { accessFlags := 16409, nameIndex := 12, descriptorIndex := 6, attributes := #[] }, { accessFlags := 16409, nameIndex := 15, descriptorIndex := 6, attributes := #[] }, { accessFlags := 18, nameIndex := 37, descriptorIndex := 38, attributes := #[] }, { accessFlags := 18, nameIndex := 41, descriptorIndex := 42, attributes := #[] }, { accessFlags := 18, nameIndex := 45, descriptorIndex := 46, attributes := #[] }, { accessFlags := 18, nameIndex := 49, descriptorIndex := 42, attributes := #[] }, { accessFlags := 18, nameIndex := 52, descriptorIndex := 53, attributes := #[] }, { accessFlags := 18, nameIndex := 56, descriptorIndex := 53, attributes := #[] }, { accessFlags := 18, nameIndex := 59, descriptorIndex := 53, attributes := #[] }, { accessFlags := 4122, nameIndex := 18, descriptorIndex := 19, attributes := #[] }])
  fields := #[{ name := "SUM", type := (.object "com/example/pathmeter/pathmeter/Metric$Composition"), accessFlags := 16409, slot := 0, constantValue := 0 }, { name := "LOSS", type := (.object "com/example/pathmeter/pathmeter/Metric$Composition"), accessFlags := 16409, slot := 1, constantValue := 0 }, { name := "MAX", type := (.object "com/example/pathmeter/pathmeter/Metric$Composition"), accessFlags := 16409, slot := 2, constantValue := 0 }, { name := "MIN", type := (.object "com/example/pathmeter/pathmeter/Metric$Composition"), accessFlags := 16409, slot := 3, constantValue := 0 }, { name := "start", type := .double, accessFlags := 18, slot := 3, constantValue := 0 }, { name := "step", type := (.object "java/util/function/DoubleUnaryOperator"), accessFlags := 18, slot := 4, constantValue := 0 }, { name := "add", type := (.object "java/util/function/DoubleBinaryOperator"), accessFlags := 18, slot := 5, constantValue := 0 }, { name := "finish", type := (.object "java/util/function/DoubleUnaryOperator"), accessFlags := 18, slot := 6, constantValue := 0 }, { name := "growing", type := .boolean, accessFlags := 18, slot := 7, constantValue := 0 }, { name := "valueGrowing", type := .boolean, accessFlags := 18, slot := 8, constantValue := 0 }, { name := "exact", type := .boolean, accessFlags := 18, slot := 9, constantValue := 0 }, { name := "$VALUES", type := (.array (.object "com/example/pathmeter/pathmeter/Metric$Composition")), accessFlags := 4122, slot := 4, constantValue := 0 }]
  methods := #[]
  instanceTypes := #[(.object "java/lang/String"), .int, .int, .double, (.object "java/util/function/DoubleUnaryOperator"), (.object "java/util/function/DoubleBinaryOperator"), (.object "java/util/function/DoubleUnaryOperator"), .boolean, .boolean, .boolean]
  staticTypes := #[(.object "com/example/pathmeter/pathmeter/Metric$Composition"), (.object "com/example/pathmeter/pathmeter/Metric$Composition"), (.object "com/example/pathmeter/pathmeter/Metric$Composition"), (.object "com/example/pathmeter/pathmeter/Metric$Composition"), (.array (.object "com/example/pathmeter/pathmeter/Metric$Composition"))]
  resolved := Array.replicate 180 none
  statics := some 1 }

def pool8 : Array CpInfo := pool [(1, u "java/lang/Cloneable"), (0, .class_ 1), (0, u "java/lang/Object"), (0, .class_ 3)] 3

/-- java/lang/Cloneable -/
def k8 : Class := { plain "java/lang/Cloneable" (some 0) with
  accessFlags := 1537
  interfaces := #[]
  cf := some (fileOf pool8 2 #[] #[] 1537 4 #[] #[])
  fields := #[]
  methods := #[]
  instanceTypes := #[]
  staticTypes := #[]
  resolved := Array.replicate 8 none
  statics := none }

/-- the primitive byte -/
def k9 : Class := { plain "byte" none with kind := .primitive 'B', accessFlags := 0x411 }
/-- [B -/
def k10 : Class := { plain "[B" (some 0) with kind := .array 9 .byte, interfaces := #[8, 4], accessFlags := 1041 }

/-- the primitive int -/
def k11 : Class := { plain "int" none with kind := .primitive 'I', accessFlags := 0x411 }
/-- [I -/
def k12 : Class := { plain "[I" (some 0) with kind := .array 11 .int, interfaces := #[8, 4], accessFlags := 1041 }

def heap : Heap := #[{ cls := 6, slots := #[.ref 2, .ref 4, .ref 15, .ref 10, .ref 5, .ref 6, .ref 11, .ref 12, .ref 8, .ref 13, .double 0, .double 0, .null], vm := .statics 6 },
  { cls := 7, slots := #[.ref 3, .ref 7, .ref 9, .ref 14, .null], vm := .statics 7 },
  { cls := 6, slots := #[.null, .int 0, .int 0, .null, .null, .null, .ref 3], vm := .none },
  { cls := 7, slots := #[.null, .int 0, .int 0, .double 0, .null, .null, .null, .int 1, .int 0, .int 0], vm := .none },
  { cls := 6, slots := #[.null, .int 0, .int 0, .null, .null, .null, .ref 3], vm := .none },
  { cls := 6, slots := #[.null, .int 0, .int 0, .null, .null, .null, .ref 3], vm := .none },
  { cls := 6, slots := #[.null, .int 0, .int 0, .null, .null, .null, .ref 7], vm := .none },
  { cls := 7, slots := #[.null, .int 0, .int 0, .double 0, .null, .null, .null, .int 0, .int 0, .int 0], vm := .none },
  { cls := 6, slots := #[.null, .int 0, .int 0, .null, .null, .null, .ref 9], vm := .none },
  { cls := 7, slots := #[.null, .int 0, .int 0, .double 0, .null, .null, .null, .int 1, .int 0, .int 0], vm := .none },
  { cls := 6, slots := #[.null, .int 0, .int 0, .null, .null, .null, .ref 3], vm := .none },
  { cls := 6, slots := #[.null, .int 0, .int 0, .null, .null, .null, .ref 9], vm := .none },
  { cls := 6, slots := #[.null, .int 0, .int 0, .null, .null, .null, .ref 9], vm := .none },
  { cls := 6, slots := #[.null, .int 0, .int 0, .null, .null, .null, .ref 14], vm := .none },
  { cls := 7, slots := #[.null, .int 0, .int 0, .double 0, .null, .null, .null, .int 0, .int 0, .int 0], vm := .none },
  { cls := 6, slots := #[.null, .int 0, .int 0, .null, .null, .null, .ref 3], vm := .none }]
def classes : Array Class := #[k0, k1, k2, k3, k4, k5, k6, k7, k8, k9, k10, k11, k12]
def interned : List (Array UInt16 × Addr) := []
def slotsUsed : Nat := 128
def theMethod : MethodId := ⟨1, 2⟩
def args0 : Array Value := #[.int 3, .int 7, .int 1]
def aboutOver (below : List Frame) : State where
  vm := { classes := classes, interned := interned.toArray }
  heap := heap
  slotsUsed := slotsUsed
  threads := #[{ frames := .invoking theMethod args0 :: below }]
def below0 : List Frame := [.native { method := ⟨0, 0⟩, args := #[] }]
def about1 : State := aboutOver below0
def p0 : Program := .bare "" "" ""
def e0 : Env := launch0.env 0 0 0
theorem w_frames : about1.frames = Frame.invoking theMethod args0 :: below0 := rfl
set_option maxRecDepth 65536 in
theorem w_args : argsFit about1.vm theMethod args0 = true := by decide +kernel
set_option maxRecDepth 65536 in
theorem w_heap : heapFits about1 = true := by decide +kernel
set_option maxRecDepth 65536 in
theorem w_runnable : about1.curStatus? = some .runnable := by decide +kernel
set_option maxRecDepth 65536 in
theorem w_alone : about1.alone = true := by decide +kernel
set_option maxRecDepth 65536 in
theorem w_named : about1.methodNamed? x = some theMethod := by decide +kernel
set_option maxRecDepth 65536 in
theorem w_hears : about1.hears theMethod below0 = true := by decide +kernel
set_option maxRecDepth 65536 in
theorem w_ripe : about1.ripe theMethod args0 below0 = true := by decide +kernel
theorem w_running : about1.status = .running := rfl
set_option maxRecDepth 65536 in
theorem w_room : about1.hasRoom e0.platform room_1 = true :=
  launch0.hasRoom_least _ room_1 (by decide +kernel) (by decide +kernel) (by decide +kernel) (by decide +kernel) (by decide +kernel) (by decide +kernel)
theorem allAtoms_all (ts : List Jvm.Cond) (a : Array Jvm.Value) (st : Jvm.State) : (allAtoms ts).before a st = ts.all (fun c => c.before a st) := by
  induction ts with
  | nil => rfl
  | cons c t ih =>
    show (Jvm.Cond.and c (allAtoms t)).before a st = _
    rw [Jvm.Cond.before_and, ih, List.all_cons]
def words1 : List Jvm.Cond := Jvm.Cond.code x code maxLocals ret :: tables_1
/-- a 'code' word, met by the world's own term for the bytes: nothing is compared byte by byte -/
theorem code_word {y : MethodName} {bytes : ByteArray} {mx : Nat} {rt : Option FieldType} {a : Array Value} {s : State} {m : MethodId} {meth : Method} {c : Code} (h1 : s.methodNamed? y = some m) (h2 : s.vm.method? m = some meth) (h3 : meth.code = some c) (h4 : c.code = bytes)
    (h5 : (c.maxLocals == mx && c.exceptionTable.isEmpty && decide (c.maxStack ≤ mostOperands) && decide (meth.sig.returnType = rt) && !meth.locks && decide (parseMethodDescriptor y.desc = some meth.sig)) = true) : (Jvm.Cond.code y bytes mx rt).before a s = true := by
  simp only [Bool.and_eq_true, beq_iff_eq, Bool.not_eq_true', decide_eq_true_eq] at h5
  obtain ⟨⟨⟨⟨⟨g1, g2⟩, g3⟩, g4⟩, g5⟩, g6⟩ := h5
  simp [Cond.before, Cond.holds, Cond.value, h1, h2, h3, h4, g1, g2, g3, g4, g5, g6]
def isCode : Jvm.Cond → Bool
  | .code _ _ _ _ => true
  | _ => false
theorem all_split {L : List Jvm.Cond} {P : Jvm.Cond → Bool} (h1 : L.all (fun c => isCode c || P c) = true) (h2 : ∀ c ∈ L.filter isCode, P c = true) : L.all P = true := by
  refine List.all_eq_true.mpr fun c hc => ?_
  have h := List.all_eq_true.mp h1 c hc
  rcases Bool.eq_false_or_eq_true (isCode c) with hi | hi
  · exact h2 c (List.mem_filter.mpr ⟨hc, hi⟩)
  · simpa [hi] using h
set_option maxRecDepth 65536 in
theorem w_c0 : (Jvm.Cond.code x code maxLocals ret).before args0 about1 = true := code_word (m := ⟨1, 2⟩) (meth := k1m2) (c := k1c2) (by decide +kernel) rfl rfl rfl (by decide +kernel)
set_option maxRecDepth 65536 in
theorem w_c1 : (Jvm.Cond.code ({ cls := "com/example/pathmeter/pathmeter/MetricReorderedBestPinLaw", name := "pick", desc := "(I)Lcom/example/pathmeter/pathmeter/Metric;" } : Jvm.MethodName) method_2_code (1 : Nat) (Option.some (Jvm.ClassFile.FieldType.object "com/example/pathmeter/pathmeter/Metric"))).before args0 about1 = true := code_word (m := ⟨1, 1⟩) (meth := k1m1) (c := k1c1) (by decide +kernel) rfl rfl rfl (by decide +kernel)
set_option maxRecDepth 65536 in
theorem w_c2 : (Jvm.Cond.code ({ cls := "com/example/pathmeter/pathmeter/Metric", name := "reorderedBest", desc := "(D)D" } : Jvm.MethodName) prog_4_method_19_code (3 : Nat) (Option.some Jvm.ClassFile.FieldType.double)).before args0 about1 = true := code_word (m := ⟨6, 0⟩) (meth := k6m0) (c := k6c0) (by decide +kernel) rfl rfl rfl (by decide +kernel)
def codes1 : List Jvm.Cond := [Jvm.Cond.code x code maxLocals ret, Jvm.Cond.code ({ cls := "com/example/pathmeter/pathmeter/MetricReorderedBestPinLaw", name := "pick", desc := "(I)Lcom/example/pathmeter/pathmeter/Metric;" } : Jvm.MethodName) method_2_code (1 : Nat) (Option.some (Jvm.ClassFile.FieldType.object "com/example/pathmeter/pathmeter/Metric")), Jvm.Cond.code ({ cls := "com/example/pathmeter/pathmeter/Metric", name := "reorderedBest", desc := "(D)D" } : Jvm.MethodName) prog_4_method_19_code (3 : Nat) (Option.some Jvm.ClassFile.FieldType.double)]
set_option maxRecDepth 65536 in
theorem codes_eq : words1.filter isCode = codes1 := rfl
theorem w_codes : ∀ c ∈ words1.filter isCode, c.before args0 about1 = true := by
  rw [codes_eq]
  intro c hc
  simp only [codes1, List.mem_cons, List.not_mem_nil, or_false] at hc
  rcases hc with rfl | rfl | rfl
  · exact w_c0
  · exact w_c1
  · exact w_c2
set_option maxRecDepth 65536 in
theorem w_t1 : (words1.take 24).all (fun c => isCode c || c.before args0 about1) = true := by decide +kernel
set_option maxRecDepth 65536 in
theorem w_t2 : ((words1.drop 24).take 24).all (fun c => isCode c || c.before args0 about1) = true := by decide +kernel
set_option maxRecDepth 65536 in
theorem w_t3 : ((words1.drop 24).drop 24).all (fun c => isCode c || c.before args0 about1) = true := by decide +kernel
theorem w_tables : (allAtoms (Jvm.Cond.code x code maxLocals ret :: tables_1)).before args0 about1 = true := by
  rw [allAtoms_all]
  show words1.all (fun c => c.before args0 about1) = true
  refine all_split ?_ w_codes
  rw [← List.take_append_drop 24 words1, List.all_append, w_t1, ← List.take_append_drop 24 (words1.drop 24), List.all_append, w_t2, w_t3]
  rfl
set_option maxRecDepth 65536 in
theorem w_case : (Jvm.Cond.and given_1 narrow_1).before args0 about1 = true := by decide +kernel
theorem w_applies : (headSpec (Jvm.Cond.code x code maxLocals ret :: tables_1) room_1).applies x e0.platform about1 = true :=
  (Spec.applies_iff w_frames).mpr ⟨w_running, w_runnable, w_alone, w_named, w_hears, w_ripe, w_room, w_tables⟩
theorem atStart : AtStart classFile x code maxLocals ret World_1 tables_1 room_1 Calls_1 rest_1 Pre_1 launch0 p0 e0 about1 theMethod args0 below0 :=
  ⟨lists_1, trivial, launch0.admits_env _ _ _, launch0.least_env, fairChoices_fair.cas, fairChoices_fair.clock, w_frames, w_args, w_heap, w_applies, trivial, trivial, w_case⟩
end start1
theorem witness_1 : WitnessClaimed_1 := ⟨start1.p0, start1.e0, start1.about1, start1.theMethod, start1.args0, start1.below0, start1.atStart⟩
end Jvm.Pilot.@@N@@
