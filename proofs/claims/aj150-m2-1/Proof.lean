import JvmDerived
import JvmDerived.Pilot.@@N@@Statement
import JvmDerived.Pilot.@@N@@Code
set_option linter.unusedVariables false
set_option linter.unusedSimpArgs false
namespace Jvm.Pilot.@@N@@.OwnFp
open Jvm.FP.Core
/-- a whole number's value in the format's least units -/
theorem zval_whole {i : Int} {d : Datum} (hf : Jvm.FP.Core.fits b64 d) (h : Whole i d) : zval b64 d = i * ((2 ^ 1074 : Nat) : Int) := by
  cases d with
  | nan => exact h.elim
  | inf s => exact h.elim
  | fin s c q =>
    have k := whole_units h (e := b64.qmin) hf.2.1
    have e1 : (b64.qmin).toNat = 0 := by rw [qmin_b64]; rfl
    have e2 : (-b64.qmin).toNat = 1074 := by rw [qmin_b64]; rfl
    rw [e1, e2, Nat.pow_zero, Int.natCast_one, Int.mul_one] at k
    exact k
end Jvm.Pilot.@@N@@.OwnFp
namespace Jvm.Pilot.@@N@@.OwnFp
open Jvm.FP.Core
theorem top_big {d : Datum} (hd : Jvm.FP.Core.fits b64 d) (hn : d ≠ .nan) (h : (zmag b64 d : Nat) < b64.tails * 2 ^ (b64.exps - 2)) : ∃ s c q, d = .fin s c q := by
  cases d with
  | nan => exact absurd rfl hn
  | inf s => exact absurd h (Nat.lt_irrefl _)
  | fin s c q => exact ⟨s, c, q, rfl⟩
theorem natAbs_zval (f : Fmt) (d : Datum) : (zval f d).natAbs = zmag f d := natAbs_signed _ _
/-- a result whose exact value is i * 2^(k - 1074), i below 2^53, is not rounded -/
theorem round_val {s : Bool} {n : Nat} {e e0 i : Int} {k : Nat} (h0 : e0 ≤ b64.qmin) (h0e : e0 ≤ e) (hi : i.natAbs < 2 ^ 53) (hk : (k : Int) + b64.qmin ≤ b64.qmax)
    (h : signed s (inUnits n e e0) = i * ((2 ^ k : Nat) : Int) * ((2 ^ (b64.qmin - e0).toNat : Nat) : Int)) :
    (∃ s' c' q', round b64 (.fin s n e) = .fin s' c' q') ∧ zval b64 (round b64 (.fin s n e)) = i * ((2 ^ k : Nat) : Int) := by
  obtain ⟨c1, q1, r1, r2⟩ := round_exact good_b64 (decide (i < 0)) (c := i.natAbs) (q := b64.qmin + k) hi (by omega) (by omega)
  have zV : zval b64 (round b64 (.fin (decide (i < 0)) i.natAbs (b64.qmin + k))) = i * ((2 ^ k : Nat) : Int) := by
    rw [r1]
    show signed (decide (i < 0)) (inUnits c1 q1 b64.qmin) = _
    rw [r2]; unfold inUnits
    rw [show (b64.qmin + (k : Int) - b64.qmin).toNat = k by omega, signed_mul]
    congr 1
    unfold signed
    by_cases q : i < 0
    · simp [q]; omega
    · simp [q]; omega
  have fV : Jvm.FP.Core.fits b64 (round b64 (.fin (decide (i < 0)) i.natAbs (b64.qmin + k))) := round_fits good_b64 _
  have nV : round b64 (.fin (decide (i < 0)) i.natAbs (b64.qmin + k)) ≠ .nan := by rw [r1]; exact nofun
  have l1 := zval_round_le good_b64 fV nV h0 h0e (s := s) (c := n) (q := e) (by rw [zV, h]; exact Int.le_refl _)
  have l2 := zval_round_ge good_b64 fV nV h0 h0e (s := s) (c := n) (q := e) (by rw [zV, h]; exact Int.le_refl _)
  have eq := Int.le_antisymm l1 l2
  refine ⟨top_big (round_fits good_b64 _) (roundRatio_ne_nan _ _ _ _ _) ?_, eq.trans zV⟩
  rw [← natAbs_zval, eq, natAbs_zval, r1]
  exact zmag_lt_top good_b64 (r1 ▸ fV)
/-- a double that is i quarters -/
def DQ (i : Int) (a : UInt64) : Prop := (∃ s c q, val64 a = .fin s c q) ∧ zval b64 (val64 a) = i * ((2 ^ 1072 : Nat) : Int)
theorem DQ.ne {i : Int} {a : UInt64} (h : DQ i a) : val64 a ≠ .nan := by obtain ⟨⟨s, c, q, e⟩, -⟩ := h; rw [e]; exact nofun
theorem kmax : ((1072 : Nat) : Int) + b64.qmin ≤ b64.qmax := by rw [qmin_b64]; decide
theorem dq_zero : DQ 0 dconst0 := by
  refine ⟨⟨_, _, _, val64_dconst0⟩, ?_⟩
  rw [val64_dconst0]
  show ((inUnits 0 b64.qmin b64.qmin : Nat) : Int) = _
  unfold inUnits; simp
theorem dq_add {i j : Int} {a b : UInt64} (ha : DQ i a) (hb : DQ j b) (h : (i + j).natAbs < 2 ^ 53) : DQ (i + j) (dadd a b) := by
  obtain ⟨⟨s, c, q, ea⟩, za⟩ := ha
  obtain ⟨⟨t, d, r, eb⟩, zb⟩ := hb
  have fa := val64_fits a
  have fb := val64_fits b
  rw [ea] at fa za
  rw [eb] at fb zb
  obtain ⟨sg, n, e, k1, k2, k3⟩ := sum_units fa fb
  unfold DQ
  rw [val64_dadd, ea, eb, k1]
  refine round_val (e0 := b64.qmin) (Int.le_refl _) k2 h kmax ?_
  rw [k3, za, zb, Int.sub_self, ← Int.add_mul]
  simp
theorem dq_mul {i j : Int} {a b : UInt64} (ha : DInt i a) (hb : DQ j b) (h : (i * j).natAbs < 2 ^ 53) : DQ (i * j) (dmul a b) := by
  obtain ⟨⟨t, d, r, eb⟩, zb⟩ := hb
  have fa := val64_fits a
  have fb := val64_fits b
  have za := zval_whole fa ha
  unfold DInt at ha
  cases ea : val64 a with
  | nan => rw [ea] at ha; exact ha.elim
  | inf s => rw [ea] at ha; exact ha.elim
  | fin s c q =>
    rw [ea] at fa za
    rw [eb] at fb zb
    obtain ⟨k1, k2, k3⟩ := product_units fa fb
    unfold DQ
    rw [val64_dmul, ea, eb, k1]
    refine round_val (e0 := 2 * b64.qmin) (by rw [qmin_b64]; decide) k2 h kmax ?_
    rw [k3, signed_xor]
    have za' : signed s (zmag b64 (.fin s c q)) = i * ((2 ^ 1074 : Nat) : Int) := za
    have zb' : signed t (zmag b64 (.fin t d r)) = j * ((2 ^ 1072 : Nat) : Int) := zb
    rw [za', zb', show (b64.qmin - 2 * b64.qmin).toNat = 1074 by rw [qmin_b64]; rfl]
    simp only [Int.mul_assoc, Int.mul_comm, Int.mul_left_comm]
theorem four_val : val64 4616189618054758400 = .fin false 4503599627370496 (-50) := by decide +kernel
theorem dq_div {i : Int} {a : UInt64} (ha : DInt i a) (h : i.natAbs < 2 ^ 53) : DQ i (ddiv a 4616189618054758400) := by
  have fa := val64_fits a
  have za := zval_whole fa ha
  unfold DInt at ha
  cases ea : val64 a with
  | nan => rw [ea] at ha; exact ha.elim
  | inf s => rw [ea] at ha; exact ha.elim
  | fin s c q =>
    rw [ea] at fa za
    unfold DQ
    have e1 : val64 (ddiv a 4616189618054758400) = round b64 (.fin s c (q - 2)) := by
      rw [val64_ddiv, ea, four_val]
      have k : quotient b64 (.fin s c q) (.fin false 4503599627370496 (-50)) = (if (4503599627370496 : Nat) = 0 then (if c = 0 then Datum.nan else Datum.inf (s != false)) else roundRatio b64 (s != false) c 4503599627370496 (q - (-50))) := rfl
      rw [k, if_neg (by decide), show (s != false) = s by cases s <;> rfl]
      show _ = roundRatio b64 s c 1 (q - 2)
      refine roundRatio_congr (by decide) (by decide) ?_
      rw [show (q - -50 - (q - 2)).toNat = 52 by omega, show (q - 2 - (q - -50)).toNat = 0 by omega]
      omega
    rw [e1]
    have hq := fa.2.1
    refine round_val (e0 := b64.qmin - 2) (by omega) (by omega) h kmax ?_
    have za' : signed s (inUnits c q b64.qmin) = i * ((2 ^ 1074 : Nat) : Int) := za
    have e2 : inUnits c (q - 2) (b64.qmin - 2) = inUnits c q b64.qmin := by unfold inUnits; rw [show (q - 2 - (b64.qmin - 2)).toNat = (q - b64.qmin).toNat by omega]
    rw [e2, za', show (b64.qmin - (b64.qmin - 2)).toNat = 2 by omega, Int.mul_assoc, ← Int.natCast_mul, ← Nat.pow_add]
theorem dq_cmp {i : Int} {a b : UInt64} (ha : DQ i a) (hb : DQ i b) : dcmp a b = some .eq := by
  rw [dcmp_zval ha.ne hb.ne, ha.2, hb.2, compare_self_int]
end Jvm.Pilot.@@N@@.OwnFp
namespace Jvm.Pilot.@@N@@.OwnFp
open Jvm.FP.Core
theorem P_pos : (0 : Int) < ((2 ^ 1074 : Nat) : Int) := by have := Nat.two_pow_pos 1074; omega
theorem whole_of_zval {i : Int} {s : Bool} {c : Nat} {q : Int} (hf : Jvm.FP.Core.fits b64 (.fin s c q)) (h : zval b64 (.fin s c q) = i * ((2 ^ 1074 : Nat) : Int)) : Whole i (.fin s c q) := by
  have hq := hf.2.1
  rw [qmin_b64] at hq
  have h' : signed s (c * 2 ^ (q - b64.qmin).toNat) = i * ((2 ^ 1074 : Nat) : Int) := h
  rw [qmin_b64] at h'
  show signed s (c * 2 ^ q.toNat) = i * ((2 ^ (-q).toNat : Nat) : Int)
  rcases Int.lt_or_le q 0 with k | k
  · rw [show q.toNat = 0 by omega, Nat.pow_zero, Nat.mul_one]
    rw [signed_mul, show (1074 : Nat) = (-q).toNat + (q - -1074).toNat by omega, Nat.pow_add, Int.natCast_mul, ← Int.mul_assoc] at h'
    exact Int.eq_of_mul_eq_mul_right (by have := Nat.two_pow_pos (q - -1074).toNat; omega) h'
  · rw [show (-q).toNat = 0 by omega, Nat.pow_zero, Int.natCast_one, Int.mul_one]
    rw [show (q - -1074).toNat = q.toNat + 1074 by omega, Nat.pow_add, ← Nat.mul_assoc, signed_mul] at h'
    exact Int.eq_of_mul_eq_mul_right (by have := P_pos; omega) h'
theorem dint_of_zval {i : Int} {a : UInt64} (h1 : ∃ s c q, val64 a = .fin s c q) (h2 : zval b64 (val64 a) = i * ((2 ^ 1074 : Nat) : Int)) : DInt i a := by
  obtain ⟨s, c, q, e⟩ := h1
  have hf := val64_fits a
  unfold DInt
  rw [e] at hf h2 ⊢
  exact whole_of_zval hf h2
theorem DInt.fin {i : Int} {a : UInt64} (h : DInt i a) : ∃ s c q, val64 a = .fin s c q := by
  unfold DInt at h
  cases e : val64 a with
  | nan => rw [e] at h; exact h.elim
  | inf s => rw [e] at h; exact h.elim
  | fin s c q => exact ⟨s, c, q, rfl⟩
theorem DInt.ne {i : Int} {a : UInt64} (h : DInt i a) : val64 a ≠ .nan := Whole.ne_nan h
theorem DInt.zv {i : Int} {a : UInt64} (h : DInt i a) : zval b64 (val64 a) = i * ((2 ^ 1074 : Nat) : Int) := zval_whole (val64_fits a) h
/-- a great double is a whole number -/
theorem big_int {a : UInt64} (h1 : ∃ s c q, val64 a = .fin s c q) (h2 : 9007199254740992 * ((2 ^ 1074 : Nat) : Int) ≤ (zmag b64 (val64 a) : Int)) : ∃ i, DInt i a := by
  obtain ⟨s, c, q, e⟩ := h1
  have hf := val64_fits a
  unfold DInt
  rw [e] at hf h2 ⊢
  obtain ⟨f1, f2, -, -⟩ := hf
  rw [qmin_b64] at f2
  have h2' : 9007199254740992 * 2 ^ 1074 ≤ c * 2 ^ (q - b64.qmin).toNat := by
    have k : (zmag b64 (.fin s c q)) = c * 2 ^ (q - b64.qmin).toNat := rfl
    rw [k] at h2
    exact Int.ofNat_le.mp (by rw [Int.natCast_mul]; exact h2)
  rw [qmin_b64] at h2'
  have hq : 0 < q := by
    rcases Int.lt_or_le 0 q with k | k
    · exact k
    · exfalso
      have l1 : 2 ^ (q - -1074).toNat ≤ 2 ^ 1074 := Nat.pow_le_pow_right (by decide) (by omega)
      have l2 : c * 2 ^ (q - -1074).toNat ≤ c * 2 ^ 1074 := Nat.mul_le_mul_left _ l1
      have l3 : c * 2 ^ 1074 < 9007199254740992 * 2 ^ 1074 := Nat.mul_lt_mul_of_pos_right (by rw [show (9007199254740992 : Nat) = 2 ^ 53 by decide]; exact f1) (Nat.two_pow_pos _)
      omega
  exact ⟨signed s (c * 2 ^ q.toNat), by
    show signed s (c * 2 ^ q.toNat) = signed s (c * 2 ^ q.toNat) * ((2 ^ (-q).toNat : Nat) : Int)
    rw [show (-q).toNat = 0 by omega]; simp⟩
/-- whole numbers of few digits are doubles -/
theorem rep (k : Int) (e : Nat) (hk : k.natAbs < 2 ^ 53) (he : e ≤ 900) : ∃ a, DInt (k * ((2 ^ e : Nat) : Int)) a := by
  have hv := round_val (s := decide (k < 0)) (n := k.natAbs) (e := e) (e0 := b64.qmin) (i := k) (k := 1074 + e) (Int.le_refl _) (by rw [qmin_b64]; omega) hk (by rw [qmin_b64]; show _ ≤ (971 : Int); omega) (by
    unfold inUnits
    rw [qmin_b64, show ((e : Int) - -1074).toNat = 1074 + e by omega, signed_mul, show (-1074 - -1074 : Int).toNat = 0 by decide]
    have : signed (decide (k < 0)) k.natAbs = k := by
      unfold signed
      by_cases q : k < 0
      · simp [q]; omega
      · simp [q]; omega
    rw [this]; simp)
  refine ⟨of64 (round b64 (.fin (decide (k < 0)) k.natAbs e)), dint_of_zval ?_ ?_⟩
  · rw [val64_of64 (round_fits good_b64 _)]; exact hv.1
  · rw [val64_of64 (round_fits good_b64 _), hv.2, Nat.pow_add, Int.natCast_mul, Int.mul_comm ((2 ^ 1074 : Nat) : Int), Int.mul_assoc]
/-- t is n rounded: no double lies between -/
def Rd (n t : Int) : Prop := ∀ m a, DInt m a → (n ≤ m → t ≤ m) ∧ (m ≤ n → m ≤ t)
theorem Rd.exact {n t : Int} {a : UInt64} (h : Rd n t) (ha : DInt n a) : t = n := by
  have k := h n a ha
  have := k.1 (Int.le_refl _)
  have := k.2 (Int.le_refl _)
  omega
theorem Rd.near {n t : Int} (h : Rd n t) (hn : n.natAbs ≤ 2305843013508661248) : n - 512 ≤ t ∧ t ≤ n + 512 := by
  obtain ⟨a, ha⟩ := rep (n / 512) 9 (by omega) (by decide)
  obtain ⟨b, hb⟩ := rep (n / 512 + 1) 9 (by omega) (by decide)
  have e : ((2 ^ 9 : Nat) : Int) = 512 := rfl
  rw [e] at ha hb
  have k1 := (h _ a ha).2 (by omega)
  have k2 := (h _ b hb).1 (by omega)
  omega
theorem mono_of {n : Int} {s : Bool} {c : Nat} {q : Int} (hw : Whole n (.fin s c q)) {m : Int} {a : UInt64} (ha : DInt m a) :
    (n ≤ m → zval b64 (round b64 (.fin s c q)) ≤ m * ((2 ^ 1074 : Nat) : Int)) ∧ (m ≤ n → m * ((2 ^ 1074 : Nat) : Int) ≤ zval b64 (round b64 (.fin s c q))) := by
  have hz := DInt.zv ha
  have hu := whole_units hw (e := min b64.qmin q) (Int.min_le_right _ _)
  have l1 : min b64.qmin q ≤ b64.qmin := Int.min_le_left _ _
  have l2 : min b64.qmin q ≤ q := Int.min_le_right _ _
  have l3 := l1
  rw [qmin_b64] at l3
  have e1 : (min b64.qmin q).toNat = 0 := by rw [qmin_b64]; omega
  have e2 : (-(min b64.qmin q)).toNat = 1074 + (b64.qmin - min b64.qmin q).toNat := by rw [qmin_b64]; omega
  rw [e1, e2, Nat.pow_zero, Int.natCast_one, Int.mul_one, Nat.pow_add, Int.natCast_mul, ← Int.mul_assoc] at hu
  have nn : (0 : Int) ≤ ((2 ^ (b64.qmin - min b64.qmin q).toNat : Nat) : Int) := Int.natCast_nonneg _
  refine ⟨fun hle => ?_, fun hle => ?_⟩
  · rw [← hz]
    refine zval_round_le good_b64 (val64_fits a) (DInt.ne ha) l1 l2 ?_
    rw [hu, hz]
    exact Int.mul_le_mul_of_nonneg_right (Int.mul_le_mul_of_nonneg_right hle (Int.natCast_nonneg _)) nn
  · rw [← hz]
    refine zval_round_ge good_b64 (val64_fits a) (DInt.ne ha) l1 l2 ?_
    rw [hu, hz]
    exact Int.mul_le_mul_of_nonneg_right (Int.mul_le_mul_of_nonneg_right hle (Int.natCast_nonneg _)) nn
theorem le_of_P {a b : Int} (h : a * ((2 ^ 1074 : Nat) : Int) ≤ b * ((2 ^ 1074 : Nat) : Int)) : a ≤ b := Int.le_of_mul_le_mul_right h P_pos
theorem lt_of_P {a b : Int} (h : a * ((2 ^ 1074 : Nat) : Int) < b * ((2 ^ 1074 : Nat) : Int)) : a < b := Int.lt_of_mul_lt_mul_right h (Int.le_of_lt P_pos)
/-- a whole number below 2^62, rounded, is a whole number -/
theorem rint {n : Int} {d : Datum} {a : UInt64} (hn : n.natAbs ≤ 4611686018427387904) (hw : Whole n d) (ha : val64 a = round b64 d) : ∃ t, DInt t a ∧ Rd n t := by
  cases d with
  | nan => exact hw.elim
  | inf s => exact hw.elim
  | fin s c q =>
    have mono := fun (m : Int) (b : UInt64) (hb : DInt m b) => mono_of hw hb
    rw [← ha] at mono
    have fin : ∃ s c q, val64 a = .fin s c q := by
      obtain ⟨u, hu⟩ := rep 1 62 (by decide) (by decide)
      obtain ⟨v, hv⟩ := rep (-1) 62 (by decide) (by decide)
      have e : ((2 ^ 62 : Nat) : Int) = 4611686018427387904 := rfl
      rw [e] at hu hv
      have k1 := (mono _ u hu).1 (by omega)
      have k2 := (mono _ v hv).2 (by omega)
      refine top_big (val64_fits a) (by rw [ha]; exact roundRatio_ne_nan _ _ _ _ _) ?_
      obtain ⟨s1, c1, q1, e1⟩ := DInt.fin hu
      have top := zmag_lt_top good_b64 (e1 ▸ val64_fits u : Jvm.FP.Core.fits b64 (.fin s1 c1 q1))
      have zu := DInt.zv hu
      have nu : (zval b64 (val64 u)).natAbs = zmag b64 (val64 u) := natAbs_zval _ _
      have na : (zval b64 (val64 a)).natAbs = zmag b64 (val64 a) := natAbs_zval _ _
      have : zmag b64 (val64 a) ≤ zmag b64 (val64 u) := by
        rw [← na, ← nu, zu]
        generalize ((2 ^ 1074 : Nat) : Int) = P at k1 k2
        generalize zval b64 (val64 a) = z at k1 k2
        rw [show (1 : Int) * 4611686018427387904 * P = 4611686018427387904 * P by rw [Int.one_mul]] at k1 ⊢
        rw [show (-1 : Int) * 4611686018427387904 * P = -(4611686018427387904 * P) by rw [Int.neg_mul, Int.neg_mul, Int.one_mul]] at k2
        omega
      rw [e1] at this
      exact Nat.lt_of_le_of_lt this top
    have whole : ∃ t, DInt t a := by
      by_cases hs : n.natAbs ≤ 2 ^ 53
      · exact ⟨n, by unfold DInt; rw [ha]; exact whole_round good_b64 wide_b64 hs hw⟩
      · refine big_int fin ?_
        rw [← natAbs_zval]
        rcases Int.lt_or_le n 0 with k | k
        · obtain ⟨v, hv⟩ := rep (-1) 53 (by decide) (by decide)
          have e : ((2 ^ 53 : Nat) : Int) = 9007199254740992 := rfl
          rw [e] at hv
          have k1 := (mono _ v hv).1 (by omega)
          rw [show (-1 : Int) * 9007199254740992 * ((2 ^ 1074 : Nat) : Int) = -(9007199254740992 * ((2 ^ 1074 : Nat) : Int)) by rw [Int.neg_mul, Int.neg_mul, Int.one_mul]] at k1
          have := P_pos
          generalize ((2 ^ 1074 : Nat) : Int) = P at k1 this ⊢
          omega
        · obtain ⟨v, hv⟩ := rep 1 53 (by decide) (by decide)
          have e : ((2 ^ 53 : Nat) : Int) = 9007199254740992 := rfl
          rw [e] at hv
          have k1 := (mono _ v hv).2 (by omega)
          rw [Int.one_mul] at k1
          have := P_pos
          generalize ((2 ^ 1074 : Nat) : Int) = P at k1 this ⊢
          omega
    obtain ⟨t, ht⟩ := whole
    have hz := DInt.zv ht
    refine ⟨t, ht, fun m b hb => ?_⟩
    have k := mono m b hb
    rw [hz] at k
    exact ⟨fun q => le_of_P (k.1 q), fun q => le_of_P (k.2 q)⟩
theorem add_r {i j : Int} {x y : UInt64} (hx : DInt i x) (hy : DInt j y) (h : (i + j).natAbs ≤ 4611686018427387904) : ∃ t, DInt t (Jvm.FP.dadd x y) ∧ Rd (i + j) t :=
  rint h (whole_sum hx hy) (val64_dadd x y)
theorem sub_r {i j : Int} {x y : UInt64} (hx : DInt i x) (hy : DInt j y) (h : (i - j).natAbs ≤ 4611686018427387904) : ∃ t, DInt t (Jvm.FP.dsub x y) ∧ Rd (i - j) t := by
  rw [Int.sub_eq_add_neg] at h ⊢
  exact rint h (whole_sum hx (whole_negate hy)) (val64_dsub x y)
theorem sub_e {i j : Int} {x y z : UInt64} (hx : DInt i x) (hy : DInt j y) (h : (i - j).natAbs ≤ 4611686018427387904) (hz : DInt (i - j) z) : DInt (i - j) (Jvm.FP.dsub x y) := by
  obtain ⟨t, k1, k2⟩ := sub_r hx hy h
  rw [k2.exact hz] at k1; exact k1
theorem l2d_r (v : Int64) (h : v.toInt.natAbs ≤ 4611686018427387904) : ∃ t, DInt t (Jvm.FP.l2d v) ∧ Rd v.toInt t := rint h (whole_ofInt _) (val64_l2d v)
/-- the two-sum of Knuth, where one of the two is small -/
theorem two_sum {i j : Int} {x y : UInt64} (hx : DInt i x) (hy : DInt j y) (hi : i.natAbs ≤ 2305843009213693952) (hj : j.natAbs ≤ 2305843009213693952)
    (H : j.natAbs ≤ 2147483648 ∨ (i.natAbs ≤ 2147483648 ∧ (j % 512 = 0 ∨ (i + j).natAbs ≤ 9007199254740992))) :
    ∃ t u v w z : Int, DInt t (Jvm.FP.dadd x y) ∧ Rd (i + j) t ∧ DInt u (Jvm.FP.dsub (Jvm.FP.dadd x y) x) ∧ DInt v (Jvm.FP.dsub (Jvm.FP.dadd x y) (Jvm.FP.dsub (Jvm.FP.dadd x y) x)) ∧ DInt w (Jvm.FP.dsub x (Jvm.FP.dsub (Jvm.FP.dadd x y) (Jvm.FP.dsub (Jvm.FP.dadd x y) x))) ∧ DInt z (Jvm.FP.dsub y (Jvm.FP.dsub (Jvm.FP.dadd x y) x)) ∧
      DInt (i + j - t) (Jvm.FP.dadd (Jvm.FP.dsub x (Jvm.FP.dsub (Jvm.FP.dadd x y) (Jvm.FP.dsub (Jvm.FP.dadd x y) x))) (Jvm.FP.dsub y (Jvm.FP.dsub (Jvm.FP.dadd x y) x))) := by
  obtain ⟨t, ht, hR⟩ := add_r hx hy (by omega)
  have hnear := hR.near (by omega)
  have e53 : (2 : Nat) ^ 53 = 9007199254740992 := by decide
  rcases H with H | ⟨H, H2⟩
  · have hu : DInt (t - i) (Jvm.FP.dsub (Jvm.FP.dadd x y) x) := dsub_int ht hx (by rw [e53]; omega)
    have hv : DInt (t - (t - i)) (Jvm.FP.dsub (Jvm.FP.dadd x y) (Jvm.FP.dsub (Jvm.FP.dadd x y) x)) := sub_e ht hu (by omega) (show DInt (t - (t - i)) x by rw [show t - (t - i) = i by omega]; exact hx)
    have hw := dsub_int hx hv (by rw [e53]; omega)
    have hz := dsub_int hy hu (by rw [e53]; omega)
    have he := dadd_int hw hz (by rw [e53]; omega)
    refine ⟨t, _, _, _, _, ht, hR, hu, hv, hw, hz, ?_⟩
    rw [show i + j - t = i - (t - (t - i)) + (j - (t - i)) by omega]; exact he
  · obtain ⟨u, hu, hRu⟩ := sub_r ht hx (by omega)
    have hnu : j - 512 ≤ u ∧ u ≤ j + 512 := by
      rcases H2 with H2 | H2
      · obtain ⟨a, ha⟩ := rep (j / 512 - 1) 9 (by omega) (by decide)
        obtain ⟨b, hb⟩ := rep (j / 512 + 1) 9 (by omega) (by decide)
        have e : ((2 ^ 9 : Nat) : Int) = 512 := rfl
        rw [e] at ha hb
        have k1 := (hRu _ a ha).2 (by omega)
        have k2 := (hRu _ b hb).1 (by omega)
        omega
      · have hs : DInt (i + j) (Jvm.FP.dadd x y) := dadd_int hx hy (by rw [e53]; exact H2)
        have ht' := hR.exact hs
        have : u = t - i := hRu.exact (show DInt (t - i) y by rw [show t - i = j by omega]; exact hy)
        omega
    have hv := dsub_int ht hu (by rw [e53]; omega)
    have hw := dsub_int hx hv (by rw [e53]; omega)
    have hz := dsub_int hy hu (by rw [e53]; omega)
    have he := dadd_int hw hz (by rw [e53]; omega)
    refine ⟨t, _, _, _, _, ht, hR, hu, hv, hw, hz, ?_⟩
    rw [show i + j - t = i - (t - u) + (j - u) by omega]; exact he
/-- the next double above -/
def nextE (a : UInt64) : UInt64 := (if a.toInt64 < 0 then a.toInt64 + (-1) else a.toInt64 + 1).toUInt64
theorem neg_bits (a : UInt64) : a.toInt64 < 0 ↔ 9223372036854775808 ≤ a.toNat := by
  rw [Int64.lt_iff_toInt_lt]
  have h := a.toNat_lt
  have e : a.toInt64.toInt = a.toBitVec.toInt := rfl
  have z : (0 : Int64).toInt = 0 := by decide
  rw [e, z, BitVec.toInt_eq_toNat_cond]
  have k : a.toBitVec.toNat = a.toNat := rfl
  rw [k]
  split <;> omega
theorem next_bits {a : UInt64} (h1 : a.toNat % 9223372036854775808 < 9218868437227405312) (h2 : a.toNat % 9223372036854775808 ≠ 0) :
    (nextE a).toNat % 9223372036854775808 ≤ 9218868437227405312 ∧ dkey (nextE a) = dkey a + 1 := by
  have hl := a.toNat_lt
  unfold nextE
  by_cases q : a.toInt64 < 0
  · have q' := (neg_bits a).mp q
    rw [if_pos q]
    have e : (a.toInt64 + (-1)).toUInt64 = a + 18446744073709551615 := rfl
    have n : (a + 18446744073709551615).toNat = a.toNat - 1 := by
      rw [UInt64.toNat_add]
      show (a.toNat + 18446744073709551615) % 2 ^ 64 = _
      omega
    rw [e]
    unfold dkey
    rw [n]
    have p63 : (2 : Nat) ^ 63 = 9223372036854775808 := by decide
    rw [p63]
    refine ⟨by omega, ?_⟩
    rw [if_pos (by omega), if_pos q']
    omega
  · have q' : ¬ 9223372036854775808 ≤ a.toNat := fun z => q ((neg_bits a).mpr z)
    rw [if_neg q]
    have e : (a.toInt64 + 1).toUInt64 = a + 1 := rfl
    have n : (a + 1).toNat = a.toNat + 1 := by
      rw [UInt64.toNat_add]
      show (a.toNat + 1) % 2 ^ 64 = _
      omega
    rw [e]
    unfold dkey
    rw [n]
    have p63 : (2 : Nat) ^ 63 = 9223372036854775808 := by decide
    rw [p63]
    refine ⟨by omega, ?_⟩
    rw [if_neg (by omega), if_neg q']
    omega
theorem le_key {a b : UInt64} (ha : val64 a ≠ .nan) (hb : val64 b ≠ .nan) : zval b64 (val64 a) ≤ zval b64 (val64 b) ↔ dkey a ≤ dkey b := by
  have k := dcmp_gt_key ha hb
  rw [dcmp_gt] at k
  constructor
  · intro h
    rcases Int.lt_or_le (dkey b) (dkey a) with q | q
    · have := (k.mpr q).2.2; omega
    · exact q
  · intro h
    rcases Int.lt_or_le (zval b64 (val64 b)) (zval b64 (val64 a)) with q | q
    · have := k.mp ⟨ha, hb, q⟩; omega
    · exact q
/-- what the sum rounded upward is: t the rounded sum, s the exact one, t below s -/
theorem up_spec {s t : Int} {a : UInt64} (ha : DInt t a) (hR : Rd s t) (hlt : t < s) (hs : s.natAbs ≤ 2305843011361177600) :
    a.toNat % 9223372036854775808 < 9218868437227405312 ∧ a.toNat % 9223372036854775808 ≠ 0 ∧ ∃ r, DInt r (nextE a) ∧ s < r ∧ r ≤ 4611686018427387904 ∧ dkey (nextE a) = dkey a + 1 ∧ (s ≤ -9007199254740992 ∨ 9007199254740992 ≤ s) := by
  have hfin : DFin a := DInt.fin ha
  have h1 := (fin_bits a).mp hfin
  have p63 : (2 : Nat) ^ 63 = 9223372036854775808 := by decide
  rw [p63] at h1
  have hbig : s ≤ -9007199254740993 ∨ 9007199254740993 ≤ s := by
    rcases Int.lt_or_le s.natAbs 9007199254740993 with q | q
    · exfalso
      have e53 : (2 : Nat) ^ 53 = 9007199254740992 := by decide
      have h64 : (Int64.ofInt s).toInt = s := by rw [Int64.toInt_ofInt, show Int64.size = 18446744073709551616 from rfl]; exact Int.bmod_eq_of_le (by omega) (by omega)
      have : DInt s (l2d (Int64.ofInt s)) := by
        have k := l2d_int (a := Int64.ofInt s) (by rw [h64, e53]; omega)
        rw [h64] at k; exact k
      have := hR.exact this
      omega
    · omega
  have hnear := hR.near (by omega)
  have h2 : a.toNat % 9223372036854775808 ≠ 0 := fun q => by
    have : DZero a := (zero_bits2 a).mpr (by rw [p63]; exact q)
    have z := DZero.zval this
    rw [DInt.zv ha] at z
    have := P_pos
    rcases Int.mul_eq_zero.mp z with k | k <;> omega
  obtain ⟨n1, n2⟩ := next_bits h1 h2
  have hn : val64 (nextE a) ≠ .nan := (ne_nan _).mpr (by rw [p63]; exact n1)
  have ha' := DInt.ne ha
  -- every double above a lies at or above the next one
  have above : ∀ m b, DInt m b → t < m → zval b64 (val64 (nextE a)) ≤ m * ((2 ^ 1074 : Nat) : Int) := fun m b hb hm => by
    rw [← DInt.zv hb]
    refine (le_key hn (DInt.ne hb)).mpr ?_
    rw [n2]
    rcases Int.lt_or_le (dkey a) (dkey b) with q | q
    · omega
    · have := (le_key (DInt.ne hb) ha').mpr q
      rw [DInt.zv hb, DInt.zv ha] at this
      have := le_of_P this
      omega
  have gt : t * ((2 ^ 1074 : Nat) : Int) < zval b64 (val64 (nextE a)) := by
    rw [← DInt.zv ha]
    rcases Int.lt_or_le (zval b64 (val64 a)) (zval b64 (val64 (nextE a))) with q | q
    · exact q
    · have := (le_key hn ha').mp q
      omega
  obtain ⟨b62, hb62⟩ := rep 1 62 (by decide) (by decide)
  have e62 : (1 : Int) * ((2 ^ 62 : Nat) : Int) = 4611686018427387904 := rfl
  rw [e62] at hb62
  have top := above _ b62 hb62 (by omega)
  have fin : ∃ s c q, val64 (nextE a) = .fin s c q := by
    refine top_big (val64_fits _) hn ?_
    obtain ⟨s1, c1, q1, e1⟩ := DInt.fin hb62
    have tp := zmag_lt_top good_b64 (e1 ▸ val64_fits b62 : Jvm.FP.Core.fits b64 (.fin s1 c1 q1))
    have zu := DInt.zv hb62
    have nu : (zval b64 (val64 b62)).natAbs = zmag b64 (val64 b62) := natAbs_zval _ _
    have na : (zval b64 (val64 (nextE a))).natAbs = zmag b64 (val64 (nextE a)) := natAbs_zval _ _
    have : zmag b64 (val64 (nextE a)) ≤ zmag b64 (val64 b62) := by
      rw [← na, ← nu, zu]
      have gt2 : -4611686018427387904 * ((2 ^ 1074 : Nat) : Int) ≤ t * ((2 ^ 1074 : Nat) : Int) := Int.mul_le_mul_of_nonneg_right (by omega) (Int.natCast_nonneg _)
      rw [Int.neg_mul] at gt2
      generalize ((2 ^ 1074 : Nat) : Int) = P at top gt gt2 ⊢
      generalize zval b64 (val64 (nextE a)) = z at top gt ⊢
      omega
    rw [e1] at this
    exact Nat.lt_of_le_of_lt this tp
  have whole : ∃ r, DInt r (nextE a) := by
    refine big_int fin ?_
    rw [← natAbs_zval]
    rcases hbig with k | k
    · obtain ⟨v, hv⟩ := rep (-1) 53 (by decide) (by decide)
      have e : (-1 : Int) * ((2 ^ 53 : Nat) : Int) = -9007199254740992 := rfl
      rw [e] at hv
      have k1 := above _ v hv (by omega)
      rw [Int.neg_mul] at k1
      have := P_pos
      generalize ((2 ^ 1074 : Nat) : Int) = P at k1 this ⊢
      generalize zval b64 (val64 (nextE a)) = z at k1 ⊢
      omega
    · obtain ⟨v, hv⟩ := rep 1 53 (by decide) (by decide)
      have e : (1 : Int) * ((2 ^ 53 : Nat) : Int) = 9007199254740992 := rfl
      rw [e] at hv
      have k0 := (hR _ v hv).2 (by omega)
      have k1 : 9007199254740992 * ((2 ^ 1074 : Nat) : Int) ≤ t * ((2 ^ 1074 : Nat) : Int) := Int.mul_le_mul_of_nonneg_right k0 (Int.natCast_nonneg _)
      have := P_pos
      generalize ((2 ^ 1074 : Nat) : Int) = P at k1 this gt ⊢
      generalize zval b64 (val64 (nextE a)) = z at gt ⊢
      omega
  obtain ⟨r, hr⟩ := whole
  have zr := DInt.zv hr
  refine ⟨h1, h2, r, hr, ?_, ?_, n2, by omega⟩
  · rcases Int.lt_or_le s r with q | q
    · exact q
    · have := (hR r _ hr).2 q
      rw [zr] at gt
      have := lt_of_P gt
      omega
  · rw [zr] at top
    exact le_of_P top
end Jvm.Pilot.@@N@@.OwnFp
namespace Jvm.Pilot.@@N@@
open Jvm Jvm.ClassFile Sem Op Lib Jvm.Free Jvm.Stand Jvm.LawKit Jvm.RoadKit Bundle Jvm.Pilot.@@N@@.Jvm.D
section Own
variable {p : Program} {l : Launch} {e : Env} {R : Room} {s : State} {m : MethodId} {args : Array Value} {below : List Frame} {meth : Method} {c : Code} {T : State} {locs : List Loc} {cells slots : Nat}
/-- the return of a double -/
theorem own_retD (X : Stand p l e R s m args below meth c T locs cells slots) (hx : p.tables.exec = Jvm.exec) {pc : Nat} {Ls : Array Slot} {z : UInt64} {rest : List Value} (hret : meth.sig.returnType = some .double) (hd : decode c.code pc = .ok (.dreturn, 1)) {fs : List Frame}
    (hl : ∀ (f : JFrame) (acts : List Action), f.method = m → f.locked = none → f.entered = [] → (doReturn e (T.setTop f) acts (some (.double z))).1 = T.setFrames fs) : Steps p.tables e below (T.setTop (mkF m pc Ls (.double z :: rest))) (T.setFrames fs) := by
  have hm' : T.vm.method? m = some meth := X.method'
  have hn : narrow .double (.double z) = .double z := rfl
  show Steps p.tables e below (T.setTop { method := m, pc := pc, locals := Ls, stack := _ :: rest, locked := none }) _
  jvm_step X.here [X.here.top, hx, hd, hm', hret, hn]
  first | (intro acts; rw [hl _ acts rfl rfl rfl]) | rw [hl _ _ rfl rfl rfl]
  exact Steps.refl _
/-- the return of an int -/
theorem retI (X : Stand p l e R s m args below meth c T locs cells slots) (hx : p.tables.exec = Jvm.exec) {pc : Nat} {Ls : Array Slot} {z : Int32} {rest : List Value} (hret : meth.sig.returnType = some .int) (hd : decode c.code pc = .ok (.ireturn, 1)) {fs : List Frame}
    (hl : ∀ (f : JFrame) (acts : List Action), f.method = m → f.locked = none → f.entered = [] → (doReturn e (T.setTop f) acts (some (.int z))).1 = T.setFrames fs) : Steps p.tables e below (T.setTop (mkF m pc Ls (.int z :: rest))) (T.setFrames fs) := by
  have hm' : T.vm.method? m = some meth := X.method'
  have hn : narrow .int (.int z) = .int z := rfl
  show Steps p.tables e below (T.setTop { method := m, pc := pc, locals := Ls, stack := _ :: rest, locked := none }) _
  jvm_step X.here [X.here.top, hx, hd, hm', hret, hn]
  first | (intro acts; rw [hl _ acts rfl rfl rfl]) | rw [hl _ _ rfl rfl rfl]
  exact Steps.refl _
/-- a cell, read over the heap's other name -/
theorem own_at {h : Heap} {a : Addr} {cl : Cell} (q : T.heap = h) (k : h[a]? = some cl) : T.heap[a]? = some cl := by rw [q]; exact k
/-- the remainder as the machine reckons it is the remainder -/
theorem own_rem (x y : Int32) : x - (x / y) * y = x % y := by
  have a := c_isub x (x / y * y)
  have b := c_imul (x / y) y
  have e := bm32 (x.toInt.tdiv y.toInt)
  have f := Int.mul_tdiv_add_tmod x.toInt y.toInt
  have r := rng32 (x - x / y * y)
  have r' := rng32 (x % y)
  rw [← Int32.toInt_div] at e
  rw [← Int32.toInt_mod, Int.mul_comm] at f
  obtain ⟨k, hk⟩ : ∃ k, (x / y).toInt = x.toInt.tdiv y.toInt + 4294967296 * k := ⟨((x / y).toInt - x.toInt.tdiv y.toInt) / 4294967296, by omega⟩
  have g : (x / y).toInt * y.toInt = x.toInt.tdiv y.toInt * y.toInt + 4294967296 * (k * y.toInt) := by rw [hk, Int.add_mul, Int.mul_assoc]
  apply Int32.toInt_inj.mp
  omega
theorem own_irem {tb : Tables} [Ours tb] {target : State} {g : JFrame} (h : At T m c below) (hx : tb.exec = Jvm.exec) (hg : g.method = m) {x y : Int32} {rest : List Value} (hd : decode c.code g.pc = .ok (.irem, 1)) (hs : g.stack = .int y :: .int x :: rest) (hy : y ≠ 0)
    (hr : Steps tb e below (T.setTop { g with pc := g.pc + 1, stack := .int (x % y) :: rest }) target) : Steps tb e below (T.setTop g) target :=
  XS.irem h hx hg hd hs hy (by rw [own_rem]; exact hr)
end Own
section Own2
open OwnFp FP.Core
abbrev bpE (x y : UInt64) : UInt64 := FP.dsub (FP.dadd x y) x
abbrev errE (x y : UInt64) : UInt64 := FP.dadd (FP.dsub x (FP.dsub (FP.dadd x y) (bpE x y))) (FP.dsub y (bpE x y))
def addE (x y : UInt64) : UInt64 := if 0 < cmpValue (FP.dcmp (errE x y) FP.dconst0) .l then nextE (FP.dadd x y) else FP.dadd x y
theorem own_nn {i : Int} {a : UInt64} (h : DInt i a) : Jvm.Free.Fl.NoNaN64 a := Jvm.Free.Fl.val64_no.mpr (Whole.ne_nan h)
theorem zero_int : DInt 0 FP.dconst0 := by
  show Whole 0 (val64 dconst0)
  rw [val64_dconst0]
  show signed false (0 * _) = _
  simp [signed]
theorem ofInt_val {z : Int} (h1 : -9223372036854775808 ≤ z) (h2 : z < 9223372036854775808) : (Int64.ofInt z).toInt = z := by
  rw [Int64.toInt_ofInt, show Int64.size = 18446744073709551616 from rfl]; exact Int.bmod_eq_of_le (by omega) (by omega)
theorem dint_uniq {i j : Int} {a : UInt64} (h1 : DInt i a) (h2 : DInt j a) : i = j := by
  have z := DInt.zv h1
  rw [DInt.zv h2] at z
  exact (Int.eq_of_mul_eq_mul_right (by have := P_pos; omega) z).symm
theorem cmp_eq {i : Int} {a b : UInt64} (ha : DInt i a) (hb : DInt i b) : cmpValue (FP.dcmp a b) .l = 0 := by
  rw [show FP.dcmp a b = _ from dcmp_int ha hb, compare_self_int]; rfl
theorem l2d_of {r : Int} {a : UInt64} (h : DInt r a) (h1 : r.natAbs ≤ 4611686018427387904) : FP.d2l a = Int64.ofInt r ∧ DInt r (FP.l2d (Int64.ofInt r)) := by
  have e := ofInt_val (z := r) (by omega) (by omega)
  refine ⟨d2l_int (by rw [e]; exact h), ?_⟩
  obtain ⟨t, k1, k2⟩ := l2d_r (Int64.ofInt r) (by rw [e]; exact h1)
  rw [e] at k2
  rw [k2.exact h] at k1
  exact k1
theorem err_cmp {k : Int} {a : UInt64} (h : DInt k a) : 0 < cmpValue (FP.dcmp a FP.dconst0) .l ↔ 0 < k := by
  rw [show FP.dcmp a FP.dconst0 = _ from dcmp_int h zero_int, compare_ite]
  by_cases q : k < 0
  · rw [if_pos q]; exact ⟨fun z => absurd z (by decide), fun z => absurd z (by omega)⟩
  · rw [if_neg q]
    by_cases q2 : k = 0
    · rw [if_pos q2]; exact ⟨fun z => absurd z (by decide), fun z => absurd z (by omega)⟩
    · rw [if_neg q2]; exact ⟨fun _ => by omega, fun _ => by decide⟩
theorem same_round {i j : Int} {x y : UInt64} (hx : DInt i x) (hy : DInt j y) {S : Int64} (hS : S.toInt = i + j) {t : Int} (ht : DInt t (FP.dadd x y)) (hR : Rd (i + j) t) : DInt t (FP.l2d S) := by
  by_cases h0 : i + j = 0
  · have e : S = 0 := Int64.toInt_inj.mp (by rw [hS, h0]; rfl)
    rw [h0] at hR
    rw [hR.exact zero_int, e]
    have := l2d_int (a := 0) (by decide)
    exact this
  · obtain ⟨s, c, q, ex⟩ := DInt.fin hx
    obtain ⟨s', c', q', ey⟩ := DInt.fin hy
    have k := round_sum_whole (f := b64) (ex ▸ hx : Whole i (.fin s c q)) (ey ▸ hy : Whole j (.fin s' c' q')) (fun z => absurd z h0)
    rw [← ex, ← ey, ← val64_dadd, ← hS, ← val64_l2d] at k
    unfold DInt at ht ⊢
    rw [← k]; exact ht
/-- what the law asks of the sum, once it is made -/
theorem law_ok {i j : Int} {x y : UInt64} (hx : DInt i x) (hy : DInt j y) (hi : i.natAbs ≤ 2305843009213693952) (hj : j.natAbs ≤ 2305843009213693952)
    (H : j.natAbs ≤ 2147483648 ∨ (i.natAbs ≤ 2147483648 ∧ (j % 512 = 0 ∨ (i + j).natAbs ≤ 9007199254740992))) {S : Int64} (hS : S.toInt = i + j) (hs : (i + j).natAbs ≤ 2305843011361177600) :
    cmpValue (FP.dcmp (FP.l2d (FP.d2l (addE x y))) (addE x y)) .l = 0 ∧
    (¬ (lcmpW (FP.d2l (FP.l2d S)) S < 0) → cmpValue (FP.dcmp (addE x y) (FP.l2d S)) .l = 0) ∧
    (lcmpW (FP.d2l (FP.l2d S)) S < 0 → 0 < lcmpW (FP.d2l (addE x y)) S ∧
      (cmpValue (FP.dcmp (FP.l2d ((FP.d2l (FP.l2d S) + FP.d2l (addE x y)) / 2)) (FP.l2d S)) .l = 0 ∨ cmpValue (FP.dcmp (FP.l2d ((FP.d2l (FP.l2d S) + FP.d2l (addE x y)) / 2)) (addE x y)) .l = 0)) := by
  obtain ⟨t, u, v, w, z, ht, hR, -, -, -, -, he⟩ := two_sum hx hy hi hj H
  have hnear := hR.near (by omega)
  have hd := same_round hx hy hS ht hR
  obtain ⟨ed, ed'⟩ := l2d_of hd (by omega)
  have et := ofInt_val (z := t) (by omega) (by omega)
  have hc := err_cmp he
  by_cases hlt : t < i + j
  · have er : addE x y = nextE (FP.dadd x y) := if_pos (hc.mpr (by omega))
    obtain ⟨-, -, r, hr, h1, h2, h3, h4⟩ := up_spec ht hR hlt hs
    obtain ⟨e1, e1'⟩ := l2d_of hr (by omega)
    have e2 := ofInt_val (z := r) (by omega) (by omega)
    rw [er, e1, ed]
    refine ⟨cmp_eq e1' hr, fun q => absurd ((lw_lt _ _).mpr (Int64.lt_iff_toInt_lt.mpr (by rw [et, hS]; exact hlt))) q, fun _ => ⟨(lw_gt _ _).mpr (Int64.lt_iff_toInt_lt.mpr (by rw [e2, hS]; exact h1)), ?_⟩⟩
    have ea := int64_add (a := Int64.ofInt t) (b := Int64.ofInt r) (by rw [et, e2]; omega) (by rw [et, e2]; omega)
    rw [et, e2] at ea
    have k := c_ldiv (Int64.ofInt t + Int64.ofInt r) 2 2 (by decide) (by decide)
    rw [ea] at k
    have hm : t ≤ ((Int64.ofInt t + Int64.ofInt r) / 2).toInt ∧ ((Int64.ofInt t + Int64.ofInt r) / 2).toInt ≤ r := by
      rcases Int.lt_or_le (t + r) 0 with q | q
      · have := k.2 q; omega
      · have := k.1 q; omega
    generalize (Int64.ofInt t + Int64.ofInt r) / 2 = M at hm ⊢
    obtain ⟨t3, k1, k2⟩ := l2d_r M (by omega)
    have b1 := (k2 t _ hd).2 hm.1
    have b2 := (k2 r _ hr).1 hm.2
    have ne : t ≠ 0 := by omega
    have same : FP.dadd x y = FP.l2d S := dint_unique ne ht hd
    have z1 : dkey (FP.l2d S) ≤ dkey (FP.l2d M) := (le_key (DInt.ne hd) (DInt.ne k1)).mp (by rw [DInt.zv hd, DInt.zv k1]; exact Int.mul_le_mul_of_nonneg_right b1 (Int.natCast_nonneg _))
    have z2 : dkey (FP.l2d M) ≤ dkey (nextE (FP.dadd x y)) := (le_key (DInt.ne k1) (DInt.ne hr)).mp (by rw [DInt.zv hr, DInt.zv k1]; exact Int.mul_le_mul_of_nonneg_right b2 (Int.natCast_nonneg _))
    rw [same] at h3 z2 ⊢
    rcases Int.lt_or_le (dkey (FP.l2d S)) (dkey (FP.l2d M)) with q | q
    · right
      rw [show FP.dcmp (FP.l2d M) (nextE (FP.l2d S)) = some .eq from (dcmp_eq_key (DInt.ne k1) (same ▸ DInt.ne hr)).mpr (by omega)]; rfl
    · left
      rw [show FP.dcmp (FP.l2d M) (FP.l2d S) = some .eq from (dcmp_eq_key (DInt.ne k1) (DInt.ne hd)).mpr (by omega)]; rfl
  · have er : addE x y = FP.dadd x y := if_neg (fun q => hlt (by have := hc.mp q; omega))
    obtain ⟨e1, e1'⟩ := l2d_of ht (by omega)
    rw [er, e1, ed]
    refine ⟨cmp_eq e1' ht, fun _ => cmp_eq ht hd, fun q => ?_⟩
    have := Int64.lt_iff_toInt_lt.mp ((lw_lt _ _).mp q)
    rw [et, hS] at this
    exact absurd this hlt
/-- what the walk of add asks -/
theorem add_nn {i j : Int} {x y : UInt64} (hx : DInt i x) (hy : DInt j y) (hi : i.natAbs ≤ 2305843009213693952) (hj : j.natAbs ≤ 2305843009213693952)
    (H : j.natAbs ≤ 2147483648 ∨ (i.natAbs ≤ 2147483648 ∧ (j % 512 = 0 ∨ (i + j).natAbs ≤ 9007199254740992))) :
    Jvm.Free.Fl.NoNaN64 (FP.dadd x y) ∧ Jvm.Free.Fl.NoNaN64 (bpE x y) ∧ Jvm.Free.Fl.NoNaN64 (FP.dsub (FP.dadd x y) (bpE x y)) ∧ Jvm.Free.Fl.NoNaN64 (FP.dsub x (FP.dsub (FP.dadd x y) (bpE x y))) ∧ Jvm.Free.Fl.NoNaN64 (FP.dsub y (bpE x y)) ∧ Jvm.Free.Fl.NoNaN64 (errE x y) := by
  obtain ⟨t, u, v, w, z, ht, hR, h1, h2, h3, h4, he⟩ := two_sum hx hy hi hj H
  exact ⟨own_nn ht, own_nn h1, own_nn h2, own_nn h3, own_nn h4, own_nn he⟩
/-- what the walk of nextUp asks, where it is called -/
theorem add_up {i j : Int} {x y : UInt64} (hx : DInt i x) (hy : DInt j y) (hi : i.natAbs ≤ 2305843009213693952) (hj : j.natAbs ≤ 2305843009213693952)
    (H : j.natAbs ≤ 2147483648 ∨ (i.natAbs ≤ 2147483648 ∧ (j % 512 = 0 ∨ (i + j).natAbs ≤ 9007199254740992))) (hs : (i + j).natAbs ≤ 2305843011361177600) (h : 0 < cmpValue (FP.dcmp (errE x y) FP.dconst0) .l) :
    Jvm.Free.Fl.Fin64 (FP.dadd x y) ∧ FP.dadd (FP.dadd x y) FP.dconst0 = FP.dadd x y ∧ ((nextE (FP.dadd x y)) &&& 0x7fffffffffffffff > 0x7ff0000000000000 && (nextE (FP.dadd x y)) &&& 0x0008000000000000 == 0) = false := by
  obtain ⟨t, u, v, w, z, ht, hR, -, -, -, -, he⟩ := two_sum hx hy hi hj H
  have hlt : t < i + j := by have := (err_cmp he).mp h; omega
  obtain ⟨h1, h2, r, hr, -, -, -, -⟩ := up_spec ht hR hlt hs
  refine ⟨(Jvm.Free.Fl.fin64_iff _).mpr h1, dadd_zero (Whole.ne_nan ht) fun q => h2 ?_, ?_⟩
  · rw [show FP.dadd x y = dzeroNeg from q]; decide
  · have k := (Jvm.Free.Fl.val64_no.mpr (Whole.ne_nan hr) : Jvm.Free.Fl.NoNaN64 (nextE (FP.dadd x y)))
    have k' : (nextE (FP.dadd x y)) &&& 0x7fffffffffffffff ≤ 0x7ff0000000000000 := k
    have : ¬ ((nextE (FP.dadd x y)) &&& 0x7fffffffffffffff > 0x7ff0000000000000) := UInt64.not_lt.mpr k'
    simp [this]
/-! the law's own numbers -/
def shE (u2 : Int32) : Int32 := if u2 &&& 3 = 0 then 0 else if u2 &&& 3 = 1 then 11 else if u2 &&& 3 = 2 then 22 else 30
abbrev scE (u2 : Int32) : Int64 := (1 : Int64) <<< ((shE u2) &&& 0x3f).toInt64
abbrev aE (u0 u2 : Int32) : UInt64 := FP.dmul (FP.i2d u0) (FP.l2d (scE u2))
abbrev sE (u0 u1 u2 : Int32) : Int64 := u0.toInt64 * scE u2 + u1.toInt64
theorem sc_cases (u2 : Int32) : scE u2 = 1 ∨ scE u2 = 2048 ∨ scE u2 = 4194304 ∨ scE u2 = 1073741824 := by
  unfold scE shE
  split
  · left; decide
  · split
    · right; left; decide
    · split
      · right; right; left; decide
      · right; right; right; decide
theorem mul_e {i j k : Int} {e : Nat} {x y : UInt64} (hx : DInt i x) (hy : DInt j y) (h : (i * j).natAbs ≤ 4611686018427387904) (hk : k.natAbs < 2 ^ 53) (he : e ≤ 900) (hij : i * j = k * ((2 ^ e : Nat) : Int)) : DInt (i * j) (FP.dmul x y) := by
  obtain ⟨t, k1, k2⟩ := rint h (whole_product hx hy) (val64_dmul x y)
  obtain ⟨a, ha⟩ := rep k e hk he
  rw [← hij] at ha
  rw [k2.exact ha] at k1; exact k1
theorem own_all (u0 u1 u2 : Int32) : ∃ i : Int, DInt i (aE u0 u2) ∧ DInt u1.toInt (FP.i2d u1) ∧ i.natAbs ≤ 2305843009213693952 ∧ (i % 512 = 0 ∨ (u1.toInt + i).natAbs ≤ 9007199254740992) ∧ (sE u0 u1 u2).toInt = i + u1.toInt := by
  have r0 := rng32 u0
  have r1 := rng32 u1
  have key : ∀ (c : Int64) (n : Int) (e : Nat), c.toInt = n → n = ((2 ^ e : Nat) : Int) → e ≤ 30 → (n % 512 = 0 ∨ n = 1) → 1 ≤ n → n ≤ 1073741824 →
      ∃ i : Int, DInt i (FP.dmul (FP.i2d u0) (FP.l2d c)) ∧ DInt u1.toInt (FP.i2d u1) ∧ i.natAbs ≤ 2305843009213693952 ∧ (i % 512 = 0 ∨ (u1.toInt + i).natAbs ≤ 9007199254740992) ∧ (u0.toInt64 * c + u1.toInt64).toInt = i + u1.toInt := by
    intro c n e hc hn he hm h1 h2
    have hb : (u0.toInt * n).natAbs ≤ 2147483648 * 1073741824 := by rw [Int.natAbs_mul]; exact Nat.mul_le_mul (by omega) (by omega)
    have dc : DInt n (FP.l2d c) := by
      have k := l2d_int (a := c) (by rw [hc]; rw [← pow_53]; omega)
      rw [hc] at k; exact k
    have dm := mul_e (k := u0.toInt) (e := e) (i2d_int u0) dc (by omega) (by rw [← pow_53]; omega) (by omega) (by rw [hn])
    refine ⟨u0.toInt * n, dm, i2d_int u1, by omega, ?_, ?_⟩
    · rcases hm with hm | hm
      · left; exact Int.emod_eq_zero_of_dvd (Int.dvd_mul_of_dvd_right (Int.dvd_of_emod_eq_zero hm))
      · right; subst hm; omega
    · have e1 := int64_mul (a := u0.toInt64) (b := c) (by rw [c_i2l, hc]; omega) (by rw [c_i2l, hc]; omega)
      rw [c_i2l, hc] at e1
      have e2 := int64_add (a := u0.toInt64 * c) (b := u1.toInt64) (by rw [e1, c_i2l]; omega) (by rw [e1, c_i2l]; omega)
      rw [e2, e1, c_i2l]
  unfold aE sE
  rcases sc_cases u2 with h | h | h | h <;> rw [h]
  · exact key 1 1 0 (by decide) (by decide) (by decide) (by decide) (by decide) (by decide)
  · exact key 2048 2048 11 (by decide) (by decide) (by decide) (by decide) (by decide) (by decide)
  · exact key 4194304 4194304 22 (by decide) (by decide) (by decide) (by decide) (by decide) (by decide)
  · exact key 1073741824 1073741824 30 (by decide) (by decide) (by decide) (by decide) (by decide) (by decide)
end Own2
theorem d_prog_34_method_2_code_0 : decode prog_34_method_2_code 0 = .ok (.dload_n 0, 1) := by decide +kernel
theorem d_prog_34_method_2_code_1 : decode prog_34_method_2_code 1 = .ok (.dload_n 2, 1) := by decide +kernel
theorem d_prog_34_method_2_code_2 : decode prog_34_method_2_code 2 = .ok (.dadd, 1) := by decide +kernel
theorem d_prog_34_method_2_code_3 : decode prog_34_method_2_code 3 = .ok (.dstore 4, 2) := by decide +kernel
theorem d_prog_34_method_2_code_5 : decode prog_34_method_2_code 5 = .ok (.dload 4, 2) := by decide +kernel
theorem d_prog_34_method_2_code_7 : decode prog_34_method_2_code 7 = .ok (.dload_n 0, 1) := by decide +kernel
theorem d_prog_34_method_2_code_8 : decode prog_34_method_2_code 8 = .ok (.dsub, 1) := by decide +kernel
theorem d_prog_34_method_2_code_9 : decode prog_34_method_2_code 9 = .ok (.dstore 6, 2) := by decide +kernel
theorem d_prog_34_method_2_code_11 : decode prog_34_method_2_code 11 = .ok (.dload_n 0, 1) := by decide +kernel
theorem d_prog_34_method_2_code_12 : decode prog_34_method_2_code 12 = .ok (.dload 4, 2) := by decide +kernel
theorem d_prog_34_method_2_code_14 : decode prog_34_method_2_code 14 = .ok (.dload 6, 2) := by decide +kernel
theorem d_prog_34_method_2_code_16 : decode prog_34_method_2_code 16 = .ok (.dsub, 1) := by decide +kernel
theorem d_prog_34_method_2_code_17 : decode prog_34_method_2_code 17 = .ok (.dsub, 1) := by decide +kernel
theorem d_prog_34_method_2_code_18 : decode prog_34_method_2_code 18 = .ok (.dload_n 2, 1) := by decide +kernel
theorem d_prog_34_method_2_code_19 : decode prog_34_method_2_code 19 = .ok (.dload 6, 2) := by decide +kernel
theorem d_prog_34_method_2_code_21 : decode prog_34_method_2_code 21 = .ok (.dsub, 1) := by decide +kernel
theorem d_prog_34_method_2_code_22 : decode prog_34_method_2_code 22 = .ok (.dadd, 1) := by decide +kernel
theorem d_prog_34_method_2_code_23 : decode prog_34_method_2_code 23 = .ok (.dstore 8, 2) := by decide +kernel
theorem d_prog_34_method_2_code_25 : decode prog_34_method_2_code 25 = .ok (.dload 8, 2) := by decide +kernel
theorem d_prog_34_method_2_code_27 : decode prog_34_method_2_code 27 = .ok (.dconst 0, 1) := by decide +kernel
theorem d_prog_34_method_2_code_28 : decode prog_34_method_2_code 28 = .ok (.dcmp .l, 1) := by decide +kernel
theorem d_prog_34_method_2_code_29 : decode prog_34_method_2_code 29 = .ok (.ifCond .le 11, 3) := by decide +kernel
theorem d_prog_34_method_2_code_32 : decode prog_34_method_2_code 32 = .ok (.dload 4, 2) := by decide +kernel
theorem d_prog_34_method_2_code_34 : decode prog_34_method_2_code 34 = .ok (.invokestatic 7, 3) := by decide +kernel
theorem d_prog_34_method_2_code_37 : decode prog_34_method_2_code 37 = .ok (.goto 5, 3) := by decide +kernel
theorem d_prog_34_method_2_code_40 : decode prog_34_method_2_code 40 = .ok (.dload 4, 2) := by decide +kernel
theorem d_prog_34_method_2_code_42 : decode prog_34_method_2_code 42 = .ok (.dreturn, 1) := by decide +kernel
theorem d_jdk_29_method_95_code_0 : decode jdk_29_method_95_code 0 = .ok (.dload_n 0, 1) := by decide +kernel
theorem d_jdk_29_method_95_code_1 : decode jdk_29_method_95_code 1 = .ok (.ldc2_w 327, 3) := by decide +kernel
theorem d_jdk_29_method_95_code_4 : decode jdk_29_method_95_code 4 = .ok (.dcmp .g, 1) := by decide +kernel
theorem d_jdk_29_method_95_code_5 : decode jdk_29_method_95_code 5 = .ok (.ifCond .ge 29, 3) := by decide +kernel
theorem d_jdk_29_method_95_code_8 : decode jdk_29_method_95_code 8 = .ok (.dload_n 0, 1) := by decide +kernel
theorem d_jdk_29_method_95_code_9 : decode jdk_29_method_95_code 9 = .ok (.dconst 0, 1) := by decide +kernel
theorem d_jdk_29_method_95_code_10 : decode jdk_29_method_95_code 10 = .ok (.dadd, 1) := by decide +kernel
theorem d_jdk_29_method_95_code_11 : decode jdk_29_method_95_code 11 = .ok (.invokestatic 79, 3) := by decide +kernel
theorem d_jdk_29_method_95_code_14 : decode jdk_29_method_95_code 14 = .ok (.lstore_n 2, 1) := by decide +kernel
theorem d_jdk_29_method_95_code_15 : decode jdk_29_method_95_code 15 = .ok (.lload_n 2, 1) := by decide +kernel
theorem d_jdk_29_method_95_code_16 : decode jdk_29_method_95_code 16 = .ok (.lload_n 2, 1) := by decide +kernel
theorem d_jdk_29_method_95_code_17 : decode jdk_29_method_95_code 17 = .ok (.lconst 0, 1) := by decide +kernel
theorem d_jdk_29_method_95_code_18 : decode jdk_29_method_95_code 18 = .ok (.lcmp, 1) := by decide +kernel
theorem d_jdk_29_method_95_code_19 : decode jdk_29_method_95_code 19 = .ok (.ifCond .lt 7, 3) := by decide +kernel
theorem d_jdk_29_method_95_code_22 : decode jdk_29_method_95_code 22 = .ok (.lconst 1, 1) := by decide +kernel
theorem d_jdk_29_method_95_code_23 : decode jdk_29_method_95_code 23 = .ok (.goto 6, 3) := by decide +kernel
theorem d_jdk_29_method_95_code_26 : decode jdk_29_method_95_code 26 = .ok (.ldc2_w 130, 3) := by decide +kernel
theorem d_jdk_29_method_95_code_29 : decode jdk_29_method_95_code 29 = .ok (.ladd, 1) := by decide +kernel
theorem d_jdk_29_method_95_code_30 : decode jdk_29_method_95_code 30 = .ok (.invokestatic 166, 3) := by decide +kernel
theorem d_jdk_29_method_95_code_33 : decode jdk_29_method_95_code 33 = .ok (.dreturn, 1) := by decide +kernel
theorem pn_prog_34_method_2_code : plainName "com/example/unsplit/unsplit/Upward" = true := by first | (simp [plainName, overriddenIn]; done) | decide +kernel
theorem pn_code : plainName "com/example/unsplit/unsplit/UpwardAddPinLaw" = true := by first | (simp [plainName, overriddenIn]; done) | decide +kernel
theorem pd__D_D : parseMethodDescriptor "(D)D" = some ⟨[.double], some .double⟩ := by decide +kernel
theorem pd__DD_D : parseMethodDescriptor "(DD)D" = some ⟨[.double, .double], some .double⟩ := by decide +kernel
def QV (r : Value) (n0 : Nat) (h0 : Heap) (v : Option Value) (h : Heap) (L : List Loc) : Prop := v = some r ∧ Fr n0 L ∧ h = h0
theorem own_plainN : plainFor (⟨"java/lang/Math", "nextUp", "(D)D"⟩ : MethodName) = true := by decide +kernel
def Q0 (n0 : Nat) (v : Option Value) (h : Heap) (L : List Loc) : Prop := v = some (.int 1) ∧ Fr n0 L
theorem ef_jdk_29_method_95_code (m : MethodId) (x0 : UInt64) : entryFrame m #[(.double x0)] 4 = mkF m 0 #[.val (.double x0), .second, .unset, .unset] [] := by first | (simp [entryFrame, mkF, argsToLocals, Value.category]; done) | rfl
set_option maxRecDepth 65536 in
set_option maxHeartbeats 40000000 in
theorem rmN_f (l : Launch) (Z : State) (a0 : Array Value) (hw : ∀ d ∈ tables_1, d.before a0 Z = true) (ws : List Jvm.Cond) (x0 : UInt64) (h0 : Heap) (n0 : Nat) (Z0 : n0 ≤ h0.size) (hf : Jvm.Free.Fl.Fin64 x0) (hz : FP.dadd x0 FP.dconst0 = x0) (hs : ((OwnFp.nextE x0) &&& 0x7fffffffffffffff > 0x7ff0000000000000 && (OwnFp.nextE x0) &&& 0x0008000000000000 == 0) = false) (hv : ¬ (x0.toInt64 < 0)) (hv' : (x0.toInt64 + (1 : Int64)).toUInt64 = OwnFp.nextE x0) :
    MetFree l (⟨"java/lang/Math", "nextUp", "(D)D"⟩ : MethodName) (head1 (Jvm.Cond.code (⟨"java/lang/Math", "nextUp", "(D)D"⟩ : MethodName) jdk_29_method_95_code 4 (some .double) :: ws) ({ frames := 1, cells := 0, slots := 0, locals := 15 } : Room)) (fun aa U => aa = #[(.double x0)] ∧ Z.Warmed39 U.vm ∧ U.heap = h0) (fun _ _ _ _ _ => True) (fun _ U o U' => ∃ v L, o = .returned v ∧ QV (.double (OwnFp.nextE x0)) n0 h0 v U'.heap L ∧ FrameEnd U o U' L ({ frames := 1, cells := 0, slots := 0, locals := 15 } : Room).cells ({ frames := 1, cells := 0, slots := 0, locals := 15 } : Room).slots) := by
  refine MetFree.of_bodySF own_plainN hisR ?_
  intro p e s m args below meth c s₁ Bd hml0 hP hK
  obtain ⟨rfl, hZ, hh⟩ := hP
  have hx := Bd.exec
  have hby := Bd.bytes
  have hml : c.maxLocals = 4 := hml0
  have hown : s.vm.findClass "java/lang/Math" = some m.cls := findClass_of_methodNamed Bd.named
  have hnm := (name_of_methodNamed Bd.named Bd.method).1
  have X0 : Stand p l e ({ frames := 1, cells := 0, slots := 0, locals := 15 } : Room) s m #[(.double x0)] below meth c s₁ [] 0 0 := Stand.of_body Bd
  have e0 : s₁.heap = h0 := by rw [← hh, Bd.state]; rfl
  have N0 := Fr.nil n0
  have pre0 : ∀ t, Steps p.tables e below (s₁.setTop (mkF m 0 #[.val (.double x0), .second, .unset, .unset] [])) t → Steps p.tables e below (s₁.setTop (entryFrame m #[(.double x0)] 4)) t := fun t k => castTop (ef_jdk_29_method_95_code m x0) k
  obtain ⟨vm1, X1, st1⟩ := X0.doubleToRawLongBits hx hown (mvT hZ (hw _ (List.mem_of_getElem? (i := 9) rfl))) (mvT hZ (hw _ (List.mem_of_getElem? (i := 12) rfl))) (mvT hZ (hw _ (List.mem_of_getElem? (i := 10) rfl))) (mvT hZ (hw _ (List.mem_of_getElem? (i := 11) rfl))) (g := (mkF m 11 #[.val (.double x0), .second, .unset, .unset] [(.double x0)])) rfl (by rw [hml]; rfl) rfl (hb hby d_jdk_29_method_95_code_11) (by decide) (Nat.le_of_ble_eq_true rfl)
  have e1 : (s₁.setVm vm1).heap = h0 := e0
  obtain ⟨vm2, X2, st2⟩ := X1.longBitsToDouble hx hown (mvT hZ (hw _ (List.mem_of_getElem? (i := 14) rfl))) (mvT hZ (hw _ (List.mem_of_getElem? (i := 16) rfl))) (mvT hZ (hw _ (List.mem_of_getElem? (i := 15) rfl))) (mvT hZ (hw _ (List.mem_of_getElem? (i := 11) rfl))) (g := (mkF m 30 #[.val (.double x0), .second, .val (.long (x0.toInt64)), .second] [(.long ((x0.toInt64) + (1 : Int64)))])) rfl (by rw [hml]; rfl) (by rw [hv']; exact hs) rfl (hb hby d_jdk_29_method_95_code_30) (by decide) (Nat.le_of_ble_eq_true rfl)
  rw [hv'] at st2
  have e2 : ((s₁.setVm vm1).setVm vm2).heap = h0 := e1
  obtain ⟨fs, hr, hrun, hended, hW, hsame⟩ := X2.leave (v := some (.double (OwnFp.nextE x0))) (fun h => by rw [Bd.returns] at h; cases h)
  refine ⟨_, _, pre0 _ ?_, hrun, hended, _, _, rfl, ?_, ⟨_, rfl⟩, hW, hsame.mono (by decide) (by decide)⟩
  · show Steps p.tables e below (s₁.setTop (mkF m 0 #[.val (.double x0), .second, .unset, .unset] [])) _
    refine XS.dloadN X0.here hx rfl (hb hby d_jdk_29_method_95_code_0) rfl ?_
    show Steps p.tables e below (s₁.setTop (mkF m 1 #[.val (.double x0), .second, .unset, .unset] [(.double x0)])) _
    refine X0.ldc2DoubleC hx hown (mvT hZ (hw _ (List.mem_of_getElem? (i := 8) rfl))) (g := (mkF m 1 #[.val (.double x0), .second, .unset, .unset] [(.double x0)])) rfl (hb hby d_jdk_29_method_95_code_1) _ ?_
    show Steps p.tables e below (s₁.setTop (mkF m 4 #[.val (.double x0), .second, .unset, .unset] [(.double (9218868437227405312 : UInt64)), (.double x0)])) _
    refine XS.dcmpS X0.here hx rfl (hb hby d_jdk_29_method_95_code_4) rfl (v := (-1 : Int32)) (dcmp_pinf hf .g) ?_
    show Steps p.tables e below (s₁.setTop (mkF m 5 #[.val (.double x0), .second, .unset, .unset] [(.int (-1 : Int32))])) _
    refine XS.ifNo X0.here hx rfl (hb hby d_jdk_29_method_95_code_5) rfl ((if0 _ _).trans (tlt (by decide : (-1 : Int32) < (0 : Int32))).2.1) ?_
    show Steps p.tables e below (s₁.setTop (mkF m 8 #[.val (.double x0), .second, .unset, .unset] [])) _
    refine XS.dloadN X0.here hx rfl (hb hby d_jdk_29_method_95_code_8) rfl ?_
    show Steps p.tables e below (s₁.setTop (mkF m 9 #[.val (.double x0), .second, .unset, .unset] [(.double x0)])) _
    refine XS.dconst0 X0.here hx rfl (v := FP.dconst0) (hb hby d_jdk_29_method_95_code_9) rfl ?_
    show Steps p.tables e below (s₁.setTop (mkF m 10 #[.val (.double x0), .second, .unset, .unset] [(.double FP.dconst0), (.double x0)])) _
    refine XS.daddS X0.here hx rfl (hb hby d_jdk_29_method_95_code_10) rfl (by rw [hz]; exact hf.noNaN) (v := x0) hz ?_
    show Steps p.tables e below (s₁.setTop (mkF m 11 #[.val (.double x0), .second, .unset, .unset] [(.double x0)])) _
    refine st1 _ ?_
    show Steps p.tables e below ((s₁.setVm vm1).setTop (mkF m 14 #[.val (.double x0), .second, .unset, .unset] [(.long (x0.toInt64))])) _
    refine XS.lstoreN X1.here hx rfl (hb hby d_jdk_29_method_95_code_14) rfl (l' := #[.val (.double x0), .second, .val (.long (x0.toInt64)), .second]) rfl ?_
    show Steps p.tables e below ((s₁.setVm vm1).setTop (mkF m 15 #[.val (.double x0), .second, .val (.long (x0.toInt64)), .second] [])) _
    refine XS.lloadN X1.here hx rfl (hb hby d_jdk_29_method_95_code_15) rfl ?_
    show Steps p.tables e below ((s₁.setVm vm1).setTop (mkF m 16 #[.val (.double x0), .second, .val (.long (x0.toInt64)), .second] [(.long (x0.toInt64))])) _
    refine XS.lloadN X1.here hx rfl (hb hby d_jdk_29_method_95_code_16) rfl ?_
    show Steps p.tables e below ((s₁.setVm vm1).setTop (mkF m 17 #[.val (.double x0), .second, .val (.long (x0.toInt64)), .second] [(.long (x0.toInt64)), (.long (x0.toInt64))])) _
    refine XS.lconst X1.here hx rfl (hb hby d_jdk_29_method_95_code_17) ?_
    show Steps p.tables e below ((s₁.setVm vm1).setTop (mkF m 18 #[.val (.double x0), .second, .val (.long (x0.toInt64)), .second] [(.long (0 : Int64)), (.long (x0.toInt64)), (.long (x0.toInt64))])) _
    refine XS.lcmp X1.here hx rfl (hb hby d_jdk_29_method_95_code_18) rfl ?_
    show Steps p.tables e below ((s₁.setVm vm1).setTop (mkF m 19 #[.val (.double x0), .second, .val (.long (x0.toInt64)), .second] [(.int (lcmpW (x0.toInt64) (0 : Int64))), (.long (x0.toInt64))])) _
    refine XS.ifNo X1.here hx rfl (hb hby d_jdk_29_method_95_code_19) rfl ((if0 _ _).trans (flt ((fun q => hv ((lw_lt _ _).mp q)) : ¬ ((lcmpW (x0.toInt64) (0 : Int64)) < (0 : Int32)))).1) ?_
    show Steps p.tables e below ((s₁.setVm vm1).setTop (mkF m 22 #[.val (.double x0), .second, .val (.long (x0.toInt64)), .second] [(.long (x0.toInt64))])) _
    refine XS.lconst X1.here hx rfl (hb hby d_jdk_29_method_95_code_22) ?_
    show Steps p.tables e below ((s₁.setVm vm1).setTop (mkF m 23 #[.val (.double x0), .second, .val (.long (x0.toInt64)), .second] [(.long (1 : Int64)), (.long (x0.toInt64))])) _
    refine XS.goto X1.here hx rfl (pc0 := 23) (pc' := 29) rfl (hb hby d_jdk_29_method_95_code_23) (by decide) (by decide) ?_
    show Steps p.tables e below ((s₁.setVm vm1).setTop (mkF m 29 #[.val (.double x0), .second, .val (.long (x0.toInt64)), .second] [(.long (1 : Int64)), (.long (x0.toInt64))])) _
    refine XS.ladd X1.here hx rfl (hb hby d_jdk_29_method_95_code_29) rfl ?_
    show Steps p.tables e below ((s₁.setVm vm1).setTop (mkF m 30 #[.val (.double x0), .second, .val (.long (x0.toInt64)), .second] [(.long ((x0.toInt64) + (1 : Int64)))])) _
    refine st2 _ ?_
    show Steps p.tables e below (((s₁.setVm vm1).setVm vm2).setTop (mkF m 33 #[.val (.double x0), .second, .val (.long (x0.toInt64)), .second] [(.double (OwnFp.nextE x0))])) _
    exact own_retD X2 hx Bd.returns (hb hby d_jdk_29_method_95_code_33) hr
  · show QV (.double (OwnFp.nextE x0)) n0 h0 _ ((s₁.setVm vm1).setVm vm2).heap _
    rw [e2]
    exact ⟨rfl, N0, rfl⟩
set_option maxRecDepth 65536 in
set_option maxHeartbeats 40000000 in
theorem rmN_t (l : Launch) (Z : State) (a0 : Array Value) (hw : ∀ d ∈ tables_1, d.before a0 Z = true) (ws : List Jvm.Cond) (x0 : UInt64) (h0 : Heap) (n0 : Nat) (Z0 : n0 ≤ h0.size) (hf : Jvm.Free.Fl.Fin64 x0) (hz : FP.dadd x0 FP.dconst0 = x0) (hs : ((OwnFp.nextE x0) &&& 0x7fffffffffffffff > 0x7ff0000000000000 && (OwnFp.nextE x0) &&& 0x0008000000000000 == 0) = false) (hv : x0.toInt64 < 0) (hv' : (x0.toInt64 + (-1 : Int64)).toUInt64 = OwnFp.nextE x0) :
    MetFree l (⟨"java/lang/Math", "nextUp", "(D)D"⟩ : MethodName) (head1 (Jvm.Cond.code (⟨"java/lang/Math", "nextUp", "(D)D"⟩ : MethodName) jdk_29_method_95_code 4 (some .double) :: ws) ({ frames := 1, cells := 0, slots := 0, locals := 15 } : Room)) (fun aa U => aa = #[(.double x0)] ∧ Z.Warmed39 U.vm ∧ U.heap = h0) (fun _ _ _ _ _ => True) (fun _ U o U' => ∃ v L, o = .returned v ∧ QV (.double (OwnFp.nextE x0)) n0 h0 v U'.heap L ∧ FrameEnd U o U' L ({ frames := 1, cells := 0, slots := 0, locals := 15 } : Room).cells ({ frames := 1, cells := 0, slots := 0, locals := 15 } : Room).slots) := by
  refine MetFree.of_bodySF own_plainN hisR ?_
  intro p e s m args below meth c s₁ Bd hml0 hP hK
  obtain ⟨rfl, hZ, hh⟩ := hP
  have hx := Bd.exec
  have hby := Bd.bytes
  have hml : c.maxLocals = 4 := hml0
  have hown : s.vm.findClass "java/lang/Math" = some m.cls := findClass_of_methodNamed Bd.named
  have hnm := (name_of_methodNamed Bd.named Bd.method).1
  have X0 : Stand p l e ({ frames := 1, cells := 0, slots := 0, locals := 15 } : Room) s m #[(.double x0)] below meth c s₁ [] 0 0 := Stand.of_body Bd
  have e0 : s₁.heap = h0 := by rw [← hh, Bd.state]; rfl
  have N0 := Fr.nil n0
  have pre0 : ∀ t, Steps p.tables e below (s₁.setTop (mkF m 0 #[.val (.double x0), .second, .unset, .unset] [])) t → Steps p.tables e below (s₁.setTop (entryFrame m #[(.double x0)] 4)) t := fun t k => castTop (ef_jdk_29_method_95_code m x0) k
  obtain ⟨vm1, X1, st1⟩ := X0.doubleToRawLongBits hx hown (mvT hZ (hw _ (List.mem_of_getElem? (i := 9) rfl))) (mvT hZ (hw _ (List.mem_of_getElem? (i := 12) rfl))) (mvT hZ (hw _ (List.mem_of_getElem? (i := 10) rfl))) (mvT hZ (hw _ (List.mem_of_getElem? (i := 11) rfl))) (g := (mkF m 11 #[.val (.double x0), .second, .unset, .unset] [(.double x0)])) rfl (by rw [hml]; rfl) rfl (hb hby d_jdk_29_method_95_code_11) (by decide) (Nat.le_of_ble_eq_true rfl)
  have e1 : (s₁.setVm vm1).heap = h0 := e0
  obtain ⟨vm2, X2, st2⟩ := X1.longBitsToDouble hx hown (mvT hZ (hw _ (List.mem_of_getElem? (i := 14) rfl))) (mvT hZ (hw _ (List.mem_of_getElem? (i := 16) rfl))) (mvT hZ (hw _ (List.mem_of_getElem? (i := 15) rfl))) (mvT hZ (hw _ (List.mem_of_getElem? (i := 11) rfl))) (g := (mkF m 30 #[.val (.double x0), .second, .val (.long (x0.toInt64)), .second] [(.long ((x0.toInt64) + (-1 : Int64)))])) rfl (by rw [hml]; rfl) (by rw [hv']; exact hs) rfl (hb hby d_jdk_29_method_95_code_30) (by decide) (Nat.le_of_ble_eq_true rfl)
  rw [hv'] at st2
  have e2 : ((s₁.setVm vm1).setVm vm2).heap = h0 := e1
  obtain ⟨fs, hr, hrun, hended, hW, hsame⟩ := X2.leave (v := some (.double (OwnFp.nextE x0))) (fun h => by rw [Bd.returns] at h; cases h)
  refine ⟨_, _, pre0 _ ?_, hrun, hended, _, _, rfl, ?_, ⟨_, rfl⟩, hW, hsame.mono (by decide) (by decide)⟩
  · show Steps p.tables e below (s₁.setTop (mkF m 0 #[.val (.double x0), .second, .unset, .unset] [])) _
    refine XS.dloadN X0.here hx rfl (hb hby d_jdk_29_method_95_code_0) rfl ?_
    show Steps p.tables e below (s₁.setTop (mkF m 1 #[.val (.double x0), .second, .unset, .unset] [(.double x0)])) _
    refine X0.ldc2DoubleC hx hown (mvT hZ (hw _ (List.mem_of_getElem? (i := 8) rfl))) (g := (mkF m 1 #[.val (.double x0), .second, .unset, .unset] [(.double x0)])) rfl (hb hby d_jdk_29_method_95_code_1) _ ?_
    show Steps p.tables e below (s₁.setTop (mkF m 4 #[.val (.double x0), .second, .unset, .unset] [(.double (9218868437227405312 : UInt64)), (.double x0)])) _
    refine XS.dcmpS X0.here hx rfl (hb hby d_jdk_29_method_95_code_4) rfl (v := (-1 : Int32)) (dcmp_pinf hf .g) ?_
    show Steps p.tables e below (s₁.setTop (mkF m 5 #[.val (.double x0), .second, .unset, .unset] [(.int (-1 : Int32))])) _
    refine XS.ifNo X0.here hx rfl (hb hby d_jdk_29_method_95_code_5) rfl ((if0 _ _).trans (tlt (by decide : (-1 : Int32) < (0 : Int32))).2.1) ?_
    show Steps p.tables e below (s₁.setTop (mkF m 8 #[.val (.double x0), .second, .unset, .unset] [])) _
    refine XS.dloadN X0.here hx rfl (hb hby d_jdk_29_method_95_code_8) rfl ?_
    show Steps p.tables e below (s₁.setTop (mkF m 9 #[.val (.double x0), .second, .unset, .unset] [(.double x0)])) _
    refine XS.dconst0 X0.here hx rfl (v := FP.dconst0) (hb hby d_jdk_29_method_95_code_9) rfl ?_
    show Steps p.tables e below (s₁.setTop (mkF m 10 #[.val (.double x0), .second, .unset, .unset] [(.double FP.dconst0), (.double x0)])) _
    refine XS.daddS X0.here hx rfl (hb hby d_jdk_29_method_95_code_10) rfl (by rw [hz]; exact hf.noNaN) (v := x0) hz ?_
    show Steps p.tables e below (s₁.setTop (mkF m 11 #[.val (.double x0), .second, .unset, .unset] [(.double x0)])) _
    refine st1 _ ?_
    show Steps p.tables e below ((s₁.setVm vm1).setTop (mkF m 14 #[.val (.double x0), .second, .unset, .unset] [(.long (x0.toInt64))])) _
    refine XS.lstoreN X1.here hx rfl (hb hby d_jdk_29_method_95_code_14) rfl (l' := #[.val (.double x0), .second, .val (.long (x0.toInt64)), .second]) rfl ?_
    show Steps p.tables e below ((s₁.setVm vm1).setTop (mkF m 15 #[.val (.double x0), .second, .val (.long (x0.toInt64)), .second] [])) _
    refine XS.lloadN X1.here hx rfl (hb hby d_jdk_29_method_95_code_15) rfl ?_
    show Steps p.tables e below ((s₁.setVm vm1).setTop (mkF m 16 #[.val (.double x0), .second, .val (.long (x0.toInt64)), .second] [(.long (x0.toInt64))])) _
    refine XS.lloadN X1.here hx rfl (hb hby d_jdk_29_method_95_code_16) rfl ?_
    show Steps p.tables e below ((s₁.setVm vm1).setTop (mkF m 17 #[.val (.double x0), .second, .val (.long (x0.toInt64)), .second] [(.long (x0.toInt64)), (.long (x0.toInt64))])) _
    refine XS.lconst X1.here hx rfl (hb hby d_jdk_29_method_95_code_17) ?_
    show Steps p.tables e below ((s₁.setVm vm1).setTop (mkF m 18 #[.val (.double x0), .second, .val (.long (x0.toInt64)), .second] [(.long (0 : Int64)), (.long (x0.toInt64)), (.long (x0.toInt64))])) _
    refine XS.lcmp X1.here hx rfl (hb hby d_jdk_29_method_95_code_18) rfl ?_
    show Steps p.tables e below ((s₁.setVm vm1).setTop (mkF m 19 #[.val (.double x0), .second, .val (.long (x0.toInt64)), .second] [(.int (lcmpW (x0.toInt64) (0 : Int64))), (.long (x0.toInt64))])) _
    refine XS.ifYes X1.here hx rfl (pc0 := 19) (pc' := 26) rfl (hb hby d_jdk_29_method_95_code_19) rfl ((if0 _ _).trans (tlt ((lw_lt _ _).mpr hv : (lcmpW (x0.toInt64) (0 : Int64)) < (0 : Int32))).1) (by decide) (by decide) ?_
    show Steps p.tables e below ((s₁.setVm vm1).setTop (mkF m 26 #[.val (.double x0), .second, .val (.long (x0.toInt64)), .second] [(.long (x0.toInt64))])) _
    refine X1.ldc2Long hx hown (mvT hZ (hw _ (List.mem_of_getElem? (i := 13) rfl))) (g := (mkF m 26 #[.val (.double x0), .second, .val (.long (x0.toInt64)), .second] [(.long (x0.toInt64))])) rfl (hb hby d_jdk_29_method_95_code_26) _ ?_
    show Steps p.tables e below ((s₁.setVm vm1).setTop (mkF m 29 #[.val (.double x0), .second, .val (.long (x0.toInt64)), .second] [(.long (-1 : Int64)), (.long (x0.toInt64))])) _
    refine XS.ladd X1.here hx rfl (hb hby d_jdk_29_method_95_code_29) rfl ?_
    show Steps p.tables e below ((s₁.setVm vm1).setTop (mkF m 30 #[.val (.double x0), .second, .val (.long (x0.toInt64)), .second] [(.long ((x0.toInt64) + (-1 : Int64)))])) _
    refine st2 _ ?_
    show Steps p.tables e below (((s₁.setVm vm1).setVm vm2).setTop (mkF m 33 #[.val (.double x0), .second, .val (.long (x0.toInt64)), .second] [(.double (OwnFp.nextE x0))])) _
    exact own_retD X2 hx Bd.returns (hb hby d_jdk_29_method_95_code_33) hr
  · show QV (.double (OwnFp.nextE x0)) n0 h0 _ ((s₁.setVm vm1).setVm vm2).heap _
    rw [e2]
    exact ⟨rfl, N0, rfl⟩
theorem rmN (l : Launch) (Z : State) (a0 : Array Value) (hw : ∀ d ∈ tables_1, d.before a0 Z = true) (ws : List Jvm.Cond) (x0 : UInt64) (h0 : Heap) (n0 : Nat) (Z0 : n0 ≤ h0.size) (hf : Jvm.Free.Fl.Fin64 x0) (hz : FP.dadd x0 FP.dconst0 = x0) (hs : ((OwnFp.nextE x0) &&& 0x7fffffffffffffff > 0x7ff0000000000000 && (OwnFp.nextE x0) &&& 0x0008000000000000 == 0) = false) :
    MetFree l (⟨"java/lang/Math", "nextUp", "(D)D"⟩ : MethodName) (head1 (Jvm.Cond.code (⟨"java/lang/Math", "nextUp", "(D)D"⟩ : MethodName) jdk_29_method_95_code 4 (some .double) :: ws) ({ frames := 1, cells := 0, slots := 0, locals := 15 } : Room)) (fun aa U => aa = #[(.double x0)] ∧ Z.Warmed39 U.vm ∧ U.heap = h0) (fun _ _ _ _ _ => True) (fun _ U o U' => ∃ v L, o = .returned v ∧ QV (.double (OwnFp.nextE x0)) n0 h0 v U'.heap L ∧ FrameEnd U o U' L ({ frames := 1, cells := 0, slots := 0, locals := 15 } : Room).cells ({ frames := 1, cells := 0, slots := 0, locals := 15 } : Room).slots) := by
  by_cases h : x0.toInt64 < 0
  · exact rmN_t l Z a0 hw ws x0 h0 n0 Z0 hf hz hs h (by unfold OwnFp.nextE; rw [if_pos h])
  · exact rmN_f l Z a0 hw ws x0 h0 n0 Z0 hf hz hs h (by unfold OwnFp.nextE; rw [if_neg h])
theorem ef_prog_34_method_2_code (m : MethodId) (x0 : UInt64) (x1 : UInt64) : entryFrame m #[(.double x0), (.double x1)] 10 = mkF m 0 #[.val (.double x0), .second, .val (.double x1), .second, .unset, .unset, .unset, .unset, .unset, .unset] [] := by first | (simp [entryFrame, mkF, argsToLocals, Value.category]; done) | rfl
set_option maxRecDepth 65536 in
set_option maxHeartbeats 40000000 in
theorem rmA_t (l : Launch) (Z : State) (a0 : Array Value) (hw : ∀ d ∈ tables_1, d.before a0 Z = true) (ws : List Jvm.Cond) (x0 x1 : UInt64) (h0 : Heap) (n0 : Nat) (Z0 : n0 ≤ h0.size) (k1 : Jvm.Free.Fl.NoNaN64 (FP.dadd x0 x1)) (k2 : Jvm.Free.Fl.NoNaN64 (bpE x0 x1)) (k3 : Jvm.Free.Fl.NoNaN64 (FP.dsub (FP.dadd x0 x1) (bpE x0 x1))) (k4 : Jvm.Free.Fl.NoNaN64 (FP.dsub x0 (FP.dsub (FP.dadd x0 x1) (bpE x0 x1)))) (k5 : Jvm.Free.Fl.NoNaN64 (FP.dsub x1 (bpE x0 x1))) (k6 : Jvm.Free.Fl.NoNaN64 (errE x0 x1)) (hc : ¬ (0 < cmpValue (FP.dcmp (errE x0 x1) FP.dconst0) .l)) :
    MetFree l (⟨"com/example/unsplit/unsplit/Upward", "add", "(DD)D"⟩ : MethodName) (head1 (Jvm.Cond.code (⟨"com/example/unsplit/unsplit/Upward", "add", "(DD)D"⟩ : MethodName) prog_34_method_2_code 10 (some .double) :: ws) ({ frames := 2, cells := 0, slots := 0, locals := 30 } : Room)) (fun aa U => aa = #[(.double x0), (.double x1)] ∧ Z.Warmed39 U.vm ∧ U.heap = h0) (fun _ _ _ _ _ => True) (fun _ U o U' => ∃ v L, o = .returned v ∧ QV (.double (FP.dadd x0 x1)) n0 h0 v U'.heap L ∧ FrameEnd U o U' L ({ frames := 2, cells := 0, slots := 0, locals := 30 } : Room).cells ({ frames := 2, cells := 0, slots := 0, locals := 30 } : Room).slots) := by
  refine MetFree.of_bodySF (plainFor_of_name pn_prog_34_method_2_code) hisR ?_
  intro p e s m args below meth c s₁ Bd hml0 hP hK
  obtain ⟨rfl, hZ, hh⟩ := hP
  have hx := Bd.exec
  have hby := Bd.bytes
  have hml : c.maxLocals = 10 := hml0
  have hown : s.vm.findClass "com/example/unsplit/unsplit/Upward" = some m.cls := findClass_of_methodNamed Bd.named
  have hnm := (name_of_methodNamed Bd.named Bd.method).1
  have X0 : Stand p l e ({ frames := 2, cells := 0, slots := 0, locals := 30 } : Room) s m #[(.double x0), (.double x1)] below meth c s₁ [] 0 0 := Stand.of_body Bd
  have e0 : s₁.heap = h0 := by rw [← hh, Bd.state]; rfl
  have N0 := Fr.nil n0
  have pre0 : ∀ t, Steps p.tables e below (s₁.setTop (mkF m 0 #[.val (.double x0), .second, .val (.double x1), .second, .unset, .unset, .unset, .unset, .unset, .unset] [])) t → Steps p.tables e below (s₁.setTop (entryFrame m #[(.double x0), (.double x1)] 10)) t := fun t k => castTop (ef_prog_34_method_2_code m x0 x1) k
  obtain ⟨fs, hr, hrun, hended, hW, hsame⟩ := X0.leave (v := some (.double (FP.dadd x0 x1))) (fun h => by rw [Bd.returns] at h; cases h)
  refine ⟨_, _, pre0 _ ?_, hrun, hended, _, _, rfl, ?_, ⟨_, rfl⟩, hW, hsame.mono (by decide) (by decide)⟩
  · show Steps p.tables e below (s₁.setTop (mkF m 0 #[.val (.double x0), .second, .val (.double x1), .second, .unset, .unset, .unset, .unset, .unset, .unset] [])) _
    refine XS.dloadN X0.here hx rfl (hb hby d_prog_34_method_2_code_0) rfl ?_
    show Steps p.tables e below (s₁.setTop (mkF m 1 #[.val (.double x0), .second, .val (.double x1), .second, .unset, .unset, .unset, .unset, .unset, .unset] [(.double x0)])) _
    refine XS.dloadN X0.here hx rfl (hb hby d_prog_34_method_2_code_1) rfl ?_
    show Steps p.tables e below (s₁.setTop (mkF m 2 #[.val (.double x0), .second, .val (.double x1), .second, .unset, .unset, .unset, .unset, .unset, .unset] [(.double x1), (.double x0)])) _
    refine XS.daddS X0.here hx rfl (hb hby d_prog_34_method_2_code_2) rfl k1 (v := (FP.dadd x0 x1)) rfl ?_
    show Steps p.tables e below (s₁.setTop (mkF m 3 #[.val (.double x0), .second, .val (.double x1), .second, .unset, .unset, .unset, .unset, .unset, .unset] [(.double (FP.dadd x0 x1))])) _
    refine XS.dstore X0.here hx rfl (hb hby d_prog_34_method_2_code_3) rfl (l' := #[.val (.double x0), .second, .val (.double x1), .second, .val (.double (FP.dadd x0 x1)), .second, .unset, .unset, .unset, .unset]) rfl ?_
    show Steps p.tables e below (s₁.setTop (mkF m 5 #[.val (.double x0), .second, .val (.double x1), .second, .val (.double (FP.dadd x0 x1)), .second, .unset, .unset, .unset, .unset] [])) _
    refine XS.dload X0.here hx rfl (hb hby d_prog_34_method_2_code_5) rfl ?_
    show Steps p.tables e below (s₁.setTop (mkF m 7 #[.val (.double x0), .second, .val (.double x1), .second, .val (.double (FP.dadd x0 x1)), .second, .unset, .unset, .unset, .unset] [(.double (FP.dadd x0 x1))])) _
    refine XS.dloadN X0.here hx rfl (hb hby d_prog_34_method_2_code_7) rfl ?_
    show Steps p.tables e below (s₁.setTop (mkF m 8 #[.val (.double x0), .second, .val (.double x1), .second, .val (.double (FP.dadd x0 x1)), .second, .unset, .unset, .unset, .unset] [(.double x0), (.double (FP.dadd x0 x1))])) _
    refine XS.dsubS X0.here hx rfl (hb hby d_prog_34_method_2_code_8) rfl k2 (v := (FP.dsub (FP.dadd x0 x1) x0)) rfl ?_
    show Steps p.tables e below (s₁.setTop (mkF m 9 #[.val (.double x0), .second, .val (.double x1), .second, .val (.double (FP.dadd x0 x1)), .second, .unset, .unset, .unset, .unset] [(.double (FP.dsub (FP.dadd x0 x1) x0))])) _
    refine XS.dstore X0.here hx rfl (hb hby d_prog_34_method_2_code_9) rfl (l' := #[.val (.double x0), .second, .val (.double x1), .second, .val (.double (FP.dadd x0 x1)), .second, .val (.double (FP.dsub (FP.dadd x0 x1) x0)), .second, .unset, .unset]) rfl ?_
    show Steps p.tables e below (s₁.setTop (mkF m 11 #[.val (.double x0), .second, .val (.double x1), .second, .val (.double (FP.dadd x0 x1)), .second, .val (.double (FP.dsub (FP.dadd x0 x1) x0)), .second, .unset, .unset] [])) _
    refine XS.dloadN X0.here hx rfl (hb hby d_prog_34_method_2_code_11) rfl ?_
    show Steps p.tables e below (s₁.setTop (mkF m 12 #[.val (.double x0), .second, .val (.double x1), .second, .val (.double (FP.dadd x0 x1)), .second, .val (.double (FP.dsub (FP.dadd x0 x1) x0)), .second, .unset, .unset] [(.double x0)])) _
    refine XS.dload X0.here hx rfl (hb hby d_prog_34_method_2_code_12) rfl ?_
    show Steps p.tables e below (s₁.setTop (mkF m 14 #[.val (.double x0), .second, .val (.double x1), .second, .val (.double (FP.dadd x0 x1)), .second, .val (.double (FP.dsub (FP.dadd x0 x1) x0)), .second, .unset, .unset] [(.double (FP.dadd x0 x1)), (.double x0)])) _
    refine XS.dload X0.here hx rfl (hb hby d_prog_34_method_2_code_14) rfl ?_
    show Steps p.tables e below (s₁.setTop (mkF m 16 #[.val (.double x0), .second, .val (.double x1), .second, .val (.double (FP.dadd x0 x1)), .second, .val (.double (FP.dsub (FP.dadd x0 x1) x0)), .second, .unset, .unset] [(.double (FP.dsub (FP.dadd x0 x1) x0)), (.double (FP.dadd x0 x1)), (.double x0)])) _
    refine XS.dsubS X0.here hx rfl (hb hby d_prog_34_method_2_code_16) rfl k3 (v := (FP.dsub (FP.dadd x0 x1) (FP.dsub (FP.dadd x0 x1) x0))) rfl ?_
    show Steps p.tables e below (s₁.setTop (mkF m 17 #[.val (.double x0), .second, .val (.double x1), .second, .val (.double (FP.dadd x0 x1)), .second, .val (.double (FP.dsub (FP.dadd x0 x1) x0)), .second, .unset, .unset] [(.double (FP.dsub (FP.dadd x0 x1) (FP.dsub (FP.dadd x0 x1) x0))), (.double x0)])) _
    refine XS.dsubS X0.here hx rfl (hb hby d_prog_34_method_2_code_17) rfl k4 (v := (FP.dsub x0 (FP.dsub (FP.dadd x0 x1) (FP.dsub (FP.dadd x0 x1) x0)))) rfl ?_
    show Steps p.tables e below (s₁.setTop (mkF m 18 #[.val (.double x0), .second, .val (.double x1), .second, .val (.double (FP.dadd x0 x1)), .second, .val (.double (FP.dsub (FP.dadd x0 x1) x0)), .second, .unset, .unset] [(.double (FP.dsub x0 (FP.dsub (FP.dadd x0 x1) (FP.dsub (FP.dadd x0 x1) x0))))])) _
    refine XS.dloadN X0.here hx rfl (hb hby d_prog_34_method_2_code_18) rfl ?_
    show Steps p.tables e below (s₁.setTop (mkF m 19 #[.val (.double x0), .second, .val (.double x1), .second, .val (.double (FP.dadd x0 x1)), .second, .val (.double (FP.dsub (FP.dadd x0 x1) x0)), .second, .unset, .unset] [(.double x1), (.double (FP.dsub x0 (FP.dsub (FP.dadd x0 x1) (FP.dsub (FP.dadd x0 x1) x0))))])) _
    refine XS.dload X0.here hx rfl (hb hby d_prog_34_method_2_code_19) rfl ?_
    show Steps p.tables e below (s₁.setTop (mkF m 21 #[.val (.double x0), .second, .val (.double x1), .second, .val (.double (FP.dadd x0 x1)), .second, .val (.double (FP.dsub (FP.dadd x0 x1) x0)), .second, .unset, .unset] [(.double (FP.dsub (FP.dadd x0 x1) x0)), (.double x1), (.double (FP.dsub x0 (FP.dsub (FP.dadd x0 x1) (FP.dsub (FP.dadd x0 x1) x0))))])) _
    refine XS.dsubS X0.here hx rfl (hb hby d_prog_34_method_2_code_21) rfl k5 (v := (FP.dsub x1 (FP.dsub (FP.dadd x0 x1) x0))) rfl ?_
    show Steps p.tables e below (s₁.setTop (mkF m 22 #[.val (.double x0), .second, .val (.double x1), .second, .val (.double (FP.dadd x0 x1)), .second, .val (.double (FP.dsub (FP.dadd x0 x1) x0)), .second, .unset, .unset] [(.double (FP.dsub x1 (FP.dsub (FP.dadd x0 x1) x0))), (.double (FP.dsub x0 (FP.dsub (FP.dadd x0 x1) (FP.dsub (FP.dadd x0 x1) x0))))])) _
    refine XS.daddS X0.here hx rfl (hb hby d_prog_34_method_2_code_22) rfl k6 (v := (FP.dadd (FP.dsub x0 (FP.dsub (FP.dadd x0 x1) (FP.dsub (FP.dadd x0 x1) x0))) (FP.dsub x1 (FP.dsub (FP.dadd x0 x1) x0)))) rfl ?_
    show Steps p.tables e below (s₁.setTop (mkF m 23 #[.val (.double x0), .second, .val (.double x1), .second, .val (.double (FP.dadd x0 x1)), .second, .val (.double (FP.dsub (FP.dadd x0 x1) x0)), .second, .unset, .unset] [(.double (FP.dadd (FP.dsub x0 (FP.dsub (FP.dadd x0 x1) (FP.dsub (FP.dadd x0 x1) x0))) (FP.dsub x1 (FP.dsub (FP.dadd x0 x1) x0))))])) _
    refine XS.dstore X0.here hx rfl (hb hby d_prog_34_method_2_code_23) rfl (l' := #[.val (.double x0), .second, .val (.double x1), .second, .val (.double (FP.dadd x0 x1)), .second, .val (.double (FP.dsub (FP.dadd x0 x1) x0)), .second, .val (.double (FP.dadd (FP.dsub x0 (FP.dsub (FP.dadd x0 x1) (FP.dsub (FP.dadd x0 x1) x0))) (FP.dsub x1 (FP.dsub (FP.dadd x0 x1) x0)))), .second]) rfl ?_
    show Steps p.tables e below (s₁.setTop (mkF m 25 #[.val (.double x0), .second, .val (.double x1), .second, .val (.double (FP.dadd x0 x1)), .second, .val (.double (FP.dsub (FP.dadd x0 x1) x0)), .second, .val (.double (FP.dadd (FP.dsub x0 (FP.dsub (FP.dadd x0 x1) (FP.dsub (FP.dadd x0 x1) x0))) (FP.dsub x1 (FP.dsub (FP.dadd x0 x1) x0)))), .second] [])) _
    refine XS.dload X0.here hx rfl (hb hby d_prog_34_method_2_code_25) rfl ?_
    show Steps p.tables e below (s₁.setTop (mkF m 27 #[.val (.double x0), .second, .val (.double x1), .second, .val (.double (FP.dadd x0 x1)), .second, .val (.double (FP.dsub (FP.dadd x0 x1) x0)), .second, .val (.double (FP.dadd (FP.dsub x0 (FP.dsub (FP.dadd x0 x1) (FP.dsub (FP.dadd x0 x1) x0))) (FP.dsub x1 (FP.dsub (FP.dadd x0 x1) x0)))), .second] [(.double (FP.dadd (FP.dsub x0 (FP.dsub (FP.dadd x0 x1) (FP.dsub (FP.dadd x0 x1) x0))) (FP.dsub x1 (FP.dsub (FP.dadd x0 x1) x0))))])) _
    refine XS.dconst0 X0.here hx rfl (v := FP.dconst0) (hb hby d_prog_34_method_2_code_27) rfl ?_
    show Steps p.tables e below (s₁.setTop (mkF m 28 #[.val (.double x0), .second, .val (.double x1), .second, .val (.double (FP.dadd x0 x1)), .second, .val (.double (FP.dsub (FP.dadd x0 x1) x0)), .second, .val (.double (FP.dadd (FP.dsub x0 (FP.dsub (FP.dadd x0 x1) (FP.dsub (FP.dadd x0 x1) x0))) (FP.dsub x1 (FP.dsub (FP.dadd x0 x1) x0)))), .second] [(.double FP.dconst0), (.double (FP.dadd (FP.dsub x0 (FP.dsub (FP.dadd x0 x1) (FP.dsub (FP.dadd x0 x1) x0))) (FP.dsub x1 (FP.dsub (FP.dadd x0 x1) x0))))])) _
    refine XS.dcmpS X0.here hx rfl (hb hby d_prog_34_method_2_code_28) rfl (v := (cmpValue (FP.dcmp (FP.dadd (FP.dsub x0 (FP.dsub (FP.dadd x0 x1) (FP.dsub (FP.dadd x0 x1) x0))) (FP.dsub x1 (FP.dsub (FP.dadd x0 x1) x0))) FP.dconst0) .l)) rfl ?_
    show Steps p.tables e below (s₁.setTop (mkF m 29 #[.val (.double x0), .second, .val (.double x1), .second, .val (.double (FP.dadd x0 x1)), .second, .val (.double (FP.dsub (FP.dadd x0 x1) x0)), .second, .val (.double (FP.dadd (FP.dsub x0 (FP.dsub (FP.dadd x0 x1) (FP.dsub (FP.dadd x0 x1) x0))) (FP.dsub x1 (FP.dsub (FP.dadd x0 x1) x0)))), .second] [(.int (cmpValue (FP.dcmp (FP.dadd (FP.dsub x0 (FP.dsub (FP.dadd x0 x1) (FP.dsub (FP.dadd x0 x1) x0))) (FP.dsub x1 (FP.dsub (FP.dadd x0 x1) x0))) FP.dconst0) .l))])) _
    refine XS.ifYes X0.here hx rfl (pc0 := 29) (pc' := 40) rfl (hb hby d_prog_34_method_2_code_29) rfl ((if0 _ _).trans (flt (hc : ¬ ((0 : Int32) < (cmpValue (FP.dcmp (FP.dadd (FP.dsub x0 (FP.dsub (FP.dadd x0 x1) (FP.dsub (FP.dadd x0 x1) x0))) (FP.dsub x1 (FP.dsub (FP.dadd x0 x1) x0))) FP.dconst0) .l)))).2.2.2) (by decide) (by decide) ?_
    show Steps p.tables e below (s₁.setTop (mkF m 40 #[.val (.double x0), .second, .val (.double x1), .second, .val (.double (FP.dadd x0 x1)), .second, .val (.double (FP.dsub (FP.dadd x0 x1) x0)), .second, .val (.double (FP.dadd (FP.dsub x0 (FP.dsub (FP.dadd x0 x1) (FP.dsub (FP.dadd x0 x1) x0))) (FP.dsub x1 (FP.dsub (FP.dadd x0 x1) x0)))), .second] [])) _
    refine XS.dload X0.here hx rfl (hb hby d_prog_34_method_2_code_40) rfl ?_
    show Steps p.tables e below (s₁.setTop (mkF m 42 #[.val (.double x0), .second, .val (.double x1), .second, .val (.double (FP.dadd x0 x1)), .second, .val (.double (FP.dsub (FP.dadd x0 x1) x0)), .second, .val (.double (FP.dadd (FP.dsub x0 (FP.dsub (FP.dadd x0 x1) (FP.dsub (FP.dadd x0 x1) x0))) (FP.dsub x1 (FP.dsub (FP.dadd x0 x1) x0)))), .second] [(.double (FP.dadd x0 x1))])) _
    exact own_retD X0 hx Bd.returns (hb hby d_prog_34_method_2_code_42) hr
  · show QV (.double (FP.dadd x0 x1)) n0 h0 _ s₁.heap _
    rw [e0]
    exact ⟨rfl, N0, rfl⟩
set_option maxRecDepth 65536 in
set_option maxHeartbeats 40000000 in
theorem rmA_f (l : Launch) (Z : State) (a0 : Array Value) (hw : ∀ d ∈ tables_1, d.before a0 Z = true) (ws : List Jvm.Cond) (x0 x1 : UInt64) (h0 : Heap) (n0 : Nat) (Z0 : n0 ≤ h0.size) (k1 : Jvm.Free.Fl.NoNaN64 (FP.dadd x0 x1)) (k2 : Jvm.Free.Fl.NoNaN64 (bpE x0 x1)) (k3 : Jvm.Free.Fl.NoNaN64 (FP.dsub (FP.dadd x0 x1) (bpE x0 x1))) (k4 : Jvm.Free.Fl.NoNaN64 (FP.dsub x0 (FP.dsub (FP.dadd x0 x1) (bpE x0 x1)))) (k5 : Jvm.Free.Fl.NoNaN64 (FP.dsub x1 (bpE x0 x1))) (k6 : Jvm.Free.Fl.NoNaN64 (errE x0 x1)) (hc : 0 < cmpValue (FP.dcmp (errE x0 x1) FP.dconst0) .l) (hf : Jvm.Free.Fl.Fin64 (FP.dadd x0 x1)) (hz : FP.dadd (FP.dadd x0 x1) FP.dconst0 = FP.dadd x0 x1) (hs : ((OwnFp.nextE (FP.dadd x0 x1)) &&& 0x7fffffffffffffff > 0x7ff0000000000000 && (OwnFp.nextE (FP.dadd x0 x1)) &&& 0x0008000000000000 == 0) = false) :
    MetFree l (⟨"com/example/unsplit/unsplit/Upward", "add", "(DD)D"⟩ : MethodName) (head1 (Jvm.Cond.code (⟨"com/example/unsplit/unsplit/Upward", "add", "(DD)D"⟩ : MethodName) prog_34_method_2_code 10 (some .double) :: ws) ({ frames := 2, cells := 0, slots := 0, locals := 30 } : Room)) (fun aa U => aa = #[(.double x0), (.double x1)] ∧ Z.Warmed39 U.vm ∧ U.heap = h0) (fun _ _ _ _ _ => True) (fun _ U o U' => ∃ v L, o = .returned v ∧ QV (.double (OwnFp.nextE (FP.dadd x0 x1))) n0 h0 v U'.heap L ∧ FrameEnd U o U' L ({ frames := 2, cells := 0, slots := 0, locals := 30 } : Room).cells ({ frames := 2, cells := 0, slots := 0, locals := 30 } : Room).slots) := by
  refine MetFree.of_bodySF (plainFor_of_name pn_prog_34_method_2_code) hisR ?_
  intro p e s m args below meth c s₁ Bd hml0 hP hK
  obtain ⟨rfl, hZ, hh⟩ := hP
  have hx := Bd.exec
  have hby := Bd.bytes
  have hml : c.maxLocals = 10 := hml0
  have hown : s.vm.findClass "com/example/unsplit/unsplit/Upward" = some m.cls := findClass_of_methodNamed Bd.named
  have hnm := (name_of_methodNamed Bd.named Bd.method).1
  have X0 : Stand p l e ({ frames := 2, cells := 0, slots := 0, locals := 30 } : Room) s m #[(.double x0), (.double x1)] below meth c s₁ [] 0 0 := Stand.of_body Bd
  have e0 : s₁.heap = h0 := by rw [← hh, Bd.state]; rfl
  have N0 := Fr.nil n0
  have pre0 : ∀ t, Steps p.tables e below (s₁.setTop (mkF m 0 #[.val (.double x0), .second, .val (.double x1), .second, .unset, .unset, .unset, .unset, .unset, .unset] [])) t → Steps p.tables e below (s₁.setTop (entryFrame m #[(.double x0), (.double x1)] 10)) t := fun t k => castTop (ef_prog_34_method_2_code m x0 x1) k
  obtain ⟨_, _, ⟨T1, L1, k1, n1⟩, -, X1, ⟨Lc1, hQ1, l1, y1, z1⟩, st1⟩ := Jvm.LawKit.callS X0 hx (y := (⟨"java/lang/Math", "nextUp", "(D)D"⟩ : MethodName)) hown (mvT hZ (hw _ (List.mem_of_getElem? (i := 4) rfl))) (mvT hZ (hw _ (List.mem_of_getElem? (i := 5) rfl))) (mvT hZ (hw _ (List.mem_of_getElem? (i := 6) rfl))) (mvT hZ (hw _ (List.mem_of_getElem? (i := 7) rfl))) (by decide) (backOf (W := 0) (rmN l Z a0 hw [] (FP.dadd x0 x1) h0 n0 Z0 hf hz hs) hZ (hw _ (List.mem_of_getElem? (i := 7) rfl)) (hw _ (List.mem_of_getElem? (i := 6) rfl)) (by decide) (by decide)) (g := (mkF m 34 #[.val (.double x0), .second, .val (.double x1), .second, .val (.double (FP.dadd x0 x1)), .second, .val (.double (FP.dsub (FP.dadd x0 x1) x0)), .second, .val (.double (FP.dadd (FP.dsub x0 (FP.dsub (FP.dadd x0 x1) (FP.dsub (FP.dadd x0 x1) x0))) (FP.dsub x1 (FP.dsub (FP.dadd x0 x1) x0)))), .second] [(.double (FP.dadd x0 x1))])) rfl (by rw [hml]; rfl) (argsL := [(.double (FP.dadd x0 x1))]) (rest := []) (lenOf pd__D_D rfl) rfl (by show 2 * 0 + _ ≤ _; exact Nat.le_of_eq rfl) (hb hby d_prog_34_method_2_code_34) (fun _ _ => ⟨rfl, e0, (by decide : 0 + 0 ≤ _), (by decide : 0 + 0 ≤ _)⟩)
  dsimp only [Pt.U, Pt.locs, Pt.cells, Pt.slots] at X1 l1 y1 z1 st1 hQ1
  subst l1 y1 z1
  obtain ⟨rfl, N1q, K1⟩ := hQ1
  obtain ⟨fs, hr, hrun, hended, hW, hsame⟩ := X1.leave (v := some (.double (OwnFp.nextE (FP.dadd x0 x1)))) (fun h => by rw [Bd.returns] at h; cases h)
  refine ⟨_, _, pre0 _ ?_, hrun, hended, _, _, rfl, ?_, ⟨_, rfl⟩, hW, hsame.mono (by decide) (by decide)⟩
  · show Steps p.tables e below (s₁.setTop (mkF m 0 #[.val (.double x0), .second, .val (.double x1), .second, .unset, .unset, .unset, .unset, .unset, .unset] [])) _
    refine XS.dloadN X0.here hx rfl (hb hby d_prog_34_method_2_code_0) rfl ?_
    show Steps p.tables e below (s₁.setTop (mkF m 1 #[.val (.double x0), .second, .val (.double x1), .second, .unset, .unset, .unset, .unset, .unset, .unset] [(.double x0)])) _
    refine XS.dloadN X0.here hx rfl (hb hby d_prog_34_method_2_code_1) rfl ?_
    show Steps p.tables e below (s₁.setTop (mkF m 2 #[.val (.double x0), .second, .val (.double x1), .second, .unset, .unset, .unset, .unset, .unset, .unset] [(.double x1), (.double x0)])) _
    refine XS.daddS X0.here hx rfl (hb hby d_prog_34_method_2_code_2) rfl k1 (v := (FP.dadd x0 x1)) rfl ?_
    show Steps p.tables e below (s₁.setTop (mkF m 3 #[.val (.double x0), .second, .val (.double x1), .second, .unset, .unset, .unset, .unset, .unset, .unset] [(.double (FP.dadd x0 x1))])) _
    refine XS.dstore X0.here hx rfl (hb hby d_prog_34_method_2_code_3) rfl (l' := #[.val (.double x0), .second, .val (.double x1), .second, .val (.double (FP.dadd x0 x1)), .second, .unset, .unset, .unset, .unset]) rfl ?_
    show Steps p.tables e below (s₁.setTop (mkF m 5 #[.val (.double x0), .second, .val (.double x1), .second, .val (.double (FP.dadd x0 x1)), .second, .unset, .unset, .unset, .unset] [])) _
    refine XS.dload X0.here hx rfl (hb hby d_prog_34_method_2_code_5) rfl ?_
    show Steps p.tables e below (s₁.setTop (mkF m 7 #[.val (.double x0), .second, .val (.double x1), .second, .val (.double (FP.dadd x0 x1)), .second, .unset, .unset, .unset, .unset] [(.double (FP.dadd x0 x1))])) _
    refine XS.dloadN X0.here hx rfl (hb hby d_prog_34_method_2_code_7) rfl ?_
    show Steps p.tables e below (s₁.setTop (mkF m 8 #[.val (.double x0), .second, .val (.double x1), .second, .val (.double (FP.dadd x0 x1)), .second, .unset, .unset, .unset, .unset] [(.double x0), (.double (FP.dadd x0 x1))])) _
    refine XS.dsubS X0.here hx rfl (hb hby d_prog_34_method_2_code_8) rfl k2 (v := (FP.dsub (FP.dadd x0 x1) x0)) rfl ?_
    show Steps p.tables e below (s₁.setTop (mkF m 9 #[.val (.double x0), .second, .val (.double x1), .second, .val (.double (FP.dadd x0 x1)), .second, .unset, .unset, .unset, .unset] [(.double (FP.dsub (FP.dadd x0 x1) x0))])) _
    refine XS.dstore X0.here hx rfl (hb hby d_prog_34_method_2_code_9) rfl (l' := #[.val (.double x0), .second, .val (.double x1), .second, .val (.double (FP.dadd x0 x1)), .second, .val (.double (FP.dsub (FP.dadd x0 x1) x0)), .second, .unset, .unset]) rfl ?_
    show Steps p.tables e below (s₁.setTop (mkF m 11 #[.val (.double x0), .second, .val (.double x1), .second, .val (.double (FP.dadd x0 x1)), .second, .val (.double (FP.dsub (FP.dadd x0 x1) x0)), .second, .unset, .unset] [])) _
    refine XS.dloadN X0.here hx rfl (hb hby d_prog_34_method_2_code_11) rfl ?_
    show Steps p.tables e below (s₁.setTop (mkF m 12 #[.val (.double x0), .second, .val (.double x1), .second, .val (.double (FP.dadd x0 x1)), .second, .val (.double (FP.dsub (FP.dadd x0 x1) x0)), .second, .unset, .unset] [(.double x0)])) _
    refine XS.dload X0.here hx rfl (hb hby d_prog_34_method_2_code_12) rfl ?_
    show Steps p.tables e below (s₁.setTop (mkF m 14 #[.val (.double x0), .second, .val (.double x1), .second, .val (.double (FP.dadd x0 x1)), .second, .val (.double (FP.dsub (FP.dadd x0 x1) x0)), .second, .unset, .unset] [(.double (FP.dadd x0 x1)), (.double x0)])) _
    refine XS.dload X0.here hx rfl (hb hby d_prog_34_method_2_code_14) rfl ?_
    show Steps p.tables e below (s₁.setTop (mkF m 16 #[.val (.double x0), .second, .val (.double x1), .second, .val (.double (FP.dadd x0 x1)), .second, .val (.double (FP.dsub (FP.dadd x0 x1) x0)), .second, .unset, .unset] [(.double (FP.dsub (FP.dadd x0 x1) x0)), (.double (FP.dadd x0 x1)), (.double x0)])) _
    refine XS.dsubS X0.here hx rfl (hb hby d_prog_34_method_2_code_16) rfl k3 (v := (FP.dsub (FP.dadd x0 x1) (FP.dsub (FP.dadd x0 x1) x0))) rfl ?_
    show Steps p.tables e below (s₁.setTop (mkF m 17 #[.val (.double x0), .second, .val (.double x1), .second, .val (.double (FP.dadd x0 x1)), .second, .val (.double (FP.dsub (FP.dadd x0 x1) x0)), .second, .unset, .unset] [(.double (FP.dsub (FP.dadd x0 x1) (FP.dsub (FP.dadd x0 x1) x0))), (.double x0)])) _
    refine XS.dsubS X0.here hx rfl (hb hby d_prog_34_method_2_code_17) rfl k4 (v := (FP.dsub x0 (FP.dsub (FP.dadd x0 x1) (FP.dsub (FP.dadd x0 x1) x0)))) rfl ?_
    show Steps p.tables e below (s₁.setTop (mkF m 18 #[.val (.double x0), .second, .val (.double x1), .second, .val (.double (FP.dadd x0 x1)), .second, .val (.double (FP.dsub (FP.dadd x0 x1) x0)), .second, .unset, .unset] [(.double (FP.dsub x0 (FP.dsub (FP.dadd x0 x1) (FP.dsub (FP.dadd x0 x1) x0))))])) _
    refine XS.dloadN X0.here hx rfl (hb hby d_prog_34_method_2_code_18) rfl ?_
    show Steps p.tables e below (s₁.setTop (mkF m 19 #[.val (.double x0), .second, .val (.double x1), .second, .val (.double (FP.dadd x0 x1)), .second, .val (.double (FP.dsub (FP.dadd x0 x1) x0)), .second, .unset, .unset] [(.double x1), (.double (FP.dsub x0 (FP.dsub (FP.dadd x0 x1) (FP.dsub (FP.dadd x0 x1) x0))))])) _
    refine XS.dload X0.here hx rfl (hb hby d_prog_34_method_2_code_19) rfl ?_
    show Steps p.tables e below (s₁.setTop (mkF m 21 #[.val (.double x0), .second, .val (.double x1), .second, .val (.double (FP.dadd x0 x1)), .second, .val (.double (FP.dsub (FP.dadd x0 x1) x0)), .second, .unset, .unset] [(.double (FP.dsub (FP.dadd x0 x1) x0)), (.double x1), (.double (FP.dsub x0 (FP.dsub (FP.dadd x0 x1) (FP.dsub (FP.dadd x0 x1) x0))))])) _
    refine XS.dsubS X0.here hx rfl (hb hby d_prog_34_method_2_code_21) rfl k5 (v := (FP.dsub x1 (FP.dsub (FP.dadd x0 x1) x0))) rfl ?_
    show Steps p.tables e below (s₁.setTop (mkF m 22 #[.val (.double x0), .second, .val (.double x1), .second, .val (.double (FP.dadd x0 x1)), .second, .val (.double (FP.dsub (FP.dadd x0 x1) x0)), .second, .unset, .unset] [(.double (FP.dsub x1 (FP.dsub (FP.dadd x0 x1) x0))), (.double (FP.dsub x0 (FP.dsub (FP.dadd x0 x1) (FP.dsub (FP.dadd x0 x1) x0))))])) _
    refine XS.daddS X0.here hx rfl (hb hby d_prog_34_method_2_code_22) rfl k6 (v := (FP.dadd (FP.dsub x0 (FP.dsub (FP.dadd x0 x1) (FP.dsub (FP.dadd x0 x1) x0))) (FP.dsub x1 (FP.dsub (FP.dadd x0 x1) x0)))) rfl ?_
    show Steps p.tables e below (s₁.setTop (mkF m 23 #[.val (.double x0), .second, .val (.double x1), .second, .val (.double (FP.dadd x0 x1)), .second, .val (.double (FP.dsub (FP.dadd x0 x1) x0)), .second, .unset, .unset] [(.double (FP.dadd (FP.dsub x0 (FP.dsub (FP.dadd x0 x1) (FP.dsub (FP.dadd x0 x1) x0))) (FP.dsub x1 (FP.dsub (FP.dadd x0 x1) x0))))])) _
    refine XS.dstore X0.here hx rfl (hb hby d_prog_34_method_2_code_23) rfl (l' := #[.val (.double x0), .second, .val (.double x1), .second, .val (.double (FP.dadd x0 x1)), .second, .val (.double (FP.dsub (FP.dadd x0 x1) x0)), .second, .val (.double (FP.dadd (FP.dsub x0 (FP.dsub (FP.dadd x0 x1) (FP.dsub (FP.dadd x0 x1) x0))) (FP.dsub x1 (FP.dsub (FP.dadd x0 x1) x0)))), .second]) rfl ?_
    show Steps p.tables e below (s₁.setTop (mkF m 25 #[.val (.double x0), .second, .val (.double x1), .second, .val (.double (FP.dadd x0 x1)), .second, .val (.double (FP.dsub (FP.dadd x0 x1) x0)), .second, .val (.double (FP.dadd (FP.dsub x0 (FP.dsub (FP.dadd x0 x1) (FP.dsub (FP.dadd x0 x1) x0))) (FP.dsub x1 (FP.dsub (FP.dadd x0 x1) x0)))), .second] [])) _
    refine XS.dload X0.here hx rfl (hb hby d_prog_34_method_2_code_25) rfl ?_
    show Steps p.tables e below (s₁.setTop (mkF m 27 #[.val (.double x0), .second, .val (.double x1), .second, .val (.double (FP.dadd x0 x1)), .second, .val (.double (FP.dsub (FP.dadd x0 x1) x0)), .second, .val (.double (FP.dadd (FP.dsub x0 (FP.dsub (FP.dadd x0 x1) (FP.dsub (FP.dadd x0 x1) x0))) (FP.dsub x1 (FP.dsub (FP.dadd x0 x1) x0)))), .second] [(.double (FP.dadd (FP.dsub x0 (FP.dsub (FP.dadd x0 x1) (FP.dsub (FP.dadd x0 x1) x0))) (FP.dsub x1 (FP.dsub (FP.dadd x0 x1) x0))))])) _
    refine XS.dconst0 X0.here hx rfl (v := FP.dconst0) (hb hby d_prog_34_method_2_code_27) rfl ?_
    show Steps p.tables e below (s₁.setTop (mkF m 28 #[.val (.double x0), .second, .val (.double x1), .second, .val (.double (FP.dadd x0 x1)), .second, .val (.double (FP.dsub (FP.dadd x0 x1) x0)), .second, .val (.double (FP.dadd (FP.dsub x0 (FP.dsub (FP.dadd x0 x1) (FP.dsub (FP.dadd x0 x1) x0))) (FP.dsub x1 (FP.dsub (FP.dadd x0 x1) x0)))), .second] [(.double FP.dconst0), (.double (FP.dadd (FP.dsub x0 (FP.dsub (FP.dadd x0 x1) (FP.dsub (FP.dadd x0 x1) x0))) (FP.dsub x1 (FP.dsub (FP.dadd x0 x1) x0))))])) _
    refine XS.dcmpS X0.here hx rfl (hb hby d_prog_34_method_2_code_28) rfl (v := (cmpValue (FP.dcmp (FP.dadd (FP.dsub x0 (FP.dsub (FP.dadd x0 x1) (FP.dsub (FP.dadd x0 x1) x0))) (FP.dsub x1 (FP.dsub (FP.dadd x0 x1) x0))) FP.dconst0) .l)) rfl ?_
    show Steps p.tables e below (s₁.setTop (mkF m 29 #[.val (.double x0), .second, .val (.double x1), .second, .val (.double (FP.dadd x0 x1)), .second, .val (.double (FP.dsub (FP.dadd x0 x1) x0)), .second, .val (.double (FP.dadd (FP.dsub x0 (FP.dsub (FP.dadd x0 x1) (FP.dsub (FP.dadd x0 x1) x0))) (FP.dsub x1 (FP.dsub (FP.dadd x0 x1) x0)))), .second] [(.int (cmpValue (FP.dcmp (FP.dadd (FP.dsub x0 (FP.dsub (FP.dadd x0 x1) (FP.dsub (FP.dadd x0 x1) x0))) (FP.dsub x1 (FP.dsub (FP.dadd x0 x1) x0))) FP.dconst0) .l))])) _
    refine XS.ifNo X0.here hx rfl (hb hby d_prog_34_method_2_code_29) rfl ((if0 _ _).trans (tlt (hc : (0 : Int32) < (cmpValue (FP.dcmp (FP.dadd (FP.dsub x0 (FP.dsub (FP.dadd x0 x1) (FP.dsub (FP.dadd x0 x1) x0))) (FP.dsub x1 (FP.dsub (FP.dadd x0 x1) x0))) FP.dconst0) .l))).2.2.2) ?_
    show Steps p.tables e below (s₁.setTop (mkF m 32 #[.val (.double x0), .second, .val (.double x1), .second, .val (.double (FP.dadd x0 x1)), .second, .val (.double (FP.dsub (FP.dadd x0 x1) x0)), .second, .val (.double (FP.dadd (FP.dsub x0 (FP.dsub (FP.dadd x0 x1) (FP.dsub (FP.dadd x0 x1) x0))) (FP.dsub x1 (FP.dsub (FP.dadd x0 x1) x0)))), .second] [])) _
    refine XS.dload X0.here hx rfl (hb hby d_prog_34_method_2_code_32) rfl ?_
    show Steps p.tables e below (s₁.setTop (mkF m 34 #[.val (.double x0), .second, .val (.double x1), .second, .val (.double (FP.dadd x0 x1)), .second, .val (.double (FP.dsub (FP.dadd x0 x1) x0)), .second, .val (.double (FP.dadd (FP.dsub x0 (FP.dsub (FP.dadd x0 x1) (FP.dsub (FP.dadd x0 x1) x0))) (FP.dsub x1 (FP.dsub (FP.dadd x0 x1) x0)))), .second] [(.double (FP.dadd x0 x1))])) _
    refine st1 _ ?_
    show Steps p.tables e below (T1.setTop (mkF m 37 #[.val (.double x0), .second, .val (.double x1), .second, .val (.double (FP.dadd x0 x1)), .second, .val (.double (FP.dsub (FP.dadd x0 x1) x0)), .second, .val (.double (FP.dadd (FP.dsub x0 (FP.dsub (FP.dadd x0 x1) (FP.dsub (FP.dadd x0 x1) x0))) (FP.dsub x1 (FP.dsub (FP.dadd x0 x1) x0)))), .second] [(.double (OwnFp.nextE (FP.dadd x0 x1)))])) _
    refine XS.goto X1.here hx rfl (pc0 := 37) (pc' := 42) rfl (hb hby d_prog_34_method_2_code_37) (by decide) (by decide) ?_
    show Steps p.tables e below (T1.setTop (mkF m 42 #[.val (.double x0), .second, .val (.double x1), .second, .val (.double (FP.dadd x0 x1)), .second, .val (.double (FP.dsub (FP.dadd x0 x1) x0)), .second, .val (.double (FP.dadd (FP.dsub x0 (FP.dsub (FP.dadd x0 x1) (FP.dsub (FP.dadd x0 x1) x0))) (FP.dsub x1 (FP.dsub (FP.dadd x0 x1) x0)))), .second] [(.double (OwnFp.nextE (FP.dadd x0 x1)))])) _
    exact own_retD X1 hx Bd.returns (hb hby d_prog_34_method_2_code_42) hr
  · show QV (.double (OwnFp.nextE (FP.dadd x0 x1))) n0 h0 _ T1.heap _
    rw [K1]
    exact ⟨rfl, (Fr.app N0 N1q), rfl⟩
theorem rmA (l : Launch) (Z : State) (a0 : Array Value) (hw : ∀ d ∈ tables_1, d.before a0 Z = true) (ws : List Jvm.Cond) (x0 x1 : UInt64) (h0 : Heap) (n0 : Nat) (Z0 : n0 ≤ h0.size) (k1 : Jvm.Free.Fl.NoNaN64 (FP.dadd x0 x1)) (k2 : Jvm.Free.Fl.NoNaN64 (bpE x0 x1)) (k3 : Jvm.Free.Fl.NoNaN64 (FP.dsub (FP.dadd x0 x1) (bpE x0 x1))) (k4 : Jvm.Free.Fl.NoNaN64 (FP.dsub x0 (FP.dsub (FP.dadd x0 x1) (bpE x0 x1)))) (k5 : Jvm.Free.Fl.NoNaN64 (FP.dsub x1 (bpE x0 x1))) (k6 : Jvm.Free.Fl.NoNaN64 (errE x0 x1)) (hup : 0 < cmpValue (FP.dcmp (errE x0 x1) FP.dconst0) .l → Jvm.Free.Fl.Fin64 (FP.dadd x0 x1) ∧ FP.dadd (FP.dadd x0 x1) FP.dconst0 = FP.dadd x0 x1 ∧ ((OwnFp.nextE (FP.dadd x0 x1)) &&& 0x7fffffffffffffff > 0x7ff0000000000000 && (OwnFp.nextE (FP.dadd x0 x1)) &&& 0x0008000000000000 == 0) = false) :
    MetFree l (⟨"com/example/unsplit/unsplit/Upward", "add", "(DD)D"⟩ : MethodName) (head1 (Jvm.Cond.code (⟨"com/example/unsplit/unsplit/Upward", "add", "(DD)D"⟩ : MethodName) prog_34_method_2_code 10 (some .double) :: ws) ({ frames := 2, cells := 0, slots := 0, locals := 30 } : Room)) (fun aa U => aa = #[(.double x0), (.double x1)] ∧ Z.Warmed39 U.vm ∧ U.heap = h0) (fun _ _ _ _ _ => True) (fun _ U o U' => ∃ v L, o = .returned v ∧ QV (.double (addE x0 x1)) n0 h0 v U'.heap L ∧ FrameEnd U o U' L ({ frames := 2, cells := 0, slots := 0, locals := 30 } : Room).cells ({ frames := 2, cells := 0, slots := 0, locals := 30 } : Room).slots) := by
  by_cases h : 0 < cmpValue (FP.dcmp (errE x0 x1) FP.dconst0) .l
  · obtain ⟨h1, h2, h3⟩ := hup h
    rw [show addE x0 x1 = OwnFp.nextE (FP.dadd x0 x1) from if_pos h]
    exact rmA_f l Z a0 hw ws x0 x1 h0 n0 Z0 k1 k2 k3 k4 k5 k6 h h1 h2 h3
  · rw [show addE x0 x1 = FP.dadd x0 x1 from if_neg h]
    exact rmA_t l Z a0 hw ws x0 x1 h0 n0 Z0 k1 k2 k3 k4 k5 k6 h
set_option maxRecDepth 65536 in
set_option maxHeartbeats 4000000 in
theorem sA_0 {p : Program} {l : Launch} {e : Env} {R : Room} {s : State} {m : MethodId} {args : Array Value} {below : List Frame} {meth : Method} {c : Code} {T : State} {locs : List Loc} {cells slots : Nat} {Z : State} {a0 : Array Value} {target : State} {u0 u1 u2 : Int32} (X : Stand p l e R s m args below meth c T locs cells slots) (hx : p.tables.exec = Jvm.exec) (hZ : Z.Warmed39 s.vm) (hw : ∀ d ∈ tables_1, d.before a0 Z = true) (hby : c.code = code) (hown : s.vm.findClass "com/example/unsplit/unsplit/UpwardAddPinLaw" = some m.cls) (hc5 : (u2 &&& (3 : Int32)) = (0 : Int32))
    (hr : Steps p.tables e below (T.setTop (mkF m 34 #[.val (.int u0), .val (.int u1), .val (.int u2), .val (.int (u2 &&& (3 : Int32))), .unset, .unset, .unset, .unset, .unset, .unset, .unset, .unset, .unset, .unset, .unset, .unset, .unset, .unset, .unset, .unset, .unset, .unset, .unset, .unset] [(.int (0 : Int32))])) target) : Steps p.tables e below (T.setTop (mkF m 0 #[.val (.int u0), .val (.int u1), .val (.int u2), .unset, .unset, .unset, .unset, .unset, .unset, .unset, .unset, .unset, .unset, .unset, .unset, .unset, .unset, .unset, .unset, .unset, .unset, .unset, .unset, .unset] [])) target := by
  show Steps p.tables e below (T.setTop (mkF m 0 #[.val (.int u0), .val (.int u1), .val (.int u2), .unset, .unset, .unset, .unset, .unset, .unset, .unset, .unset, .unset, .unset, .unset, .unset, .unset, .unset, .unset, .unset, .unset, .unset, .unset, .unset, .unset] [])) _
  refine XS.iloadN X.here hx rfl (hb hby at_0) rfl ?_
  show Steps p.tables e below (T.setTop (mkF m 1 #[.val (.int u0), .val (.int u1), .val (.int u2), .unset, .unset, .unset, .unset, .unset, .unset, .unset, .unset, .unset, .unset, .unset, .unset, .unset, .unset, .unset, .unset, .unset, .unset, .unset, .unset, .unset] [(.int u2)])) _
  refine XS.iconst X.here hx rfl (hb hby at_1) ?_
  show Steps p.tables e below (T.setTop (mkF m 2 #[.val (.int u0), .val (.int u1), .val (.int u2), .unset, .unset, .unset, .unset, .unset, .unset, .unset, .unset, .unset, .unset, .unset, .unset, .unset, .unset, .unset, .unset, .unset, .unset, .unset, .unset, .unset] [(.int (3 : Int32)), (.int u2)])) _
  refine XS.iand X.here hx rfl (hb hby at_2) rfl ?_
  show Steps p.tables e below (T.setTop (mkF m 3 #[.val (.int u0), .val (.int u1), .val (.int u2), .unset, .unset, .unset, .unset, .unset, .unset, .unset, .unset, .unset, .unset, .unset, .unset, .unset, .unset, .unset, .unset, .unset, .unset, .unset, .unset, .unset] [(.int (u2 &&& (3 : Int32)))])) _
  refine XS.istoreN X.here hx rfl (hb hby at_3) rfl (l' := #[.val (.int u0), .val (.int u1), .val (.int u2), .val (.int (u2 &&& (3 : Int32))), .unset, .unset, .unset, .unset, .unset, .unset, .unset, .unset, .unset, .unset, .unset, .unset, .unset, .unset, .unset, .unset, .unset, .unset, .unset, .unset]) rfl ?_
  show Steps p.tables e below (T.setTop (mkF m 4 #[.val (.int u0), .val (.int u1), .val (.int u2), .val (.int (u2 &&& (3 : Int32))), .unset, .unset, .unset, .unset, .unset, .unset, .unset, .unset, .unset, .unset, .unset, .unset, .unset, .unset, .unset, .unset, .unset, .unset, .unset, .unset] [])) _
  refine XS.iloadN X.here hx rfl (hb hby at_4) rfl ?_
  show Steps p.tables e below (T.setTop (mkF m 5 #[.val (.int u0), .val (.int u1), .val (.int u2), .val (.int (u2 &&& (3 : Int32))), .unset, .unset, .unset, .unset, .unset, .unset, .unset, .unset, .unset, .unset, .unset, .unset, .unset, .unset, .unset, .unset, .unset, .unset, .unset, .unset] [(.int (u2 &&& (3 : Int32)))])) _
  refine XS.ifNo X.here hx rfl (hb hby at_5) rfl ((if0 _ _).trans (teq hc5).2) ?_
  show Steps p.tables e below (T.setTop (mkF m 8 #[.val (.int u0), .val (.int u1), .val (.int u2), .val (.int (u2 &&& (3 : Int32))), .unset, .unset, .unset, .unset, .unset, .unset, .unset, .unset, .unset, .unset, .unset, .unset, .unset, .unset, .unset, .unset, .unset, .unset, .unset, .unset] [])) _
  refine XS.iconst X.here hx rfl (hb hby at_8) ?_
  show Steps p.tables e below (T.setTop (mkF m 9 #[.val (.int u0), .val (.int u1), .val (.int u2), .val (.int (u2 &&& (3 : Int32))), .unset, .unset, .unset, .unset, .unset, .unset, .unset, .unset, .unset, .unset, .unset, .unset, .unset, .unset, .unset, .unset, .unset, .unset, .unset, .unset] [(.int (0 : Int32))])) _
  refine XS.goto X.here hx rfl (pc0 := 9) (pc' := 34) rfl (hb hby at_9) (by decide) (by decide) ?_
  exact hr
set_option maxRecDepth 65536 in
set_option maxHeartbeats 4000000 in
theorem sA_1 {p : Program} {l : Launch} {e : Env} {R : Room} {s : State} {m : MethodId} {args : Array Value} {below : List Frame} {meth : Method} {c : Code} {T : State} {locs : List Loc} {cells slots : Nat} {Z : State} {a0 : Array Value} {target : State} {u0 u1 u2 : Int32} (X : Stand p l e R s m args below meth c T locs cells slots) (hx : p.tables.exec = Jvm.exec) (hZ : Z.Warmed39 s.vm) (hw : ∀ d ∈ tables_1, d.before a0 Z = true) (hby : c.code = code) (hown : s.vm.findClass "com/example/unsplit/unsplit/UpwardAddPinLaw" = some m.cls) (hc5 : ¬ ((u2 &&& (3 : Int32)) = (0 : Int32))) (hc14 : (u2 &&& (3 : Int32)) = (1 : Int32))
    (hr : Steps p.tables e below (T.setTop (mkF m 34 #[.val (.int u0), .val (.int u1), .val (.int u2), .val (.int (u2 &&& (3 : Int32))), .unset, .unset, .unset, .unset, .unset, .unset, .unset, .unset, .unset, .unset, .unset, .unset, .unset, .unset, .unset, .unset, .unset, .unset, .unset, .unset] [(.int (11 : Int32))])) target) : Steps p.tables e below (T.setTop (mkF m 0 #[.val (.int u0), .val (.int u1), .val (.int u2), .unset, .unset, .unset, .unset, .unset, .unset, .unset, .unset, .unset, .unset, .unset, .unset, .unset, .unset, .unset, .unset, .unset, .unset, .unset, .unset, .unset] [])) target := by
  show Steps p.tables e below (T.setTop (mkF m 0 #[.val (.int u0), .val (.int u1), .val (.int u2), .unset, .unset, .unset, .unset, .unset, .unset, .unset, .unset, .unset, .unset, .unset, .unset, .unset, .unset, .unset, .unset, .unset, .unset, .unset, .unset, .unset] [])) _
  refine XS.iloadN X.here hx rfl (hb hby at_0) rfl ?_
  show Steps p.tables e below (T.setTop (mkF m 1 #[.val (.int u0), .val (.int u1), .val (.int u2), .unset, .unset, .unset, .unset, .unset, .unset, .unset, .unset, .unset, .unset, .unset, .unset, .unset, .unset, .unset, .unset, .unset, .unset, .unset, .unset, .unset] [(.int u2)])) _
  refine XS.iconst X.here hx rfl (hb hby at_1) ?_
  show Steps p.tables e below (T.setTop (mkF m 2 #[.val (.int u0), .val (.int u1), .val (.int u2), .unset, .unset, .unset, .unset, .unset, .unset, .unset, .unset, .unset, .unset, .unset, .unset, .unset, .unset, .unset, .unset, .unset, .unset, .unset, .unset, .unset] [(.int (3 : Int32)), (.int u2)])) _
  refine XS.iand X.here hx rfl (hb hby at_2) rfl ?_
  show Steps p.tables e below (T.setTop (mkF m 3 #[.val (.int u0), .val (.int u1), .val (.int u2), .unset, .unset, .unset, .unset, .unset, .unset, .unset, .unset, .unset, .unset, .unset, .unset, .unset, .unset, .unset, .unset, .unset, .unset, .unset, .unset, .unset] [(.int (u2 &&& (3 : Int32)))])) _
  refine XS.istoreN X.here hx rfl (hb hby at_3) rfl (l' := #[.val (.int u0), .val (.int u1), .val (.int u2), .val (.int (u2 &&& (3 : Int32))), .unset, .unset, .unset, .unset, .unset, .unset, .unset, .unset, .unset, .unset, .unset, .unset, .unset, .unset, .unset, .unset, .unset, .unset, .unset, .unset]) rfl ?_
  show Steps p.tables e below (T.setTop (mkF m 4 #[.val (.int u0), .val (.int u1), .val (.int u2), .val (.int (u2 &&& (3 : Int32))), .unset, .unset, .unset, .unset, .unset, .unset, .unset, .unset, .unset, .unset, .unset, .unset, .unset, .unset, .unset, .unset, .unset, .unset, .unset, .unset] [])) _
  refine XS.iloadN X.here hx rfl (hb hby at_4) rfl ?_
  show Steps p.tables e below (T.setTop (mkF m 5 #[.val (.int u0), .val (.int u1), .val (.int u2), .val (.int (u2 &&& (3 : Int32))), .unset, .unset, .unset, .unset, .unset, .unset, .unset, .unset, .unset, .unset, .unset, .unset, .unset, .unset, .unset, .unset, .unset, .unset, .unset, .unset] [(.int (u2 &&& (3 : Int32)))])) _
  refine XS.ifYes X.here hx rfl (pc0 := 5) (pc' := 12) rfl (hb hby at_5) rfl ((if0 _ _).trans (feq hc5).2) (by decide) (by decide) ?_
  show Steps p.tables e below (T.setTop (mkF m 12 #[.val (.int u0), .val (.int u1), .val (.int u2), .val (.int (u2 &&& (3 : Int32))), .unset, .unset, .unset, .unset, .unset, .unset, .unset, .unset, .unset, .unset, .unset, .unset, .unset, .unset, .unset, .unset, .unset, .unset, .unset, .unset] [])) _
  refine XS.iloadN X.here hx rfl (hb hby at_12) rfl ?_
  show Steps p.tables e below (T.setTop (mkF m 13 #[.val (.int u0), .val (.int u1), .val (.int u2), .val (.int (u2 &&& (3 : Int32))), .unset, .unset, .unset, .unset, .unset, .unset, .unset, .unset, .unset, .unset, .unset, .unset, .unset, .unset, .unset, .unset, .unset, .unset, .unset, .unset] [(.int (u2 &&& (3 : Int32)))])) _
  refine XS.iconst X.here hx rfl (hb hby at_13) ?_
  show Steps p.tables e below (T.setTop (mkF m 14 #[.val (.int u0), .val (.int u1), .val (.int u2), .val (.int (u2 &&& (3 : Int32))), .unset, .unset, .unset, .unset, .unset, .unset, .unset, .unset, .unset, .unset, .unset, .unset, .unset, .unset, .unset, .unset, .unset, .unset, .unset, .unset] [(.int (1 : Int32)), (.int (u2 &&& (3 : Int32)))])) _
  refine XS.icmpNo X.here hx rfl (hb hby at_14) rfl (teq hc14).2 ?_
  show Steps p.tables e below (T.setTop (mkF m 17 #[.val (.int u0), .val (.int u1), .val (.int u2), .val (.int (u2 &&& (3 : Int32))), .unset, .unset, .unset, .unset, .unset, .unset, .unset, .unset, .unset, .unset, .unset, .unset, .unset, .unset, .unset, .unset, .unset, .unset, .unset, .unset] [])) _
  refine XS.bipush X.here hx rfl (hb hby at_17) ?_
  show Steps p.tables e below (T.setTop (mkF m 19 #[.val (.int u0), .val (.int u1), .val (.int u2), .val (.int (u2 &&& (3 : Int32))), .unset, .unset, .unset, .unset, .unset, .unset, .unset, .unset, .unset, .unset, .unset, .unset, .unset, .unset, .unset, .unset, .unset, .unset, .unset, .unset] [(.int (11 : Int32))])) _
  refine XS.goto X.here hx rfl (pc0 := 19) (pc' := 34) rfl (hb hby at_19) (by decide) (by decide) ?_
  exact hr
set_option maxRecDepth 65536 in
set_option maxHeartbeats 4000000 in
theorem sA_2 {p : Program} {l : Launch} {e : Env} {R : Room} {s : State} {m : MethodId} {args : Array Value} {below : List Frame} {meth : Method} {c : Code} {T : State} {locs : List Loc} {cells slots : Nat} {Z : State} {a0 : Array Value} {target : State} {u0 u1 u2 : Int32} (X : Stand p l e R s m args below meth c T locs cells slots) (hx : p.tables.exec = Jvm.exec) (hZ : Z.Warmed39 s.vm) (hw : ∀ d ∈ tables_1, d.before a0 Z = true) (hby : c.code = code) (hown : s.vm.findClass "com/example/unsplit/unsplit/UpwardAddPinLaw" = some m.cls) (hc5 : ¬ ((u2 &&& (3 : Int32)) = (0 : Int32))) (hc14 : ¬ ((u2 &&& (3 : Int32)) = (1 : Int32))) (hc24 : (u2 &&& (3 : Int32)) = (2 : Int32))
    (hr : Steps p.tables e below (T.setTop (mkF m 34 #[.val (.int u0), .val (.int u1), .val (.int u2), .val (.int (u2 &&& (3 : Int32))), .unset, .unset, .unset, .unset, .unset, .unset, .unset, .unset, .unset, .unset, .unset, .unset, .unset, .unset, .unset, .unset, .unset, .unset, .unset, .unset] [(.int (22 : Int32))])) target) : Steps p.tables e below (T.setTop (mkF m 0 #[.val (.int u0), .val (.int u1), .val (.int u2), .unset, .unset, .unset, .unset, .unset, .unset, .unset, .unset, .unset, .unset, .unset, .unset, .unset, .unset, .unset, .unset, .unset, .unset, .unset, .unset, .unset] [])) target := by
  show Steps p.tables e below (T.setTop (mkF m 0 #[.val (.int u0), .val (.int u1), .val (.int u2), .unset, .unset, .unset, .unset, .unset, .unset, .unset, .unset, .unset, .unset, .unset, .unset, .unset, .unset, .unset, .unset, .unset, .unset, .unset, .unset, .unset] [])) _
  refine XS.iloadN X.here hx rfl (hb hby at_0) rfl ?_
  show Steps p.tables e below (T.setTop (mkF m 1 #[.val (.int u0), .val (.int u1), .val (.int u2), .unset, .unset, .unset, .unset, .unset, .unset, .unset, .unset, .unset, .unset, .unset, .unset, .unset, .unset, .unset, .unset, .unset, .unset, .unset, .unset, .unset] [(.int u2)])) _
  refine XS.iconst X.here hx rfl (hb hby at_1) ?_
  show Steps p.tables e below (T.setTop (mkF m 2 #[.val (.int u0), .val (.int u1), .val (.int u2), .unset, .unset, .unset, .unset, .unset, .unset, .unset, .unset, .unset, .unset, .unset, .unset, .unset, .unset, .unset, .unset, .unset, .unset, .unset, .unset, .unset] [(.int (3 : Int32)), (.int u2)])) _
  refine XS.iand X.here hx rfl (hb hby at_2) rfl ?_
  show Steps p.tables e below (T.setTop (mkF m 3 #[.val (.int u0), .val (.int u1), .val (.int u2), .unset, .unset, .unset, .unset, .unset, .unset, .unset, .unset, .unset, .unset, .unset, .unset, .unset, .unset, .unset, .unset, .unset, .unset, .unset, .unset, .unset] [(.int (u2 &&& (3 : Int32)))])) _
  refine XS.istoreN X.here hx rfl (hb hby at_3) rfl (l' := #[.val (.int u0), .val (.int u1), .val (.int u2), .val (.int (u2 &&& (3 : Int32))), .unset, .unset, .unset, .unset, .unset, .unset, .unset, .unset, .unset, .unset, .unset, .unset, .unset, .unset, .unset, .unset, .unset, .unset, .unset, .unset]) rfl ?_
  show Steps p.tables e below (T.setTop (mkF m 4 #[.val (.int u0), .val (.int u1), .val (.int u2), .val (.int (u2 &&& (3 : Int32))), .unset, .unset, .unset, .unset, .unset, .unset, .unset, .unset, .unset, .unset, .unset, .unset, .unset, .unset, .unset, .unset, .unset, .unset, .unset, .unset] [])) _
  refine XS.iloadN X.here hx rfl (hb hby at_4) rfl ?_
  show Steps p.tables e below (T.setTop (mkF m 5 #[.val (.int u0), .val (.int u1), .val (.int u2), .val (.int (u2 &&& (3 : Int32))), .unset, .unset, .unset, .unset, .unset, .unset, .unset, .unset, .unset, .unset, .unset, .unset, .unset, .unset, .unset, .unset, .unset, .unset, .unset, .unset] [(.int (u2 &&& (3 : Int32)))])) _
  refine XS.ifYes X.here hx rfl (pc0 := 5) (pc' := 12) rfl (hb hby at_5) rfl ((if0 _ _).trans (feq hc5).2) (by decide) (by decide) ?_
  show Steps p.tables e below (T.setTop (mkF m 12 #[.val (.int u0), .val (.int u1), .val (.int u2), .val (.int (u2 &&& (3 : Int32))), .unset, .unset, .unset, .unset, .unset, .unset, .unset, .unset, .unset, .unset, .unset, .unset, .unset, .unset, .unset, .unset, .unset, .unset, .unset, .unset] [])) _
  refine XS.iloadN X.here hx rfl (hb hby at_12) rfl ?_
  show Steps p.tables e below (T.setTop (mkF m 13 #[.val (.int u0), .val (.int u1), .val (.int u2), .val (.int (u2 &&& (3 : Int32))), .unset, .unset, .unset, .unset, .unset, .unset, .unset, .unset, .unset, .unset, .unset, .unset, .unset, .unset, .unset, .unset, .unset, .unset, .unset, .unset] [(.int (u2 &&& (3 : Int32)))])) _
  refine XS.iconst X.here hx rfl (hb hby at_13) ?_
  show Steps p.tables e below (T.setTop (mkF m 14 #[.val (.int u0), .val (.int u1), .val (.int u2), .val (.int (u2 &&& (3 : Int32))), .unset, .unset, .unset, .unset, .unset, .unset, .unset, .unset, .unset, .unset, .unset, .unset, .unset, .unset, .unset, .unset, .unset, .unset, .unset, .unset] [(.int (1 : Int32)), (.int (u2 &&& (3 : Int32)))])) _
  refine XS.icmpYes X.here hx rfl (pc0 := 14) (pc' := 22) rfl (hb hby at_14) rfl (feq hc14).2 (by decide) (by decide) ?_
  show Steps p.tables e below (T.setTop (mkF m 22 #[.val (.int u0), .val (.int u1), .val (.int u2), .val (.int (u2 &&& (3 : Int32))), .unset, .unset, .unset, .unset, .unset, .unset, .unset, .unset, .unset, .unset, .unset, .unset, .unset, .unset, .unset, .unset, .unset, .unset, .unset, .unset] [])) _
  refine XS.iloadN X.here hx rfl (hb hby at_22) rfl ?_
  show Steps p.tables e below (T.setTop (mkF m 23 #[.val (.int u0), .val (.int u1), .val (.int u2), .val (.int (u2 &&& (3 : Int32))), .unset, .unset, .unset, .unset, .unset, .unset, .unset, .unset, .unset, .unset, .unset, .unset, .unset, .unset, .unset, .unset, .unset, .unset, .unset, .unset] [(.int (u2 &&& (3 : Int32)))])) _
  refine XS.iconst X.here hx rfl (hb hby at_23) ?_
  show Steps p.tables e below (T.setTop (mkF m 24 #[.val (.int u0), .val (.int u1), .val (.int u2), .val (.int (u2 &&& (3 : Int32))), .unset, .unset, .unset, .unset, .unset, .unset, .unset, .unset, .unset, .unset, .unset, .unset, .unset, .unset, .unset, .unset, .unset, .unset, .unset, .unset] [(.int (2 : Int32)), (.int (u2 &&& (3 : Int32)))])) _
  refine XS.icmpNo X.here hx rfl (hb hby at_24) rfl (teq hc24).2 ?_
  show Steps p.tables e below (T.setTop (mkF m 27 #[.val (.int u0), .val (.int u1), .val (.int u2), .val (.int (u2 &&& (3 : Int32))), .unset, .unset, .unset, .unset, .unset, .unset, .unset, .unset, .unset, .unset, .unset, .unset, .unset, .unset, .unset, .unset, .unset, .unset, .unset, .unset] [])) _
  refine XS.bipush X.here hx rfl (hb hby at_27) ?_
  show Steps p.tables e below (T.setTop (mkF m 29 #[.val (.int u0), .val (.int u1), .val (.int u2), .val (.int (u2 &&& (3 : Int32))), .unset, .unset, .unset, .unset, .unset, .unset, .unset, .unset, .unset, .unset, .unset, .unset, .unset, .unset, .unset, .unset, .unset, .unset, .unset, .unset] [(.int (22 : Int32))])) _
  refine XS.goto X.here hx rfl (pc0 := 29) (pc' := 34) rfl (hb hby at_29) (by decide) (by decide) ?_
  exact hr
set_option maxRecDepth 65536 in
set_option maxHeartbeats 4000000 in
theorem sA_3 {p : Program} {l : Launch} {e : Env} {R : Room} {s : State} {m : MethodId} {args : Array Value} {below : List Frame} {meth : Method} {c : Code} {T : State} {locs : List Loc} {cells slots : Nat} {Z : State} {a0 : Array Value} {target : State} {u0 u1 u2 : Int32} (X : Stand p l e R s m args below meth c T locs cells slots) (hx : p.tables.exec = Jvm.exec) (hZ : Z.Warmed39 s.vm) (hw : ∀ d ∈ tables_1, d.before a0 Z = true) (hby : c.code = code) (hown : s.vm.findClass "com/example/unsplit/unsplit/UpwardAddPinLaw" = some m.cls) (hc5 : ¬ ((u2 &&& (3 : Int32)) = (0 : Int32))) (hc14 : ¬ ((u2 &&& (3 : Int32)) = (1 : Int32))) (hc24 : ¬ ((u2 &&& (3 : Int32)) = (2 : Int32)))
    (hr : Steps p.tables e below (T.setTop (mkF m 34 #[.val (.int u0), .val (.int u1), .val (.int u2), .val (.int (u2 &&& (3 : Int32))), .unset, .unset, .unset, .unset, .unset, .unset, .unset, .unset, .unset, .unset, .unset, .unset, .unset, .unset, .unset, .unset, .unset, .unset, .unset, .unset] [(.int (30 : Int32))])) target) : Steps p.tables e below (T.setTop (mkF m 0 #[.val (.int u0), .val (.int u1), .val (.int u2), .unset, .unset, .unset, .unset, .unset, .unset, .unset, .unset, .unset, .unset, .unset, .unset, .unset, .unset, .unset, .unset, .unset, .unset, .unset, .unset, .unset] [])) target := by
  show Steps p.tables e below (T.setTop (mkF m 0 #[.val (.int u0), .val (.int u1), .val (.int u2), .unset, .unset, .unset, .unset, .unset, .unset, .unset, .unset, .unset, .unset, .unset, .unset, .unset, .unset, .unset, .unset, .unset, .unset, .unset, .unset, .unset] [])) _
  refine XS.iloadN X.here hx rfl (hb hby at_0) rfl ?_
  show Steps p.tables e below (T.setTop (mkF m 1 #[.val (.int u0), .val (.int u1), .val (.int u2), .unset, .unset, .unset, .unset, .unset, .unset, .unset, .unset, .unset, .unset, .unset, .unset, .unset, .unset, .unset, .unset, .unset, .unset, .unset, .unset, .unset] [(.int u2)])) _
  refine XS.iconst X.here hx rfl (hb hby at_1) ?_
  show Steps p.tables e below (T.setTop (mkF m 2 #[.val (.int u0), .val (.int u1), .val (.int u2), .unset, .unset, .unset, .unset, .unset, .unset, .unset, .unset, .unset, .unset, .unset, .unset, .unset, .unset, .unset, .unset, .unset, .unset, .unset, .unset, .unset] [(.int (3 : Int32)), (.int u2)])) _
  refine XS.iand X.here hx rfl (hb hby at_2) rfl ?_
  show Steps p.tables e below (T.setTop (mkF m 3 #[.val (.int u0), .val (.int u1), .val (.int u2), .unset, .unset, .unset, .unset, .unset, .unset, .unset, .unset, .unset, .unset, .unset, .unset, .unset, .unset, .unset, .unset, .unset, .unset, .unset, .unset, .unset] [(.int (u2 &&& (3 : Int32)))])) _
  refine XS.istoreN X.here hx rfl (hb hby at_3) rfl (l' := #[.val (.int u0), .val (.int u1), .val (.int u2), .val (.int (u2 &&& (3 : Int32))), .unset, .unset, .unset, .unset, .unset, .unset, .unset, .unset, .unset, .unset, .unset, .unset, .unset, .unset, .unset, .unset, .unset, .unset, .unset, .unset]) rfl ?_
  show Steps p.tables e below (T.setTop (mkF m 4 #[.val (.int u0), .val (.int u1), .val (.int u2), .val (.int (u2 &&& (3 : Int32))), .unset, .unset, .unset, .unset, .unset, .unset, .unset, .unset, .unset, .unset, .unset, .unset, .unset, .unset, .unset, .unset, .unset, .unset, .unset, .unset] [])) _
  refine XS.iloadN X.here hx rfl (hb hby at_4) rfl ?_
  show Steps p.tables e below (T.setTop (mkF m 5 #[.val (.int u0), .val (.int u1), .val (.int u2), .val (.int (u2 &&& (3 : Int32))), .unset, .unset, .unset, .unset, .unset, .unset, .unset, .unset, .unset, .unset, .unset, .unset, .unset, .unset, .unset, .unset, .unset, .unset, .unset, .unset] [(.int (u2 &&& (3 : Int32)))])) _
  refine XS.ifYes X.here hx rfl (pc0 := 5) (pc' := 12) rfl (hb hby at_5) rfl ((if0 _ _).trans (feq hc5).2) (by decide) (by decide) ?_
  show Steps p.tables e below (T.setTop (mkF m 12 #[.val (.int u0), .val (.int u1), .val (.int u2), .val (.int (u2 &&& (3 : Int32))), .unset, .unset, .unset, .unset, .unset, .unset, .unset, .unset, .unset, .unset, .unset, .unset, .unset, .unset, .unset, .unset, .unset, .unset, .unset, .unset] [])) _
  refine XS.iloadN X.here hx rfl (hb hby at_12) rfl ?_
  show Steps p.tables e below (T.setTop (mkF m 13 #[.val (.int u0), .val (.int u1), .val (.int u2), .val (.int (u2 &&& (3 : Int32))), .unset, .unset, .unset, .unset, .unset, .unset, .unset, .unset, .unset, .unset, .unset, .unset, .unset, .unset, .unset, .unset, .unset, .unset, .unset, .unset] [(.int (u2 &&& (3 : Int32)))])) _
  refine XS.iconst X.here hx rfl (hb hby at_13) ?_
  show Steps p.tables e below (T.setTop (mkF m 14 #[.val (.int u0), .val (.int u1), .val (.int u2), .val (.int (u2 &&& (3 : Int32))), .unset, .unset, .unset, .unset, .unset, .unset, .unset, .unset, .unset, .unset, .unset, .unset, .unset, .unset, .unset, .unset, .unset, .unset, .unset, .unset] [(.int (1 : Int32)), (.int (u2 &&& (3 : Int32)))])) _
  refine XS.icmpYes X.here hx rfl (pc0 := 14) (pc' := 22) rfl (hb hby at_14) rfl (feq hc14).2 (by decide) (by decide) ?_
  show Steps p.tables e below (T.setTop (mkF m 22 #[.val (.int u0), .val (.int u1), .val (.int u2), .val (.int (u2 &&& (3 : Int32))), .unset, .unset, .unset, .unset, .unset, .unset, .unset, .unset, .unset, .unset, .unset, .unset, .unset, .unset, .unset, .unset, .unset, .unset, .unset, .unset] [])) _
  refine XS.iloadN X.here hx rfl (hb hby at_22) rfl ?_
  show Steps p.tables e below (T.setTop (mkF m 23 #[.val (.int u0), .val (.int u1), .val (.int u2), .val (.int (u2 &&& (3 : Int32))), .unset, .unset, .unset, .unset, .unset, .unset, .unset, .unset, .unset, .unset, .unset, .unset, .unset, .unset, .unset, .unset, .unset, .unset, .unset, .unset] [(.int (u2 &&& (3 : Int32)))])) _
  refine XS.iconst X.here hx rfl (hb hby at_23) ?_
  show Steps p.tables e below (T.setTop (mkF m 24 #[.val (.int u0), .val (.int u1), .val (.int u2), .val (.int (u2 &&& (3 : Int32))), .unset, .unset, .unset, .unset, .unset, .unset, .unset, .unset, .unset, .unset, .unset, .unset, .unset, .unset, .unset, .unset, .unset, .unset, .unset, .unset] [(.int (2 : Int32)), (.int (u2 &&& (3 : Int32)))])) _
  refine XS.icmpYes X.here hx rfl (pc0 := 24) (pc' := 32) rfl (hb hby at_24) rfl (feq hc24).2 (by decide) (by decide) ?_
  show Steps p.tables e below (T.setTop (mkF m 32 #[.val (.int u0), .val (.int u1), .val (.int u2), .val (.int (u2 &&& (3 : Int32))), .unset, .unset, .unset, .unset, .unset, .unset, .unset, .unset, .unset, .unset, .unset, .unset, .unset, .unset, .unset, .unset, .unset, .unset, .unset, .unset] [])) _
  refine XS.bipush X.here hx rfl (hb hby at_32) ?_
  exact hr
theorem sA {p : Program} {l : Launch} {e : Env} {R : Room} {s : State} {m : MethodId} {args : Array Value} {below : List Frame} {meth : Method} {c : Code} {T : State} {locs : List Loc} {cells slots : Nat} {Z : State} {a0 : Array Value} {target : State} {u0 u1 u2 : Int32} (X : Stand p l e R s m args below meth c T locs cells slots) (hx : p.tables.exec = Jvm.exec) (hZ : Z.Warmed39 s.vm) (hw : ∀ d ∈ tables_1, d.before a0 Z = true) (hby : c.code = code) (hown : s.vm.findClass "com/example/unsplit/unsplit/UpwardAddPinLaw" = some m.cls)
    (hr : Steps p.tables e below (T.setTop (mkF m 34 #[.val (.int u0), .val (.int u1), .val (.int u2), .val (.int (u2 &&& (3 : Int32))), .unset, .unset, .unset, .unset, .unset, .unset, .unset, .unset, .unset, .unset, .unset, .unset, .unset, .unset, .unset, .unset, .unset, .unset, .unset, .unset] [(.int (shE u2))])) target) : Steps p.tables e below (T.setTop (mkF m 0 #[.val (.int u0), .val (.int u1), .val (.int u2), .unset, .unset, .unset, .unset, .unset, .unset, .unset, .unset, .unset, .unset, .unset, .unset, .unset, .unset, .unset, .unset, .unset, .unset, .unset, .unset, .unset] [])) target := by
  by_cases h0 : u2 &&& 3 = 0
  · rw [show shE u2 = 0 from if_pos h0] at hr
    exact sA_0 X hx hZ hw hby hown h0 hr
  by_cases h1 : u2 &&& 3 = 1
  · rw [show shE u2 = 11 from (if_neg h0).trans (if_pos h1)] at hr
    exact sA_1 X hx hZ hw hby hown h0 h1 hr
  by_cases h2 : u2 &&& 3 = 2
  · rw [show shE u2 = 22 from (if_neg h0).trans ((if_neg h1).trans (if_pos h2))] at hr
    exact sA_2 X hx hZ hw hby hown h0 h1 h2 hr
  · rw [show shE u2 = 30 from (if_neg h0).trans ((if_neg h1).trans (if_neg h2))] at hr
    exact sA_3 X hx hZ hw hby hown h0 h1 h2 hr
set_option maxRecDepth 65536 in
set_option maxHeartbeats 4000000 in
theorem sB_t {p : Program} {l : Launch} {e : Env} {R : Room} {s : State} {m : MethodId} {args : Array Value} {below : List Frame} {meth : Method} {c : Code} {T : State} {locs : List Loc} {cells slots : Nat} {Z : State} {a0 : Array Value} {target : State} {u0 u1 u2 : Int32} (X : Stand p l e R s m args below meth c T locs cells slots) (hx : p.tables.exec = Jvm.exec) (hZ : Z.Warmed39 s.vm) (hw : ∀ d ∈ tables_1, d.before a0 Z = true) (hby : c.code = code) (hown : s.vm.findClass "com/example/unsplit/unsplit/UpwardAddPinLaw" = some m.cls) (hc39 : (u2 &&& (4 : Int32)) = (0 : Int32)) (hn60 : Jvm.Free.Fl.NoNaN64 (FP.dmul (FP.i2d u0) (FP.l2d ((1 : Int64) <<< ((shE u2) &&& 0x3f).toInt64))))
    (hr : Steps p.tables e below (T.setTop (mkF m 77 #[.val (.int u0), .val (.int u1), .val (.int u2), .val (.int (u2 &&& (3 : Int32))), .val (.int (shE u2)), .val (.int (0 : Int32)), .val (.long ((1 : Int64) <<< ((shE u2) &&& 0x3f).toInt64)), .second, .val (.double (FP.dmul (FP.i2d u0) (FP.l2d ((1 : Int64) <<< ((shE u2) &&& 0x3f).toInt64)))), .second, .val (.double (FP.i2d u1)), .second, .val (.long (((u0.toInt64) * ((1 : Int64) <<< ((shE u2) &&& 0x3f).toInt64)) + (u1.toInt64))), .second, .unset, .unset, .unset, .unset, .unset, .unset, .unset, .unset, .unset, .unset] [])) target) : Steps p.tables e below (T.setTop (mkF m 34 #[.val (.int u0), .val (.int u1), .val (.int u2), .val (.int (u2 &&& (3 : Int32))), .unset, .unset, .unset, .unset, .unset, .unset, .unset, .unset, .unset, .unset, .unset, .unset, .unset, .unset, .unset, .unset, .unset, .unset, .unset, .unset] [(.int (shE u2))])) target := by
  show Steps p.tables e below (T.setTop (mkF m 34 #[.val (.int u0), .val (.int u1), .val (.int u2), .val (.int (u2 &&& (3 : Int32))), .unset, .unset, .unset, .unset, .unset, .unset, .unset, .unset, .unset, .unset, .unset, .unset, .unset, .unset, .unset, .unset, .unset, .unset, .unset, .unset] [(.int (shE u2))])) _
  refine XS.istore X.here hx rfl (hb hby at_34) rfl (l' := #[.val (.int u0), .val (.int u1), .val (.int u2), .val (.int (u2 &&& (3 : Int32))), .val (.int (shE u2)), .unset, .unset, .unset, .unset, .unset, .unset, .unset, .unset, .unset, .unset, .unset, .unset, .unset, .unset, .unset, .unset, .unset, .unset, .unset]) rfl ?_
  show Steps p.tables e below (T.setTop (mkF m 36 #[.val (.int u0), .val (.int u1), .val (.int u2), .val (.int (u2 &&& (3 : Int32))), .val (.int (shE u2)), .unset, .unset, .unset, .unset, .unset, .unset, .unset, .unset, .unset, .unset, .unset, .unset, .unset, .unset, .unset, .unset, .unset, .unset, .unset] [])) _
  refine XS.iloadN X.here hx rfl (hb hby at_36) rfl ?_
  show Steps p.tables e below (T.setTop (mkF m 37 #[.val (.int u0), .val (.int u1), .val (.int u2), .val (.int (u2 &&& (3 : Int32))), .val (.int (shE u2)), .unset, .unset, .unset, .unset, .unset, .unset, .unset, .unset, .unset, .unset, .unset, .unset, .unset, .unset, .unset, .unset, .unset, .unset, .unset] [(.int u2)])) _
  refine XS.iconst X.here hx rfl (hb hby at_37) ?_
  show Steps p.tables e below (T.setTop (mkF m 38 #[.val (.int u0), .val (.int u1), .val (.int u2), .val (.int (u2 &&& (3 : Int32))), .val (.int (shE u2)), .unset, .unset, .unset, .unset, .unset, .unset, .unset, .unset, .unset, .unset, .unset, .unset, .unset, .unset, .unset, .unset, .unset, .unset, .unset] [(.int (4 : Int32)), (.int u2)])) _
  refine XS.iand X.here hx rfl (hb hby at_38) rfl ?_
  show Steps p.tables e below (T.setTop (mkF m 39 #[.val (.int u0), .val (.int u1), .val (.int u2), .val (.int (u2 &&& (3 : Int32))), .val (.int (shE u2)), .unset, .unset, .unset, .unset, .unset, .unset, .unset, .unset, .unset, .unset, .unset, .unset, .unset, .unset, .unset, .unset, .unset, .unset, .unset] [(.int (u2 &&& (4 : Int32)))])) _
  refine XS.ifYes X.here hx rfl (pc0 := 39) (pc' := 46) rfl (hb hby at_39) rfl ((if0 _ _).trans (teq hc39).1) (by decide) (by decide) ?_
  show Steps p.tables e below (T.setTop (mkF m 46 #[.val (.int u0), .val (.int u1), .val (.int u2), .val (.int (u2 &&& (3 : Int32))), .val (.int (shE u2)), .unset, .unset, .unset, .unset, .unset, .unset, .unset, .unset, .unset, .unset, .unset, .unset, .unset, .unset, .unset, .unset, .unset, .unset, .unset] [])) _
  refine XS.iconst X.here hx rfl (hb hby at_46) ?_
  show Steps p.tables e below (T.setTop (mkF m 47 #[.val (.int u0), .val (.int u1), .val (.int u2), .val (.int (u2 &&& (3 : Int32))), .val (.int (shE u2)), .unset, .unset, .unset, .unset, .unset, .unset, .unset, .unset, .unset, .unset, .unset, .unset, .unset, .unset, .unset, .unset, .unset, .unset, .unset] [(.int (0 : Int32))])) _
  refine XS.istore X.here hx rfl (hb hby at_47) rfl (l' := #[.val (.int u0), .val (.int u1), .val (.int u2), .val (.int (u2 &&& (3 : Int32))), .val (.int (shE u2)), .val (.int (0 : Int32)), .unset, .unset, .unset, .unset, .unset, .unset, .unset, .unset, .unset, .unset, .unset, .unset, .unset, .unset, .unset, .unset, .unset, .unset]) rfl ?_
  show Steps p.tables e below (T.setTop (mkF m 49 #[.val (.int u0), .val (.int u1), .val (.int u2), .val (.int (u2 &&& (3 : Int32))), .val (.int (shE u2)), .val (.int (0 : Int32)), .unset, .unset, .unset, .unset, .unset, .unset, .unset, .unset, .unset, .unset, .unset, .unset, .unset, .unset, .unset, .unset, .unset, .unset] [])) _
  refine XS.lconst X.here hx rfl (hb hby at_49) ?_
  show Steps p.tables e below (T.setTop (mkF m 50 #[.val (.int u0), .val (.int u1), .val (.int u2), .val (.int (u2 &&& (3 : Int32))), .val (.int (shE u2)), .val (.int (0 : Int32)), .unset, .unset, .unset, .unset, .unset, .unset, .unset, .unset, .unset, .unset, .unset, .unset, .unset, .unset, .unset, .unset, .unset, .unset] [(.long (1 : Int64))])) _
  refine XS.iload X.here hx rfl (hb hby at_50) rfl ?_
  show Steps p.tables e below (T.setTop (mkF m 52 #[.val (.int u0), .val (.int u1), .val (.int u2), .val (.int (u2 &&& (3 : Int32))), .val (.int (shE u2)), .val (.int (0 : Int32)), .unset, .unset, .unset, .unset, .unset, .unset, .unset, .unset, .unset, .unset, .unset, .unset, .unset, .unset, .unset, .unset, .unset, .unset] [(.int (shE u2)), (.long (1 : Int64))])) _
  refine XS.lshl X.here hx rfl (hb hby at_52) rfl ?_
  show Steps p.tables e below (T.setTop (mkF m 53 #[.val (.int u0), .val (.int u1), .val (.int u2), .val (.int (u2 &&& (3 : Int32))), .val (.int (shE u2)), .val (.int (0 : Int32)), .unset, .unset, .unset, .unset, .unset, .unset, .unset, .unset, .unset, .unset, .unset, .unset, .unset, .unset, .unset, .unset, .unset, .unset] [(.long ((1 : Int64) <<< ((shE u2) &&& 0x3f).toInt64))])) _
  refine XS.lstore X.here hx rfl (hb hby at_53) rfl (l' := #[.val (.int u0), .val (.int u1), .val (.int u2), .val (.int (u2 &&& (3 : Int32))), .val (.int (shE u2)), .val (.int (0 : Int32)), .val (.long ((1 : Int64) <<< ((shE u2) &&& 0x3f).toInt64)), .second, .unset, .unset, .unset, .unset, .unset, .unset, .unset, .unset, .unset, .unset, .unset, .unset, .unset, .unset, .unset, .unset]) rfl ?_
  show Steps p.tables e below (T.setTop (mkF m 55 #[.val (.int u0), .val (.int u1), .val (.int u2), .val (.int (u2 &&& (3 : Int32))), .val (.int (shE u2)), .val (.int (0 : Int32)), .val (.long ((1 : Int64) <<< ((shE u2) &&& 0x3f).toInt64)), .second, .unset, .unset, .unset, .unset, .unset, .unset, .unset, .unset, .unset, .unset, .unset, .unset, .unset, .unset, .unset, .unset] [])) _
  refine XS.iloadN X.here hx rfl (hb hby at_55) rfl ?_
  show Steps p.tables e below (T.setTop (mkF m 56 #[.val (.int u0), .val (.int u1), .val (.int u2), .val (.int (u2 &&& (3 : Int32))), .val (.int (shE u2)), .val (.int (0 : Int32)), .val (.long ((1 : Int64) <<< ((shE u2) &&& 0x3f).toInt64)), .second, .unset, .unset, .unset, .unset, .unset, .unset, .unset, .unset, .unset, .unset, .unset, .unset, .unset, .unset, .unset, .unset] [(.int u0)])) _
  refine XS.i2dS X.here hx rfl (hb hby at_56) rfl (v := (FP.i2d u0)) rfl ?_
  show Steps p.tables e below (T.setTop (mkF m 57 #[.val (.int u0), .val (.int u1), .val (.int u2), .val (.int (u2 &&& (3 : Int32))), .val (.int (shE u2)), .val (.int (0 : Int32)), .val (.long ((1 : Int64) <<< ((shE u2) &&& 0x3f).toInt64)), .second, .unset, .unset, .unset, .unset, .unset, .unset, .unset, .unset, .unset, .unset, .unset, .unset, .unset, .unset, .unset, .unset] [(.double (FP.i2d u0))])) _
  refine XS.lload X.here hx rfl (hb hby at_57) rfl ?_
  show Steps p.tables e below (T.setTop (mkF m 59 #[.val (.int u0), .val (.int u1), .val (.int u2), .val (.int (u2 &&& (3 : Int32))), .val (.int (shE u2)), .val (.int (0 : Int32)), .val (.long ((1 : Int64) <<< ((shE u2) &&& 0x3f).toInt64)), .second, .unset, .unset, .unset, .unset, .unset, .unset, .unset, .unset, .unset, .unset, .unset, .unset, .unset, .unset, .unset, .unset] [(.long ((1 : Int64) <<< ((shE u2) &&& 0x3f).toInt64)), (.double (FP.i2d u0))])) _
  refine XS.l2dS X.here hx rfl (hb hby at_59) rfl (v := (FP.l2d ((1 : Int64) <<< ((shE u2) &&& 0x3f).toInt64))) rfl ?_
  show Steps p.tables e below (T.setTop (mkF m 60 #[.val (.int u0), .val (.int u1), .val (.int u2), .val (.int (u2 &&& (3 : Int32))), .val (.int (shE u2)), .val (.int (0 : Int32)), .val (.long ((1 : Int64) <<< ((shE u2) &&& 0x3f).toInt64)), .second, .unset, .unset, .unset, .unset, .unset, .unset, .unset, .unset, .unset, .unset, .unset, .unset, .unset, .unset, .unset, .unset] [(.double (FP.l2d ((1 : Int64) <<< ((shE u2) &&& 0x3f).toInt64))), (.double (FP.i2d u0))])) _
  refine XS.dmulS X.here hx rfl (hb hby at_60) rfl hn60 (v := (FP.dmul (FP.i2d u0) (FP.l2d ((1 : Int64) <<< ((shE u2) &&& 0x3f).toInt64)))) rfl ?_
  show Steps p.tables e below (T.setTop (mkF m 61 #[.val (.int u0), .val (.int u1), .val (.int u2), .val (.int (u2 &&& (3 : Int32))), .val (.int (shE u2)), .val (.int (0 : Int32)), .val (.long ((1 : Int64) <<< ((shE u2) &&& 0x3f).toInt64)), .second, .unset, .unset, .unset, .unset, .unset, .unset, .unset, .unset, .unset, .unset, .unset, .unset, .unset, .unset, .unset, .unset] [(.double (FP.dmul (FP.i2d u0) (FP.l2d ((1 : Int64) <<< ((shE u2) &&& 0x3f).toInt64))))])) _
  refine XS.dstore X.here hx rfl (hb hby at_61) rfl (l' := #[.val (.int u0), .val (.int u1), .val (.int u2), .val (.int (u2 &&& (3 : Int32))), .val (.int (shE u2)), .val (.int (0 : Int32)), .val (.long ((1 : Int64) <<< ((shE u2) &&& 0x3f).toInt64)), .second, .val (.double (FP.dmul (FP.i2d u0) (FP.l2d ((1 : Int64) <<< ((shE u2) &&& 0x3f).toInt64)))), .second, .unset, .unset, .unset, .unset, .unset, .unset, .unset, .unset, .unset, .unset, .unset, .unset, .unset, .unset]) rfl ?_
  show Steps p.tables e below (T.setTop (mkF m 63 #[.val (.int u0), .val (.int u1), .val (.int u2), .val (.int (u2 &&& (3 : Int32))), .val (.int (shE u2)), .val (.int (0 : Int32)), .val (.long ((1 : Int64) <<< ((shE u2) &&& 0x3f).toInt64)), .second, .val (.double (FP.dmul (FP.i2d u0) (FP.l2d ((1 : Int64) <<< ((shE u2) &&& 0x3f).toInt64)))), .second, .unset, .unset, .unset, .unset, .unset, .unset, .unset, .unset, .unset, .unset, .unset, .unset, .unset, .unset] [])) _
  refine XS.iloadN X.here hx rfl (hb hby at_63) rfl ?_
  show Steps p.tables e below (T.setTop (mkF m 64 #[.val (.int u0), .val (.int u1), .val (.int u2), .val (.int (u2 &&& (3 : Int32))), .val (.int (shE u2)), .val (.int (0 : Int32)), .val (.long ((1 : Int64) <<< ((shE u2) &&& 0x3f).toInt64)), .second, .val (.double (FP.dmul (FP.i2d u0) (FP.l2d ((1 : Int64) <<< ((shE u2) &&& 0x3f).toInt64)))), .second, .unset, .unset, .unset, .unset, .unset, .unset, .unset, .unset, .unset, .unset, .unset, .unset, .unset, .unset] [(.int u1)])) _
  refine XS.i2dS X.here hx rfl (hb hby at_64) rfl (v := (FP.i2d u1)) rfl ?_
  show Steps p.tables e below (T.setTop (mkF m 65 #[.val (.int u0), .val (.int u1), .val (.int u2), .val (.int (u2 &&& (3 : Int32))), .val (.int (shE u2)), .val (.int (0 : Int32)), .val (.long ((1 : Int64) <<< ((shE u2) &&& 0x3f).toInt64)), .second, .val (.double (FP.dmul (FP.i2d u0) (FP.l2d ((1 : Int64) <<< ((shE u2) &&& 0x3f).toInt64)))), .second, .unset, .unset, .unset, .unset, .unset, .unset, .unset, .unset, .unset, .unset, .unset, .unset, .unset, .unset] [(.double (FP.i2d u1))])) _
  refine XS.dstore X.here hx rfl (hb hby at_65) rfl (l' := #[.val (.int u0), .val (.int u1), .val (.int u2), .val (.int (u2 &&& (3 : Int32))), .val (.int (shE u2)), .val (.int (0 : Int32)), .val (.long ((1 : Int64) <<< ((shE u2) &&& 0x3f).toInt64)), .second, .val (.double (FP.dmul (FP.i2d u0) (FP.l2d ((1 : Int64) <<< ((shE u2) &&& 0x3f).toInt64)))), .second, .val (.double (FP.i2d u1)), .second, .unset, .unset, .unset, .unset, .unset, .unset, .unset, .unset, .unset, .unset, .unset, .unset]) rfl ?_
  show Steps p.tables e below (T.setTop (mkF m 67 #[.val (.int u0), .val (.int u1), .val (.int u2), .val (.int (u2 &&& (3 : Int32))), .val (.int (shE u2)), .val (.int (0 : Int32)), .val (.long ((1 : Int64) <<< ((shE u2) &&& 0x3f).toInt64)), .second, .val (.double (FP.dmul (FP.i2d u0) (FP.l2d ((1 : Int64) <<< ((shE u2) &&& 0x3f).toInt64)))), .second, .val (.double (FP.i2d u1)), .second, .unset, .unset, .unset, .unset, .unset, .unset, .unset, .unset, .unset, .unset, .unset, .unset] [])) _
  refine XS.iloadN X.here hx rfl (hb hby at_67) rfl ?_
  show Steps p.tables e below (T.setTop (mkF m 68 #[.val (.int u0), .val (.int u1), .val (.int u2), .val (.int (u2 &&& (3 : Int32))), .val (.int (shE u2)), .val (.int (0 : Int32)), .val (.long ((1 : Int64) <<< ((shE u2) &&& 0x3f).toInt64)), .second, .val (.double (FP.dmul (FP.i2d u0) (FP.l2d ((1 : Int64) <<< ((shE u2) &&& 0x3f).toInt64)))), .second, .val (.double (FP.i2d u1)), .second, .unset, .unset, .unset, .unset, .unset, .unset, .unset, .unset, .unset, .unset, .unset, .unset] [(.int u0)])) _
  refine XS.i2l X.here hx rfl (hb hby at_68) rfl ?_
  show Steps p.tables e below (T.setTop (mkF m 69 #[.val (.int u0), .val (.int u1), .val (.int u2), .val (.int (u2 &&& (3 : Int32))), .val (.int (shE u2)), .val (.int (0 : Int32)), .val (.long ((1 : Int64) <<< ((shE u2) &&& 0x3f).toInt64)), .second, .val (.double (FP.dmul (FP.i2d u0) (FP.l2d ((1 : Int64) <<< ((shE u2) &&& 0x3f).toInt64)))), .second, .val (.double (FP.i2d u1)), .second, .unset, .unset, .unset, .unset, .unset, .unset, .unset, .unset, .unset, .unset, .unset, .unset] [(.long (u0.toInt64))])) _
  refine XS.lload X.here hx rfl (hb hby at_69) rfl ?_
  show Steps p.tables e below (T.setTop (mkF m 71 #[.val (.int u0), .val (.int u1), .val (.int u2), .val (.int (u2 &&& (3 : Int32))), .val (.int (shE u2)), .val (.int (0 : Int32)), .val (.long ((1 : Int64) <<< ((shE u2) &&& 0x3f).toInt64)), .second, .val (.double (FP.dmul (FP.i2d u0) (FP.l2d ((1 : Int64) <<< ((shE u2) &&& 0x3f).toInt64)))), .second, .val (.double (FP.i2d u1)), .second, .unset, .unset, .unset, .unset, .unset, .unset, .unset, .unset, .unset, .unset, .unset, .unset] [(.long ((1 : Int64) <<< ((shE u2) &&& 0x3f).toInt64)), (.long (u0.toInt64))])) _
  refine XS.lmul X.here hx rfl (hb hby at_71) rfl ?_
  show Steps p.tables e below (T.setTop (mkF m 72 #[.val (.int u0), .val (.int u1), .val (.int u2), .val (.int (u2 &&& (3 : Int32))), .val (.int (shE u2)), .val (.int (0 : Int32)), .val (.long ((1 : Int64) <<< ((shE u2) &&& 0x3f).toInt64)), .second, .val (.double (FP.dmul (FP.i2d u0) (FP.l2d ((1 : Int64) <<< ((shE u2) &&& 0x3f).toInt64)))), .second, .val (.double (FP.i2d u1)), .second, .unset, .unset, .unset, .unset, .unset, .unset, .unset, .unset, .unset, .unset, .unset, .unset] [(.long ((u0.toInt64) * ((1 : Int64) <<< ((shE u2) &&& 0x3f).toInt64)))])) _
  refine XS.iloadN X.here hx rfl (hb hby at_72) rfl ?_
  show Steps p.tables e below (T.setTop (mkF m 73 #[.val (.int u0), .val (.int u1), .val (.int u2), .val (.int (u2 &&& (3 : Int32))), .val (.int (shE u2)), .val (.int (0 : Int32)), .val (.long ((1 : Int64) <<< ((shE u2) &&& 0x3f).toInt64)), .second, .val (.double (FP.dmul (FP.i2d u0) (FP.l2d ((1 : Int64) <<< ((shE u2) &&& 0x3f).toInt64)))), .second, .val (.double (FP.i2d u1)), .second, .unset, .unset, .unset, .unset, .unset, .unset, .unset, .unset, .unset, .unset, .unset, .unset] [(.int u1), (.long ((u0.toInt64) * ((1 : Int64) <<< ((shE u2) &&& 0x3f).toInt64)))])) _
  refine XS.i2l X.here hx rfl (hb hby at_73) rfl ?_
  show Steps p.tables e below (T.setTop (mkF m 74 #[.val (.int u0), .val (.int u1), .val (.int u2), .val (.int (u2 &&& (3 : Int32))), .val (.int (shE u2)), .val (.int (0 : Int32)), .val (.long ((1 : Int64) <<< ((shE u2) &&& 0x3f).toInt64)), .second, .val (.double (FP.dmul (FP.i2d u0) (FP.l2d ((1 : Int64) <<< ((shE u2) &&& 0x3f).toInt64)))), .second, .val (.double (FP.i2d u1)), .second, .unset, .unset, .unset, .unset, .unset, .unset, .unset, .unset, .unset, .unset, .unset, .unset] [(.long (u1.toInt64)), (.long ((u0.toInt64) * ((1 : Int64) <<< ((shE u2) &&& 0x3f).toInt64)))])) _
  refine XS.ladd X.here hx rfl (hb hby at_74) rfl ?_
  show Steps p.tables e below (T.setTop (mkF m 75 #[.val (.int u0), .val (.int u1), .val (.int u2), .val (.int (u2 &&& (3 : Int32))), .val (.int (shE u2)), .val (.int (0 : Int32)), .val (.long ((1 : Int64) <<< ((shE u2) &&& 0x3f).toInt64)), .second, .val (.double (FP.dmul (FP.i2d u0) (FP.l2d ((1 : Int64) <<< ((shE u2) &&& 0x3f).toInt64)))), .second, .val (.double (FP.i2d u1)), .second, .unset, .unset, .unset, .unset, .unset, .unset, .unset, .unset, .unset, .unset, .unset, .unset] [(.long (((u0.toInt64) * ((1 : Int64) <<< ((shE u2) &&& 0x3f).toInt64)) + (u1.toInt64)))])) _
  refine XS.lstore X.here hx rfl (hb hby at_75) rfl (l' := #[.val (.int u0), .val (.int u1), .val (.int u2), .val (.int (u2 &&& (3 : Int32))), .val (.int (shE u2)), .val (.int (0 : Int32)), .val (.long ((1 : Int64) <<< ((shE u2) &&& 0x3f).toInt64)), .second, .val (.double (FP.dmul (FP.i2d u0) (FP.l2d ((1 : Int64) <<< ((shE u2) &&& 0x3f).toInt64)))), .second, .val (.double (FP.i2d u1)), .second, .val (.long (((u0.toInt64) * ((1 : Int64) <<< ((shE u2) &&& 0x3f).toInt64)) + (u1.toInt64))), .second, .unset, .unset, .unset, .unset, .unset, .unset, .unset, .unset, .unset, .unset]) rfl ?_
  exact hr
set_option maxRecDepth 65536 in
set_option maxHeartbeats 4000000 in
theorem sB_f {p : Program} {l : Launch} {e : Env} {R : Room} {s : State} {m : MethodId} {args : Array Value} {below : List Frame} {meth : Method} {c : Code} {T : State} {locs : List Loc} {cells slots : Nat} {Z : State} {a0 : Array Value} {target : State} {u0 u1 u2 : Int32} (X : Stand p l e R s m args below meth c T locs cells slots) (hx : p.tables.exec = Jvm.exec) (hZ : Z.Warmed39 s.vm) (hw : ∀ d ∈ tables_1, d.before a0 Z = true) (hby : c.code = code) (hown : s.vm.findClass "com/example/unsplit/unsplit/UpwardAddPinLaw" = some m.cls) (hc39 : ¬ ((u2 &&& (4 : Int32)) = (0 : Int32))) (hn60 : Jvm.Free.Fl.NoNaN64 (FP.dmul (FP.i2d u0) (FP.l2d ((1 : Int64) <<< ((shE u2) &&& 0x3f).toInt64))))
    (hr : Steps p.tables e below (T.setTop (mkF m 77 #[.val (.int u0), .val (.int u1), .val (.int u2), .val (.int (u2 &&& (3 : Int32))), .val (.int (shE u2)), .val (.int (1 : Int32)), .val (.long ((1 : Int64) <<< ((shE u2) &&& 0x3f).toInt64)), .second, .val (.double (FP.dmul (FP.i2d u0) (FP.l2d ((1 : Int64) <<< ((shE u2) &&& 0x3f).toInt64)))), .second, .val (.double (FP.i2d u1)), .second, .val (.long (((u0.toInt64) * ((1 : Int64) <<< ((shE u2) &&& 0x3f).toInt64)) + (u1.toInt64))), .second, .unset, .unset, .unset, .unset, .unset, .unset, .unset, .unset, .unset, .unset] [])) target) : Steps p.tables e below (T.setTop (mkF m 34 #[.val (.int u0), .val (.int u1), .val (.int u2), .val (.int (u2 &&& (3 : Int32))), .unset, .unset, .unset, .unset, .unset, .unset, .unset, .unset, .unset, .unset, .unset, .unset, .unset, .unset, .unset, .unset, .unset, .unset, .unset, .unset] [(.int (shE u2))])) target := by
  show Steps p.tables e below (T.setTop (mkF m 34 #[.val (.int u0), .val (.int u1), .val (.int u2), .val (.int (u2 &&& (3 : Int32))), .unset, .unset, .unset, .unset, .unset, .unset, .unset, .unset, .unset, .unset, .unset, .unset, .unset, .unset, .unset, .unset, .unset, .unset, .unset, .unset] [(.int (shE u2))])) _
  refine XS.istore X.here hx rfl (hb hby at_34) rfl (l' := #[.val (.int u0), .val (.int u1), .val (.int u2), .val (.int (u2 &&& (3 : Int32))), .val (.int (shE u2)), .unset, .unset, .unset, .unset, .unset, .unset, .unset, .unset, .unset, .unset, .unset, .unset, .unset, .unset, .unset, .unset, .unset, .unset, .unset]) rfl ?_
  show Steps p.tables e below (T.setTop (mkF m 36 #[.val (.int u0), .val (.int u1), .val (.int u2), .val (.int (u2 &&& (3 : Int32))), .val (.int (shE u2)), .unset, .unset, .unset, .unset, .unset, .unset, .unset, .unset, .unset, .unset, .unset, .unset, .unset, .unset, .unset, .unset, .unset, .unset, .unset] [])) _
  refine XS.iloadN X.here hx rfl (hb hby at_36) rfl ?_
  show Steps p.tables e below (T.setTop (mkF m 37 #[.val (.int u0), .val (.int u1), .val (.int u2), .val (.int (u2 &&& (3 : Int32))), .val (.int (shE u2)), .unset, .unset, .unset, .unset, .unset, .unset, .unset, .unset, .unset, .unset, .unset, .unset, .unset, .unset, .unset, .unset, .unset, .unset, .unset] [(.int u2)])) _
  refine XS.iconst X.here hx rfl (hb hby at_37) ?_
  show Steps p.tables e below (T.setTop (mkF m 38 #[.val (.int u0), .val (.int u1), .val (.int u2), .val (.int (u2 &&& (3 : Int32))), .val (.int (shE u2)), .unset, .unset, .unset, .unset, .unset, .unset, .unset, .unset, .unset, .unset, .unset, .unset, .unset, .unset, .unset, .unset, .unset, .unset, .unset] [(.int (4 : Int32)), (.int u2)])) _
  refine XS.iand X.here hx rfl (hb hby at_38) rfl ?_
  show Steps p.tables e below (T.setTop (mkF m 39 #[.val (.int u0), .val (.int u1), .val (.int u2), .val (.int (u2 &&& (3 : Int32))), .val (.int (shE u2)), .unset, .unset, .unset, .unset, .unset, .unset, .unset, .unset, .unset, .unset, .unset, .unset, .unset, .unset, .unset, .unset, .unset, .unset, .unset] [(.int (u2 &&& (4 : Int32)))])) _
  refine XS.ifNo X.here hx rfl (hb hby at_39) rfl ((if0 _ _).trans (feq hc39).1) ?_
  show Steps p.tables e below (T.setTop (mkF m 42 #[.val (.int u0), .val (.int u1), .val (.int u2), .val (.int (u2 &&& (3 : Int32))), .val (.int (shE u2)), .unset, .unset, .unset, .unset, .unset, .unset, .unset, .unset, .unset, .unset, .unset, .unset, .unset, .unset, .unset, .unset, .unset, .unset, .unset] [])) _
  refine XS.iconst X.here hx rfl (hb hby at_42) ?_
  show Steps p.tables e below (T.setTop (mkF m 43 #[.val (.int u0), .val (.int u1), .val (.int u2), .val (.int (u2 &&& (3 : Int32))), .val (.int (shE u2)), .unset, .unset, .unset, .unset, .unset, .unset, .unset, .unset, .unset, .unset, .unset, .unset, .unset, .unset, .unset, .unset, .unset, .unset, .unset] [(.int (1 : Int32))])) _
  refine XS.goto X.here hx rfl (pc0 := 43) (pc' := 47) rfl (hb hby at_43) (by decide) (by decide) ?_
  show Steps p.tables e below (T.setTop (mkF m 47 #[.val (.int u0), .val (.int u1), .val (.int u2), .val (.int (u2 &&& (3 : Int32))), .val (.int (shE u2)), .unset, .unset, .unset, .unset, .unset, .unset, .unset, .unset, .unset, .unset, .unset, .unset, .unset, .unset, .unset, .unset, .unset, .unset, .unset] [(.int (1 : Int32))])) _
  refine XS.istore X.here hx rfl (hb hby at_47) rfl (l' := #[.val (.int u0), .val (.int u1), .val (.int u2), .val (.int (u2 &&& (3 : Int32))), .val (.int (shE u2)), .val (.int (1 : Int32)), .unset, .unset, .unset, .unset, .unset, .unset, .unset, .unset, .unset, .unset, .unset, .unset, .unset, .unset, .unset, .unset, .unset, .unset]) rfl ?_
  show Steps p.tables e below (T.setTop (mkF m 49 #[.val (.int u0), .val (.int u1), .val (.int u2), .val (.int (u2 &&& (3 : Int32))), .val (.int (shE u2)), .val (.int (1 : Int32)), .unset, .unset, .unset, .unset, .unset, .unset, .unset, .unset, .unset, .unset, .unset, .unset, .unset, .unset, .unset, .unset, .unset, .unset] [])) _
  refine XS.lconst X.here hx rfl (hb hby at_49) ?_
  show Steps p.tables e below (T.setTop (mkF m 50 #[.val (.int u0), .val (.int u1), .val (.int u2), .val (.int (u2 &&& (3 : Int32))), .val (.int (shE u2)), .val (.int (1 : Int32)), .unset, .unset, .unset, .unset, .unset, .unset, .unset, .unset, .unset, .unset, .unset, .unset, .unset, .unset, .unset, .unset, .unset, .unset] [(.long (1 : Int64))])) _
  refine XS.iload X.here hx rfl (hb hby at_50) rfl ?_
  show Steps p.tables e below (T.setTop (mkF m 52 #[.val (.int u0), .val (.int u1), .val (.int u2), .val (.int (u2 &&& (3 : Int32))), .val (.int (shE u2)), .val (.int (1 : Int32)), .unset, .unset, .unset, .unset, .unset, .unset, .unset, .unset, .unset, .unset, .unset, .unset, .unset, .unset, .unset, .unset, .unset, .unset] [(.int (shE u2)), (.long (1 : Int64))])) _
  refine XS.lshl X.here hx rfl (hb hby at_52) rfl ?_
  show Steps p.tables e below (T.setTop (mkF m 53 #[.val (.int u0), .val (.int u1), .val (.int u2), .val (.int (u2 &&& (3 : Int32))), .val (.int (shE u2)), .val (.int (1 : Int32)), .unset, .unset, .unset, .unset, .unset, .unset, .unset, .unset, .unset, .unset, .unset, .unset, .unset, .unset, .unset, .unset, .unset, .unset] [(.long ((1 : Int64) <<< ((shE u2) &&& 0x3f).toInt64))])) _
  refine XS.lstore X.here hx rfl (hb hby at_53) rfl (l' := #[.val (.int u0), .val (.int u1), .val (.int u2), .val (.int (u2 &&& (3 : Int32))), .val (.int (shE u2)), .val (.int (1 : Int32)), .val (.long ((1 : Int64) <<< ((shE u2) &&& 0x3f).toInt64)), .second, .unset, .unset, .unset, .unset, .unset, .unset, .unset, .unset, .unset, .unset, .unset, .unset, .unset, .unset, .unset, .unset]) rfl ?_
  show Steps p.tables e below (T.setTop (mkF m 55 #[.val (.int u0), .val (.int u1), .val (.int u2), .val (.int (u2 &&& (3 : Int32))), .val (.int (shE u2)), .val (.int (1 : Int32)), .val (.long ((1 : Int64) <<< ((shE u2) &&& 0x3f).toInt64)), .second, .unset, .unset, .unset, .unset, .unset, .unset, .unset, .unset, .unset, .unset, .unset, .unset, .unset, .unset, .unset, .unset] [])) _
  refine XS.iloadN X.here hx rfl (hb hby at_55) rfl ?_
  show Steps p.tables e below (T.setTop (mkF m 56 #[.val (.int u0), .val (.int u1), .val (.int u2), .val (.int (u2 &&& (3 : Int32))), .val (.int (shE u2)), .val (.int (1 : Int32)), .val (.long ((1 : Int64) <<< ((shE u2) &&& 0x3f).toInt64)), .second, .unset, .unset, .unset, .unset, .unset, .unset, .unset, .unset, .unset, .unset, .unset, .unset, .unset, .unset, .unset, .unset] [(.int u0)])) _
  refine XS.i2dS X.here hx rfl (hb hby at_56) rfl (v := (FP.i2d u0)) rfl ?_
  show Steps p.tables e below (T.setTop (mkF m 57 #[.val (.int u0), .val (.int u1), .val (.int u2), .val (.int (u2 &&& (3 : Int32))), .val (.int (shE u2)), .val (.int (1 : Int32)), .val (.long ((1 : Int64) <<< ((shE u2) &&& 0x3f).toInt64)), .second, .unset, .unset, .unset, .unset, .unset, .unset, .unset, .unset, .unset, .unset, .unset, .unset, .unset, .unset, .unset, .unset] [(.double (FP.i2d u0))])) _
  refine XS.lload X.here hx rfl (hb hby at_57) rfl ?_
  show Steps p.tables e below (T.setTop (mkF m 59 #[.val (.int u0), .val (.int u1), .val (.int u2), .val (.int (u2 &&& (3 : Int32))), .val (.int (shE u2)), .val (.int (1 : Int32)), .val (.long ((1 : Int64) <<< ((shE u2) &&& 0x3f).toInt64)), .second, .unset, .unset, .unset, .unset, .unset, .unset, .unset, .unset, .unset, .unset, .unset, .unset, .unset, .unset, .unset, .unset] [(.long ((1 : Int64) <<< ((shE u2) &&& 0x3f).toInt64)), (.double (FP.i2d u0))])) _
  refine XS.l2dS X.here hx rfl (hb hby at_59) rfl (v := (FP.l2d ((1 : Int64) <<< ((shE u2) &&& 0x3f).toInt64))) rfl ?_
  show Steps p.tables e below (T.setTop (mkF m 60 #[.val (.int u0), .val (.int u1), .val (.int u2), .val (.int (u2 &&& (3 : Int32))), .val (.int (shE u2)), .val (.int (1 : Int32)), .val (.long ((1 : Int64) <<< ((shE u2) &&& 0x3f).toInt64)), .second, .unset, .unset, .unset, .unset, .unset, .unset, .unset, .unset, .unset, .unset, .unset, .unset, .unset, .unset, .unset, .unset] [(.double (FP.l2d ((1 : Int64) <<< ((shE u2) &&& 0x3f).toInt64))), (.double (FP.i2d u0))])) _
  refine XS.dmulS X.here hx rfl (hb hby at_60) rfl hn60 (v := (FP.dmul (FP.i2d u0) (FP.l2d ((1 : Int64) <<< ((shE u2) &&& 0x3f).toInt64)))) rfl ?_
  show Steps p.tables e below (T.setTop (mkF m 61 #[.val (.int u0), .val (.int u1), .val (.int u2), .val (.int (u2 &&& (3 : Int32))), .val (.int (shE u2)), .val (.int (1 : Int32)), .val (.long ((1 : Int64) <<< ((shE u2) &&& 0x3f).toInt64)), .second, .unset, .unset, .unset, .unset, .unset, .unset, .unset, .unset, .unset, .unset, .unset, .unset, .unset, .unset, .unset, .unset] [(.double (FP.dmul (FP.i2d u0) (FP.l2d ((1 : Int64) <<< ((shE u2) &&& 0x3f).toInt64))))])) _
  refine XS.dstore X.here hx rfl (hb hby at_61) rfl (l' := #[.val (.int u0), .val (.int u1), .val (.int u2), .val (.int (u2 &&& (3 : Int32))), .val (.int (shE u2)), .val (.int (1 : Int32)), .val (.long ((1 : Int64) <<< ((shE u2) &&& 0x3f).toInt64)), .second, .val (.double (FP.dmul (FP.i2d u0) (FP.l2d ((1 : Int64) <<< ((shE u2) &&& 0x3f).toInt64)))), .second, .unset, .unset, .unset, .unset, .unset, .unset, .unset, .unset, .unset, .unset, .unset, .unset, .unset, .unset]) rfl ?_
  show Steps p.tables e below (T.setTop (mkF m 63 #[.val (.int u0), .val (.int u1), .val (.int u2), .val (.int (u2 &&& (3 : Int32))), .val (.int (shE u2)), .val (.int (1 : Int32)), .val (.long ((1 : Int64) <<< ((shE u2) &&& 0x3f).toInt64)), .second, .val (.double (FP.dmul (FP.i2d u0) (FP.l2d ((1 : Int64) <<< ((shE u2) &&& 0x3f).toInt64)))), .second, .unset, .unset, .unset, .unset, .unset, .unset, .unset, .unset, .unset, .unset, .unset, .unset, .unset, .unset] [])) _
  refine XS.iloadN X.here hx rfl (hb hby at_63) rfl ?_
  show Steps p.tables e below (T.setTop (mkF m 64 #[.val (.int u0), .val (.int u1), .val (.int u2), .val (.int (u2 &&& (3 : Int32))), .val (.int (shE u2)), .val (.int (1 : Int32)), .val (.long ((1 : Int64) <<< ((shE u2) &&& 0x3f).toInt64)), .second, .val (.double (FP.dmul (FP.i2d u0) (FP.l2d ((1 : Int64) <<< ((shE u2) &&& 0x3f).toInt64)))), .second, .unset, .unset, .unset, .unset, .unset, .unset, .unset, .unset, .unset, .unset, .unset, .unset, .unset, .unset] [(.int u1)])) _
  refine XS.i2dS X.here hx rfl (hb hby at_64) rfl (v := (FP.i2d u1)) rfl ?_
  show Steps p.tables e below (T.setTop (mkF m 65 #[.val (.int u0), .val (.int u1), .val (.int u2), .val (.int (u2 &&& (3 : Int32))), .val (.int (shE u2)), .val (.int (1 : Int32)), .val (.long ((1 : Int64) <<< ((shE u2) &&& 0x3f).toInt64)), .second, .val (.double (FP.dmul (FP.i2d u0) (FP.l2d ((1 : Int64) <<< ((shE u2) &&& 0x3f).toInt64)))), .second, .unset, .unset, .unset, .unset, .unset, .unset, .unset, .unset, .unset, .unset, .unset, .unset, .unset, .unset] [(.double (FP.i2d u1))])) _
  refine XS.dstore X.here hx rfl (hb hby at_65) rfl (l' := #[.val (.int u0), .val (.int u1), .val (.int u2), .val (.int (u2 &&& (3 : Int32))), .val (.int (shE u2)), .val (.int (1 : Int32)), .val (.long ((1 : Int64) <<< ((shE u2) &&& 0x3f).toInt64)), .second, .val (.double (FP.dmul (FP.i2d u0) (FP.l2d ((1 : Int64) <<< ((shE u2) &&& 0x3f).toInt64)))), .second, .val (.double (FP.i2d u1)), .second, .unset, .unset, .unset, .unset, .unset, .unset, .unset, .unset, .unset, .unset, .unset, .unset]) rfl ?_
  show Steps p.tables e below (T.setTop (mkF m 67 #[.val (.int u0), .val (.int u1), .val (.int u2), .val (.int (u2 &&& (3 : Int32))), .val (.int (shE u2)), .val (.int (1 : Int32)), .val (.long ((1 : Int64) <<< ((shE u2) &&& 0x3f).toInt64)), .second, .val (.double (FP.dmul (FP.i2d u0) (FP.l2d ((1 : Int64) <<< ((shE u2) &&& 0x3f).toInt64)))), .second, .val (.double (FP.i2d u1)), .second, .unset, .unset, .unset, .unset, .unset, .unset, .unset, .unset, .unset, .unset, .unset, .unset] [])) _
  refine XS.iloadN X.here hx rfl (hb hby at_67) rfl ?_
  show Steps p.tables e below (T.setTop (mkF m 68 #[.val (.int u0), .val (.int u1), .val (.int u2), .val (.int (u2 &&& (3 : Int32))), .val (.int (shE u2)), .val (.int (1 : Int32)), .val (.long ((1 : Int64) <<< ((shE u2) &&& 0x3f).toInt64)), .second, .val (.double (FP.dmul (FP.i2d u0) (FP.l2d ((1 : Int64) <<< ((shE u2) &&& 0x3f).toInt64)))), .second, .val (.double (FP.i2d u1)), .second, .unset, .unset, .unset, .unset, .unset, .unset, .unset, .unset, .unset, .unset, .unset, .unset] [(.int u0)])) _
  refine XS.i2l X.here hx rfl (hb hby at_68) rfl ?_
  show Steps p.tables e below (T.setTop (mkF m 69 #[.val (.int u0), .val (.int u1), .val (.int u2), .val (.int (u2 &&& (3 : Int32))), .val (.int (shE u2)), .val (.int (1 : Int32)), .val (.long ((1 : Int64) <<< ((shE u2) &&& 0x3f).toInt64)), .second, .val (.double (FP.dmul (FP.i2d u0) (FP.l2d ((1 : Int64) <<< ((shE u2) &&& 0x3f).toInt64)))), .second, .val (.double (FP.i2d u1)), .second, .unset, .unset, .unset, .unset, .unset, .unset, .unset, .unset, .unset, .unset, .unset, .unset] [(.long (u0.toInt64))])) _
  refine XS.lload X.here hx rfl (hb hby at_69) rfl ?_
  show Steps p.tables e below (T.setTop (mkF m 71 #[.val (.int u0), .val (.int u1), .val (.int u2), .val (.int (u2 &&& (3 : Int32))), .val (.int (shE u2)), .val (.int (1 : Int32)), .val (.long ((1 : Int64) <<< ((shE u2) &&& 0x3f).toInt64)), .second, .val (.double (FP.dmul (FP.i2d u0) (FP.l2d ((1 : Int64) <<< ((shE u2) &&& 0x3f).toInt64)))), .second, .val (.double (FP.i2d u1)), .second, .unset, .unset, .unset, .unset, .unset, .unset, .unset, .unset, .unset, .unset, .unset, .unset] [(.long ((1 : Int64) <<< ((shE u2) &&& 0x3f).toInt64)), (.long (u0.toInt64))])) _
  refine XS.lmul X.here hx rfl (hb hby at_71) rfl ?_
  show Steps p.tables e below (T.setTop (mkF m 72 #[.val (.int u0), .val (.int u1), .val (.int u2), .val (.int (u2 &&& (3 : Int32))), .val (.int (shE u2)), .val (.int (1 : Int32)), .val (.long ((1 : Int64) <<< ((shE u2) &&& 0x3f).toInt64)), .second, .val (.double (FP.dmul (FP.i2d u0) (FP.l2d ((1 : Int64) <<< ((shE u2) &&& 0x3f).toInt64)))), .second, .val (.double (FP.i2d u1)), .second, .unset, .unset, .unset, .unset, .unset, .unset, .unset, .unset, .unset, .unset, .unset, .unset] [(.long ((u0.toInt64) * ((1 : Int64) <<< ((shE u2) &&& 0x3f).toInt64)))])) _
  refine XS.iloadN X.here hx rfl (hb hby at_72) rfl ?_
  show Steps p.tables e below (T.setTop (mkF m 73 #[.val (.int u0), .val (.int u1), .val (.int u2), .val (.int (u2 &&& (3 : Int32))), .val (.int (shE u2)), .val (.int (1 : Int32)), .val (.long ((1 : Int64) <<< ((shE u2) &&& 0x3f).toInt64)), .second, .val (.double (FP.dmul (FP.i2d u0) (FP.l2d ((1 : Int64) <<< ((shE u2) &&& 0x3f).toInt64)))), .second, .val (.double (FP.i2d u1)), .second, .unset, .unset, .unset, .unset, .unset, .unset, .unset, .unset, .unset, .unset, .unset, .unset] [(.int u1), (.long ((u0.toInt64) * ((1 : Int64) <<< ((shE u2) &&& 0x3f).toInt64)))])) _
  refine XS.i2l X.here hx rfl (hb hby at_73) rfl ?_
  show Steps p.tables e below (T.setTop (mkF m 74 #[.val (.int u0), .val (.int u1), .val (.int u2), .val (.int (u2 &&& (3 : Int32))), .val (.int (shE u2)), .val (.int (1 : Int32)), .val (.long ((1 : Int64) <<< ((shE u2) &&& 0x3f).toInt64)), .second, .val (.double (FP.dmul (FP.i2d u0) (FP.l2d ((1 : Int64) <<< ((shE u2) &&& 0x3f).toInt64)))), .second, .val (.double (FP.i2d u1)), .second, .unset, .unset, .unset, .unset, .unset, .unset, .unset, .unset, .unset, .unset, .unset, .unset] [(.long (u1.toInt64)), (.long ((u0.toInt64) * ((1 : Int64) <<< ((shE u2) &&& 0x3f).toInt64)))])) _
  refine XS.ladd X.here hx rfl (hb hby at_74) rfl ?_
  show Steps p.tables e below (T.setTop (mkF m 75 #[.val (.int u0), .val (.int u1), .val (.int u2), .val (.int (u2 &&& (3 : Int32))), .val (.int (shE u2)), .val (.int (1 : Int32)), .val (.long ((1 : Int64) <<< ((shE u2) &&& 0x3f).toInt64)), .second, .val (.double (FP.dmul (FP.i2d u0) (FP.l2d ((1 : Int64) <<< ((shE u2) &&& 0x3f).toInt64)))), .second, .val (.double (FP.i2d u1)), .second, .unset, .unset, .unset, .unset, .unset, .unset, .unset, .unset, .unset, .unset, .unset, .unset] [(.long (((u0.toInt64) * ((1 : Int64) <<< ((shE u2) &&& 0x3f).toInt64)) + (u1.toInt64)))])) _
  refine XS.lstore X.here hx rfl (hb hby at_75) rfl (l' := #[.val (.int u0), .val (.int u1), .val (.int u2), .val (.int (u2 &&& (3 : Int32))), .val (.int (shE u2)), .val (.int (1 : Int32)), .val (.long ((1 : Int64) <<< ((shE u2) &&& 0x3f).toInt64)), .second, .val (.double (FP.dmul (FP.i2d u0) (FP.l2d ((1 : Int64) <<< ((shE u2) &&& 0x3f).toInt64)))), .second, .val (.double (FP.i2d u1)), .second, .val (.long (((u0.toInt64) * ((1 : Int64) <<< ((shE u2) &&& 0x3f).toInt64)) + (u1.toInt64))), .second, .unset, .unset, .unset, .unset, .unset, .unset, .unset, .unset, .unset, .unset]) rfl ?_
  exact hr
set_option maxRecDepth 65536 in
set_option maxHeartbeats 4000000 in
theorem sG {p : Program} {l : Launch} {e : Env} {R : Room} {s : State} {m : MethodId} {args : Array Value} {below : List Frame} {meth : Method} {c : Code} {T : State} {locs : List Loc} {cells slots : Nat} {Z : State} {a0 : Array Value} {target : State} {u0 u1 u2 : Int32} {sw : Int32} {r : UInt64} (X : Stand p l e R s m args below meth c T locs cells slots) (hx : p.tables.exec = Jvm.exec) (hZ : Z.Warmed39 s.vm) (hw : ∀ d ∈ tables_1, d.before a0 Z = true) (hby : c.code = code) (hown : s.vm.findClass "com/example/unsplit/unsplit/UpwardAddPinLaw" = some m.cls) (hc112 : (cmpValue (FP.dcmp (FP.l2d (FP.d2l r)) r) .l) = (0 : Int32)) (hc132 : ¬ ((lcmpW (FP.d2l (FP.l2d (((u0.toInt64) * ((1 : Int64) <<< ((shE u2) &&& 0x3f).toInt64)) + (u1.toInt64)))) (((u0.toInt64) * ((1 : Int64) <<< ((shE u2) &&& 0x3f).toInt64)) + (u1.toInt64))) < (0 : Int32))) (hc140 : (cmpValue (FP.dcmp r (FP.l2d (((u0.toInt64) * ((1 : Int64) <<< ((shE u2) &&& 0x3f).toInt64)) + (u1.toInt64)))) .l) = (0 : Int32))
    (hr : Steps p.tables e below (T.setTop (mkF m 148 #[.val (.int u0), .val (.int u1), .val (.int u2), .val (.int (u2 &&& (3 : Int32))), .val (.int (shE u2)), .val (.int sw), .val (.long ((1 : Int64) <<< ((shE u2) &&& 0x3f).toInt64)), .second, .val (.double (FP.dmul (FP.i2d u0) (FP.l2d ((1 : Int64) <<< ((shE u2) &&& 0x3f).toInt64)))), .second, .val (.double (FP.i2d u1)), .second, .val (.long (((u0.toInt64) * ((1 : Int64) <<< ((shE u2) &&& 0x3f).toInt64)) + (u1.toInt64))), .second, .val (.double r), .second, .val (.long (FP.d2l r)), .second, .val (.double (FP.l2d (((u0.toInt64) * ((1 : Int64) <<< ((shE u2) &&& 0x3f).toInt64)) + (u1.toInt64)))), .second, .val (.long (FP.d2l (FP.l2d (((u0.toInt64) * ((1 : Int64) <<< ((shE u2) &&& 0x3f).toInt64)) + (u1.toInt64))))), .second, .unset, .unset] [(.int (1 : Int32))])) target) : Steps p.tables e below (T.setTop (mkF m 99 #[.val (.int u0), .val (.int u1), .val (.int u2), .val (.int (u2 &&& (3 : Int32))), .val (.int (shE u2)), .val (.int sw), .val (.long ((1 : Int64) <<< ((shE u2) &&& 0x3f).toInt64)), .second, .val (.double (FP.dmul (FP.i2d u0) (FP.l2d ((1 : Int64) <<< ((shE u2) &&& 0x3f).toInt64)))), .second, .val (.double (FP.i2d u1)), .second, .val (.long (((u0.toInt64) * ((1 : Int64) <<< ((shE u2) &&& 0x3f).toInt64)) + (u1.toInt64))), .second, .unset, .unset, .unset, .unset, .unset, .unset, .unset, .unset, .unset, .unset] [(.double r)])) target := by
  show Steps p.tables e below (T.setTop (mkF m 99 #[.val (.int u0), .val (.int u1), .val (.int u2), .val (.int (u2 &&& (3 : Int32))), .val (.int (shE u2)), .val (.int sw), .val (.long ((1 : Int64) <<< ((shE u2) &&& 0x3f).toInt64)), .second, .val (.double (FP.dmul (FP.i2d u0) (FP.l2d ((1 : Int64) <<< ((shE u2) &&& 0x3f).toInt64)))), .second, .val (.double (FP.i2d u1)), .second, .val (.long (((u0.toInt64) * ((1 : Int64) <<< ((shE u2) &&& 0x3f).toInt64)) + (u1.toInt64))), .second, .unset, .unset, .unset, .unset, .unset, .unset, .unset, .unset, .unset, .unset] [(.double r)])) _
  refine XS.dstore X.here hx rfl (hb hby at_99) rfl (l' := #[.val (.int u0), .val (.int u1), .val (.int u2), .val (.int (u2 &&& (3 : Int32))), .val (.int (shE u2)), .val (.int sw), .val (.long ((1 : Int64) <<< ((shE u2) &&& 0x3f).toInt64)), .second, .val (.double (FP.dmul (FP.i2d u0) (FP.l2d ((1 : Int64) <<< ((shE u2) &&& 0x3f).toInt64)))), .second, .val (.double (FP.i2d u1)), .second, .val (.long (((u0.toInt64) * ((1 : Int64) <<< ((shE u2) &&& 0x3f).toInt64)) + (u1.toInt64))), .second, .val (.double r), .second, .unset, .unset, .unset, .unset, .unset, .unset, .unset, .unset]) rfl ?_
  show Steps p.tables e below (T.setTop (mkF m 101 #[.val (.int u0), .val (.int u1), .val (.int u2), .val (.int (u2 &&& (3 : Int32))), .val (.int (shE u2)), .val (.int sw), .val (.long ((1 : Int64) <<< ((shE u2) &&& 0x3f).toInt64)), .second, .val (.double (FP.dmul (FP.i2d u0) (FP.l2d ((1 : Int64) <<< ((shE u2) &&& 0x3f).toInt64)))), .second, .val (.double (FP.i2d u1)), .second, .val (.long (((u0.toInt64) * ((1 : Int64) <<< ((shE u2) &&& 0x3f).toInt64)) + (u1.toInt64))), .second, .val (.double r), .second, .unset, .unset, .unset, .unset, .unset, .unset, .unset, .unset] [])) _
  refine XS.dload X.here hx rfl (hb hby at_101) rfl ?_
  show Steps p.tables e below (T.setTop (mkF m 103 #[.val (.int u0), .val (.int u1), .val (.int u2), .val (.int (u2 &&& (3 : Int32))), .val (.int (shE u2)), .val (.int sw), .val (.long ((1 : Int64) <<< ((shE u2) &&& 0x3f).toInt64)), .second, .val (.double (FP.dmul (FP.i2d u0) (FP.l2d ((1 : Int64) <<< ((shE u2) &&& 0x3f).toInt64)))), .second, .val (.double (FP.i2d u1)), .second, .val (.long (((u0.toInt64) * ((1 : Int64) <<< ((shE u2) &&& 0x3f).toInt64)) + (u1.toInt64))), .second, .val (.double r), .second, .unset, .unset, .unset, .unset, .unset, .unset, .unset, .unset] [(.double r)])) _
  refine XS.d2lS X.here hx rfl (hb hby at_103) rfl (v := (FP.d2l r)) rfl ?_
  show Steps p.tables e below (T.setTop (mkF m 104 #[.val (.int u0), .val (.int u1), .val (.int u2), .val (.int (u2 &&& (3 : Int32))), .val (.int (shE u2)), .val (.int sw), .val (.long ((1 : Int64) <<< ((shE u2) &&& 0x3f).toInt64)), .second, .val (.double (FP.dmul (FP.i2d u0) (FP.l2d ((1 : Int64) <<< ((shE u2) &&& 0x3f).toInt64)))), .second, .val (.double (FP.i2d u1)), .second, .val (.long (((u0.toInt64) * ((1 : Int64) <<< ((shE u2) &&& 0x3f).toInt64)) + (u1.toInt64))), .second, .val (.double r), .second, .unset, .unset, .unset, .unset, .unset, .unset, .unset, .unset] [(.long (FP.d2l r))])) _
  refine XS.lstore X.here hx rfl (hb hby at_104) rfl (l' := #[.val (.int u0), .val (.int u1), .val (.int u2), .val (.int (u2 &&& (3 : Int32))), .val (.int (shE u2)), .val (.int sw), .val (.long ((1 : Int64) <<< ((shE u2) &&& 0x3f).toInt64)), .second, .val (.double (FP.dmul (FP.i2d u0) (FP.l2d ((1 : Int64) <<< ((shE u2) &&& 0x3f).toInt64)))), .second, .val (.double (FP.i2d u1)), .second, .val (.long (((u0.toInt64) * ((1 : Int64) <<< ((shE u2) &&& 0x3f).toInt64)) + (u1.toInt64))), .second, .val (.double r), .second, .val (.long (FP.d2l r)), .second, .unset, .unset, .unset, .unset, .unset, .unset]) rfl ?_
  show Steps p.tables e below (T.setTop (mkF m 106 #[.val (.int u0), .val (.int u1), .val (.int u2), .val (.int (u2 &&& (3 : Int32))), .val (.int (shE u2)), .val (.int sw), .val (.long ((1 : Int64) <<< ((shE u2) &&& 0x3f).toInt64)), .second, .val (.double (FP.dmul (FP.i2d u0) (FP.l2d ((1 : Int64) <<< ((shE u2) &&& 0x3f).toInt64)))), .second, .val (.double (FP.i2d u1)), .second, .val (.long (((u0.toInt64) * ((1 : Int64) <<< ((shE u2) &&& 0x3f).toInt64)) + (u1.toInt64))), .second, .val (.double r), .second, .val (.long (FP.d2l r)), .second, .unset, .unset, .unset, .unset, .unset, .unset] [])) _
  refine XS.lload X.here hx rfl (hb hby at_106) rfl ?_
  show Steps p.tables e below (T.setTop (mkF m 108 #[.val (.int u0), .val (.int u1), .val (.int u2), .val (.int (u2 &&& (3 : Int32))), .val (.int (shE u2)), .val (.int sw), .val (.long ((1 : Int64) <<< ((shE u2) &&& 0x3f).toInt64)), .second, .val (.double (FP.dmul (FP.i2d u0) (FP.l2d ((1 : Int64) <<< ((shE u2) &&& 0x3f).toInt64)))), .second, .val (.double (FP.i2d u1)), .second, .val (.long (((u0.toInt64) * ((1 : Int64) <<< ((shE u2) &&& 0x3f).toInt64)) + (u1.toInt64))), .second, .val (.double r), .second, .val (.long (FP.d2l r)), .second, .unset, .unset, .unset, .unset, .unset, .unset] [(.long (FP.d2l r))])) _
  refine XS.l2dS X.here hx rfl (hb hby at_108) rfl (v := (FP.l2d (FP.d2l r))) rfl ?_
  show Steps p.tables e below (T.setTop (mkF m 109 #[.val (.int u0), .val (.int u1), .val (.int u2), .val (.int (u2 &&& (3 : Int32))), .val (.int (shE u2)), .val (.int sw), .val (.long ((1 : Int64) <<< ((shE u2) &&& 0x3f).toInt64)), .second, .val (.double (FP.dmul (FP.i2d u0) (FP.l2d ((1 : Int64) <<< ((shE u2) &&& 0x3f).toInt64)))), .second, .val (.double (FP.i2d u1)), .second, .val (.long (((u0.toInt64) * ((1 : Int64) <<< ((shE u2) &&& 0x3f).toInt64)) + (u1.toInt64))), .second, .val (.double r), .second, .val (.long (FP.d2l r)), .second, .unset, .unset, .unset, .unset, .unset, .unset] [(.double (FP.l2d (FP.d2l r)))])) _
  refine XS.dload X.here hx rfl (hb hby at_109) rfl ?_
  show Steps p.tables e below (T.setTop (mkF m 111 #[.val (.int u0), .val (.int u1), .val (.int u2), .val (.int (u2 &&& (3 : Int32))), .val (.int (shE u2)), .val (.int sw), .val (.long ((1 : Int64) <<< ((shE u2) &&& 0x3f).toInt64)), .second, .val (.double (FP.dmul (FP.i2d u0) (FP.l2d ((1 : Int64) <<< ((shE u2) &&& 0x3f).toInt64)))), .second, .val (.double (FP.i2d u1)), .second, .val (.long (((u0.toInt64) * ((1 : Int64) <<< ((shE u2) &&& 0x3f).toInt64)) + (u1.toInt64))), .second, .val (.double r), .second, .val (.long (FP.d2l r)), .second, .unset, .unset, .unset, .unset, .unset, .unset] [(.double r), (.double (FP.l2d (FP.d2l r)))])) _
  refine XS.dcmpS X.here hx rfl (hb hby at_111) rfl (v := (cmpValue (FP.dcmp (FP.l2d (FP.d2l r)) r) .l)) rfl ?_
  show Steps p.tables e below (T.setTop (mkF m 112 #[.val (.int u0), .val (.int u1), .val (.int u2), .val (.int (u2 &&& (3 : Int32))), .val (.int (shE u2)), .val (.int sw), .val (.long ((1 : Int64) <<< ((shE u2) &&& 0x3f).toInt64)), .second, .val (.double (FP.dmul (FP.i2d u0) (FP.l2d ((1 : Int64) <<< ((shE u2) &&& 0x3f).toInt64)))), .second, .val (.double (FP.i2d u1)), .second, .val (.long (((u0.toInt64) * ((1 : Int64) <<< ((shE u2) &&& 0x3f).toInt64)) + (u1.toInt64))), .second, .val (.double r), .second, .val (.long (FP.d2l r)), .second, .unset, .unset, .unset, .unset, .unset, .unset] [(.int (cmpValue (FP.dcmp (FP.l2d (FP.d2l r)) r) .l))])) _
  refine XS.ifYes X.here hx rfl (pc0 := 112) (pc' := 117) rfl (hb hby at_112) rfl ((if0 _ _).trans (teq hc112).1) (by decide) (by decide) ?_
  show Steps p.tables e below (T.setTop (mkF m 117 #[.val (.int u0), .val (.int u1), .val (.int u2), .val (.int (u2 &&& (3 : Int32))), .val (.int (shE u2)), .val (.int sw), .val (.long ((1 : Int64) <<< ((shE u2) &&& 0x3f).toInt64)), .second, .val (.double (FP.dmul (FP.i2d u0) (FP.l2d ((1 : Int64) <<< ((shE u2) &&& 0x3f).toInt64)))), .second, .val (.double (FP.i2d u1)), .second, .val (.long (((u0.toInt64) * ((1 : Int64) <<< ((shE u2) &&& 0x3f).toInt64)) + (u1.toInt64))), .second, .val (.double r), .second, .val (.long (FP.d2l r)), .second, .unset, .unset, .unset, .unset, .unset, .unset] [])) _
  refine XS.lload X.here hx rfl (hb hby at_117) rfl ?_
  show Steps p.tables e below (T.setTop (mkF m 119 #[.val (.int u0), .val (.int u1), .val (.int u2), .val (.int (u2 &&& (3 : Int32))), .val (.int (shE u2)), .val (.int sw), .val (.long ((1 : Int64) <<< ((shE u2) &&& 0x3f).toInt64)), .second, .val (.double (FP.dmul (FP.i2d u0) (FP.l2d ((1 : Int64) <<< ((shE u2) &&& 0x3f).toInt64)))), .second, .val (.double (FP.i2d u1)), .second, .val (.long (((u0.toInt64) * ((1 : Int64) <<< ((shE u2) &&& 0x3f).toInt64)) + (u1.toInt64))), .second, .val (.double r), .second, .val (.long (FP.d2l r)), .second, .unset, .unset, .unset, .unset, .unset, .unset] [(.long (((u0.toInt64) * ((1 : Int64) <<< ((shE u2) &&& 0x3f).toInt64)) + (u1.toInt64)))])) _
  refine XS.l2dS X.here hx rfl (hb hby at_119) rfl (v := (FP.l2d (((u0.toInt64) * ((1 : Int64) <<< ((shE u2) &&& 0x3f).toInt64)) + (u1.toInt64)))) rfl ?_
  show Steps p.tables e below (T.setTop (mkF m 120 #[.val (.int u0), .val (.int u1), .val (.int u2), .val (.int (u2 &&& (3 : Int32))), .val (.int (shE u2)), .val (.int sw), .val (.long ((1 : Int64) <<< ((shE u2) &&& 0x3f).toInt64)), .second, .val (.double (FP.dmul (FP.i2d u0) (FP.l2d ((1 : Int64) <<< ((shE u2) &&& 0x3f).toInt64)))), .second, .val (.double (FP.i2d u1)), .second, .val (.long (((u0.toInt64) * ((1 : Int64) <<< ((shE u2) &&& 0x3f).toInt64)) + (u1.toInt64))), .second, .val (.double r), .second, .val (.long (FP.d2l r)), .second, .unset, .unset, .unset, .unset, .unset, .unset] [(.double (FP.l2d (((u0.toInt64) * ((1 : Int64) <<< ((shE u2) &&& 0x3f).toInt64)) + (u1.toInt64))))])) _
  refine XS.dstore X.here hx rfl (hb hby at_120) rfl (l' := #[.val (.int u0), .val (.int u1), .val (.int u2), .val (.int (u2 &&& (3 : Int32))), .val (.int (shE u2)), .val (.int sw), .val (.long ((1 : Int64) <<< ((shE u2) &&& 0x3f).toInt64)), .second, .val (.double (FP.dmul (FP.i2d u0) (FP.l2d ((1 : Int64) <<< ((shE u2) &&& 0x3f).toInt64)))), .second, .val (.double (FP.i2d u1)), .second, .val (.long (((u0.toInt64) * ((1 : Int64) <<< ((shE u2) &&& 0x3f).toInt64)) + (u1.toInt64))), .second, .val (.double r), .second, .val (.long (FP.d2l r)), .second, .val (.double (FP.l2d (((u0.toInt64) * ((1 : Int64) <<< ((shE u2) &&& 0x3f).toInt64)) + (u1.toInt64)))), .second, .unset, .unset, .unset, .unset]) rfl ?_
  show Steps p.tables e below (T.setTop (mkF m 122 #[.val (.int u0), .val (.int u1), .val (.int u2), .val (.int (u2 &&& (3 : Int32))), .val (.int (shE u2)), .val (.int sw), .val (.long ((1 : Int64) <<< ((shE u2) &&& 0x3f).toInt64)), .second, .val (.double (FP.dmul (FP.i2d u0) (FP.l2d ((1 : Int64) <<< ((shE u2) &&& 0x3f).toInt64)))), .second, .val (.double (FP.i2d u1)), .second, .val (.long (((u0.toInt64) * ((1 : Int64) <<< ((shE u2) &&& 0x3f).toInt64)) + (u1.toInt64))), .second, .val (.double r), .second, .val (.long (FP.d2l r)), .second, .val (.double (FP.l2d (((u0.toInt64) * ((1 : Int64) <<< ((shE u2) &&& 0x3f).toInt64)) + (u1.toInt64)))), .second, .unset, .unset, .unset, .unset] [])) _
  refine XS.dload X.here hx rfl (hb hby at_122) rfl ?_
  show Steps p.tables e below (T.setTop (mkF m 124 #[.val (.int u0), .val (.int u1), .val (.int u2), .val (.int (u2 &&& (3 : Int32))), .val (.int (shE u2)), .val (.int sw), .val (.long ((1 : Int64) <<< ((shE u2) &&& 0x3f).toInt64)), .second, .val (.double (FP.dmul (FP.i2d u0) (FP.l2d ((1 : Int64) <<< ((shE u2) &&& 0x3f).toInt64)))), .second, .val (.double (FP.i2d u1)), .second, .val (.long (((u0.toInt64) * ((1 : Int64) <<< ((shE u2) &&& 0x3f).toInt64)) + (u1.toInt64))), .second, .val (.double r), .second, .val (.long (FP.d2l r)), .second, .val (.double (FP.l2d (((u0.toInt64) * ((1 : Int64) <<< ((shE u2) &&& 0x3f).toInt64)) + (u1.toInt64)))), .second, .unset, .unset, .unset, .unset] [(.double (FP.l2d (((u0.toInt64) * ((1 : Int64) <<< ((shE u2) &&& 0x3f).toInt64)) + (u1.toInt64))))])) _
  refine XS.d2lS X.here hx rfl (hb hby at_124) rfl (v := (FP.d2l (FP.l2d (((u0.toInt64) * ((1 : Int64) <<< ((shE u2) &&& 0x3f).toInt64)) + (u1.toInt64))))) rfl ?_
  show Steps p.tables e below (T.setTop (mkF m 125 #[.val (.int u0), .val (.int u1), .val (.int u2), .val (.int (u2 &&& (3 : Int32))), .val (.int (shE u2)), .val (.int sw), .val (.long ((1 : Int64) <<< ((shE u2) &&& 0x3f).toInt64)), .second, .val (.double (FP.dmul (FP.i2d u0) (FP.l2d ((1 : Int64) <<< ((shE u2) &&& 0x3f).toInt64)))), .second, .val (.double (FP.i2d u1)), .second, .val (.long (((u0.toInt64) * ((1 : Int64) <<< ((shE u2) &&& 0x3f).toInt64)) + (u1.toInt64))), .second, .val (.double r), .second, .val (.long (FP.d2l r)), .second, .val (.double (FP.l2d (((u0.toInt64) * ((1 : Int64) <<< ((shE u2) &&& 0x3f).toInt64)) + (u1.toInt64)))), .second, .unset, .unset, .unset, .unset] [(.long (FP.d2l (FP.l2d (((u0.toInt64) * ((1 : Int64) <<< ((shE u2) &&& 0x3f).toInt64)) + (u1.toInt64)))))])) _
  refine XS.lstore X.here hx rfl (hb hby at_125) rfl (l' := #[.val (.int u0), .val (.int u1), .val (.int u2), .val (.int (u2 &&& (3 : Int32))), .val (.int (shE u2)), .val (.int sw), .val (.long ((1 : Int64) <<< ((shE u2) &&& 0x3f).toInt64)), .second, .val (.double (FP.dmul (FP.i2d u0) (FP.l2d ((1 : Int64) <<< ((shE u2) &&& 0x3f).toInt64)))), .second, .val (.double (FP.i2d u1)), .second, .val (.long (((u0.toInt64) * ((1 : Int64) <<< ((shE u2) &&& 0x3f).toInt64)) + (u1.toInt64))), .second, .val (.double r), .second, .val (.long (FP.d2l r)), .second, .val (.double (FP.l2d (((u0.toInt64) * ((1 : Int64) <<< ((shE u2) &&& 0x3f).toInt64)) + (u1.toInt64)))), .second, .val (.long (FP.d2l (FP.l2d (((u0.toInt64) * ((1 : Int64) <<< ((shE u2) &&& 0x3f).toInt64)) + (u1.toInt64))))), .second, .unset, .unset]) rfl ?_
  show Steps p.tables e below (T.setTop (mkF m 127 #[.val (.int u0), .val (.int u1), .val (.int u2), .val (.int (u2 &&& (3 : Int32))), .val (.int (shE u2)), .val (.int sw), .val (.long ((1 : Int64) <<< ((shE u2) &&& 0x3f).toInt64)), .second, .val (.double (FP.dmul (FP.i2d u0) (FP.l2d ((1 : Int64) <<< ((shE u2) &&& 0x3f).toInt64)))), .second, .val (.double (FP.i2d u1)), .second, .val (.long (((u0.toInt64) * ((1 : Int64) <<< ((shE u2) &&& 0x3f).toInt64)) + (u1.toInt64))), .second, .val (.double r), .second, .val (.long (FP.d2l r)), .second, .val (.double (FP.l2d (((u0.toInt64) * ((1 : Int64) <<< ((shE u2) &&& 0x3f).toInt64)) + (u1.toInt64)))), .second, .val (.long (FP.d2l (FP.l2d (((u0.toInt64) * ((1 : Int64) <<< ((shE u2) &&& 0x3f).toInt64)) + (u1.toInt64))))), .second, .unset, .unset] [])) _
  refine XS.lload X.here hx rfl (hb hby at_127) rfl ?_
  show Steps p.tables e below (T.setTop (mkF m 129 #[.val (.int u0), .val (.int u1), .val (.int u2), .val (.int (u2 &&& (3 : Int32))), .val (.int (shE u2)), .val (.int sw), .val (.long ((1 : Int64) <<< ((shE u2) &&& 0x3f).toInt64)), .second, .val (.double (FP.dmul (FP.i2d u0) (FP.l2d ((1 : Int64) <<< ((shE u2) &&& 0x3f).toInt64)))), .second, .val (.double (FP.i2d u1)), .second, .val (.long (((u0.toInt64) * ((1 : Int64) <<< ((shE u2) &&& 0x3f).toInt64)) + (u1.toInt64))), .second, .val (.double r), .second, .val (.long (FP.d2l r)), .second, .val (.double (FP.l2d (((u0.toInt64) * ((1 : Int64) <<< ((shE u2) &&& 0x3f).toInt64)) + (u1.toInt64)))), .second, .val (.long (FP.d2l (FP.l2d (((u0.toInt64) * ((1 : Int64) <<< ((shE u2) &&& 0x3f).toInt64)) + (u1.toInt64))))), .second, .unset, .unset] [(.long (FP.d2l (FP.l2d (((u0.toInt64) * ((1 : Int64) <<< ((shE u2) &&& 0x3f).toInt64)) + (u1.toInt64)))))])) _
  refine XS.lload X.here hx rfl (hb hby at_129) rfl ?_
  show Steps p.tables e below (T.setTop (mkF m 131 #[.val (.int u0), .val (.int u1), .val (.int u2), .val (.int (u2 &&& (3 : Int32))), .val (.int (shE u2)), .val (.int sw), .val (.long ((1 : Int64) <<< ((shE u2) &&& 0x3f).toInt64)), .second, .val (.double (FP.dmul (FP.i2d u0) (FP.l2d ((1 : Int64) <<< ((shE u2) &&& 0x3f).toInt64)))), .second, .val (.double (FP.i2d u1)), .second, .val (.long (((u0.toInt64) * ((1 : Int64) <<< ((shE u2) &&& 0x3f).toInt64)) + (u1.toInt64))), .second, .val (.double r), .second, .val (.long (FP.d2l r)), .second, .val (.double (FP.l2d (((u0.toInt64) * ((1 : Int64) <<< ((shE u2) &&& 0x3f).toInt64)) + (u1.toInt64)))), .second, .val (.long (FP.d2l (FP.l2d (((u0.toInt64) * ((1 : Int64) <<< ((shE u2) &&& 0x3f).toInt64)) + (u1.toInt64))))), .second, .unset, .unset] [(.long (((u0.toInt64) * ((1 : Int64) <<< ((shE u2) &&& 0x3f).toInt64)) + (u1.toInt64))), (.long (FP.d2l (FP.l2d (((u0.toInt64) * ((1 : Int64) <<< ((shE u2) &&& 0x3f).toInt64)) + (u1.toInt64)))))])) _
  refine XS.lcmp X.here hx rfl (hb hby at_131) rfl ?_
  show Steps p.tables e below (T.setTop (mkF m 132 #[.val (.int u0), .val (.int u1), .val (.int u2), .val (.int (u2 &&& (3 : Int32))), .val (.int (shE u2)), .val (.int sw), .val (.long ((1 : Int64) <<< ((shE u2) &&& 0x3f).toInt64)), .second, .val (.double (FP.dmul (FP.i2d u0) (FP.l2d ((1 : Int64) <<< ((shE u2) &&& 0x3f).toInt64)))), .second, .val (.double (FP.i2d u1)), .second, .val (.long (((u0.toInt64) * ((1 : Int64) <<< ((shE u2) &&& 0x3f).toInt64)) + (u1.toInt64))), .second, .val (.double r), .second, .val (.long (FP.d2l r)), .second, .val (.double (FP.l2d (((u0.toInt64) * ((1 : Int64) <<< ((shE u2) &&& 0x3f).toInt64)) + (u1.toInt64)))), .second, .val (.long (FP.d2l (FP.l2d (((u0.toInt64) * ((1 : Int64) <<< ((shE u2) &&& 0x3f).toInt64)) + (u1.toInt64))))), .second, .unset, .unset] [(.int (lcmpW (FP.d2l (FP.l2d (((u0.toInt64) * ((1 : Int64) <<< ((shE u2) &&& 0x3f).toInt64)) + (u1.toInt64)))) (((u0.toInt64) * ((1 : Int64) <<< ((shE u2) &&& 0x3f).toInt64)) + (u1.toInt64))))])) _
  refine XS.ifNo X.here hx rfl (hb hby at_132) rfl ((if0 _ _).trans (flt hc132).1) ?_
  show Steps p.tables e below (T.setTop (mkF m 135 #[.val (.int u0), .val (.int u1), .val (.int u2), .val (.int (u2 &&& (3 : Int32))), .val (.int (shE u2)), .val (.int sw), .val (.long ((1 : Int64) <<< ((shE u2) &&& 0x3f).toInt64)), .second, .val (.double (FP.dmul (FP.i2d u0) (FP.l2d ((1 : Int64) <<< ((shE u2) &&& 0x3f).toInt64)))), .second, .val (.double (FP.i2d u1)), .second, .val (.long (((u0.toInt64) * ((1 : Int64) <<< ((shE u2) &&& 0x3f).toInt64)) + (u1.toInt64))), .second, .val (.double r), .second, .val (.long (FP.d2l r)), .second, .val (.double (FP.l2d (((u0.toInt64) * ((1 : Int64) <<< ((shE u2) &&& 0x3f).toInt64)) + (u1.toInt64)))), .second, .val (.long (FP.d2l (FP.l2d (((u0.toInt64) * ((1 : Int64) <<< ((shE u2) &&& 0x3f).toInt64)) + (u1.toInt64))))), .second, .unset, .unset] [])) _
  refine XS.dload X.here hx rfl (hb hby at_135) rfl ?_
  show Steps p.tables e below (T.setTop (mkF m 137 #[.val (.int u0), .val (.int u1), .val (.int u2), .val (.int (u2 &&& (3 : Int32))), .val (.int (shE u2)), .val (.int sw), .val (.long ((1 : Int64) <<< ((shE u2) &&& 0x3f).toInt64)), .second, .val (.double (FP.dmul (FP.i2d u0) (FP.l2d ((1 : Int64) <<< ((shE u2) &&& 0x3f).toInt64)))), .second, .val (.double (FP.i2d u1)), .second, .val (.long (((u0.toInt64) * ((1 : Int64) <<< ((shE u2) &&& 0x3f).toInt64)) + (u1.toInt64))), .second, .val (.double r), .second, .val (.long (FP.d2l r)), .second, .val (.double (FP.l2d (((u0.toInt64) * ((1 : Int64) <<< ((shE u2) &&& 0x3f).toInt64)) + (u1.toInt64)))), .second, .val (.long (FP.d2l (FP.l2d (((u0.toInt64) * ((1 : Int64) <<< ((shE u2) &&& 0x3f).toInt64)) + (u1.toInt64))))), .second, .unset, .unset] [(.double r)])) _
  refine XS.dload X.here hx rfl (hb hby at_137) rfl ?_
  show Steps p.tables e below (T.setTop (mkF m 139 #[.val (.int u0), .val (.int u1), .val (.int u2), .val (.int (u2 &&& (3 : Int32))), .val (.int (shE u2)), .val (.int sw), .val (.long ((1 : Int64) <<< ((shE u2) &&& 0x3f).toInt64)), .second, .val (.double (FP.dmul (FP.i2d u0) (FP.l2d ((1 : Int64) <<< ((shE u2) &&& 0x3f).toInt64)))), .second, .val (.double (FP.i2d u1)), .second, .val (.long (((u0.toInt64) * ((1 : Int64) <<< ((shE u2) &&& 0x3f).toInt64)) + (u1.toInt64))), .second, .val (.double r), .second, .val (.long (FP.d2l r)), .second, .val (.double (FP.l2d (((u0.toInt64) * ((1 : Int64) <<< ((shE u2) &&& 0x3f).toInt64)) + (u1.toInt64)))), .second, .val (.long (FP.d2l (FP.l2d (((u0.toInt64) * ((1 : Int64) <<< ((shE u2) &&& 0x3f).toInt64)) + (u1.toInt64))))), .second, .unset, .unset] [(.double (FP.l2d (((u0.toInt64) * ((1 : Int64) <<< ((shE u2) &&& 0x3f).toInt64)) + (u1.toInt64)))), (.double r)])) _
  refine XS.dcmpS X.here hx rfl (hb hby at_139) rfl (v := (cmpValue (FP.dcmp r (FP.l2d (((u0.toInt64) * ((1 : Int64) <<< ((shE u2) &&& 0x3f).toInt64)) + (u1.toInt64)))) .l)) rfl ?_
  show Steps p.tables e below (T.setTop (mkF m 140 #[.val (.int u0), .val (.int u1), .val (.int u2), .val (.int (u2 &&& (3 : Int32))), .val (.int (shE u2)), .val (.int sw), .val (.long ((1 : Int64) <<< ((shE u2) &&& 0x3f).toInt64)), .second, .val (.double (FP.dmul (FP.i2d u0) (FP.l2d ((1 : Int64) <<< ((shE u2) &&& 0x3f).toInt64)))), .second, .val (.double (FP.i2d u1)), .second, .val (.long (((u0.toInt64) * ((1 : Int64) <<< ((shE u2) &&& 0x3f).toInt64)) + (u1.toInt64))), .second, .val (.double r), .second, .val (.long (FP.d2l r)), .second, .val (.double (FP.l2d (((u0.toInt64) * ((1 : Int64) <<< ((shE u2) &&& 0x3f).toInt64)) + (u1.toInt64)))), .second, .val (.long (FP.d2l (FP.l2d (((u0.toInt64) * ((1 : Int64) <<< ((shE u2) &&& 0x3f).toInt64)) + (u1.toInt64))))), .second, .unset, .unset] [(.int (cmpValue (FP.dcmp r (FP.l2d (((u0.toInt64) * ((1 : Int64) <<< ((shE u2) &&& 0x3f).toInt64)) + (u1.toInt64)))) .l))])) _
  refine XS.ifNo X.here hx rfl (hb hby at_140) rfl ((if0 _ _).trans (teq hc140).2) ?_
  show Steps p.tables e below (T.setTop (mkF m 143 #[.val (.int u0), .val (.int u1), .val (.int u2), .val (.int (u2 &&& (3 : Int32))), .val (.int (shE u2)), .val (.int sw), .val (.long ((1 : Int64) <<< ((shE u2) &&& 0x3f).toInt64)), .second, .val (.double (FP.dmul (FP.i2d u0) (FP.l2d ((1 : Int64) <<< ((shE u2) &&& 0x3f).toInt64)))), .second, .val (.double (FP.i2d u1)), .second, .val (.long (((u0.toInt64) * ((1 : Int64) <<< ((shE u2) &&& 0x3f).toInt64)) + (u1.toInt64))), .second, .val (.double r), .second, .val (.long (FP.d2l r)), .second, .val (.double (FP.l2d (((u0.toInt64) * ((1 : Int64) <<< ((shE u2) &&& 0x3f).toInt64)) + (u1.toInt64)))), .second, .val (.long (FP.d2l (FP.l2d (((u0.toInt64) * ((1 : Int64) <<< ((shE u2) &&& 0x3f).toInt64)) + (u1.toInt64))))), .second, .unset, .unset] [])) _
  refine XS.iconst X.here hx rfl (hb hby at_143) ?_
  show Steps p.tables e below (T.setTop (mkF m 144 #[.val (.int u0), .val (.int u1), .val (.int u2), .val (.int (u2 &&& (3 : Int32))), .val (.int (shE u2)), .val (.int sw), .val (.long ((1 : Int64) <<< ((shE u2) &&& 0x3f).toInt64)), .second, .val (.double (FP.dmul (FP.i2d u0) (FP.l2d ((1 : Int64) <<< ((shE u2) &&& 0x3f).toInt64)))), .second, .val (.double (FP.i2d u1)), .second, .val (.long (((u0.toInt64) * ((1 : Int64) <<< ((shE u2) &&& 0x3f).toInt64)) + (u1.toInt64))), .second, .val (.double r), .second, .val (.long (FP.d2l r)), .second, .val (.double (FP.l2d (((u0.toInt64) * ((1 : Int64) <<< ((shE u2) &&& 0x3f).toInt64)) + (u1.toInt64)))), .second, .val (.long (FP.d2l (FP.l2d (((u0.toInt64) * ((1 : Int64) <<< ((shE u2) &&& 0x3f).toInt64)) + (u1.toInt64))))), .second, .unset, .unset] [(.int (1 : Int32))])) _
  refine XS.goto X.here hx rfl (pc0 := 144) (pc' := 148) rfl (hb hby at_144) (by decide) (by decide) ?_
  exact hr
set_option maxRecDepth 65536 in
set_option maxHeartbeats 4000000 in
theorem sL {p : Program} {l : Launch} {e : Env} {R : Room} {s : State} {m : MethodId} {args : Array Value} {below : List Frame} {meth : Method} {c : Code} {T : State} {locs : List Loc} {cells slots : Nat} {Z : State} {a0 : Array Value} {target : State} {u0 u1 u2 : Int32} {sw : Int32} {r : UInt64} (X : Stand p l e R s m args below meth c T locs cells slots) (hx : p.tables.exec = Jvm.exec) (hZ : Z.Warmed39 s.vm) (hw : ∀ d ∈ tables_1, d.before a0 Z = true) (hby : c.code = code) (hown : s.vm.findClass "com/example/unsplit/unsplit/UpwardAddPinLaw" = some m.cls) (hc112 : (cmpValue (FP.dcmp (FP.l2d (FP.d2l r)) r) .l) = (0 : Int32)) (hc132 : (lcmpW (FP.d2l (FP.l2d (((u0.toInt64) * ((1 : Int64) <<< ((shE u2) &&& 0x3f).toInt64)) + (u1.toInt64)))) (((u0.toInt64) * ((1 : Int64) <<< ((shE u2) &&& 0x3f).toInt64)) + (u1.toInt64))) < (0 : Int32)) (hc154 : (0 : Int32) < (lcmpW (FP.d2l r) (((u0.toInt64) * ((1 : Int64) <<< ((shE u2) &&& 0x3f).toInt64)) + (u1.toInt64)))) (hc176 : (cmpValue (FP.dcmp (FP.l2d (((FP.d2l (FP.l2d (((u0.toInt64) * ((1 : Int64) <<< ((shE u2) &&& 0x3f).toInt64)) + (u1.toInt64)))) + (FP.d2l r)) / (2 : Int64))) (FP.l2d (((u0.toInt64) * ((1 : Int64) <<< ((shE u2) &&& 0x3f).toInt64)) + (u1.toInt64)))) .l) = (0 : Int32))
    (hr : Steps p.tables e below (T.setTop (mkF m 192 #[.val (.int u0), .val (.int u1), .val (.int u2), .val (.int (u2 &&& (3 : Int32))), .val (.int (shE u2)), .val (.int sw), .val (.long ((1 : Int64) <<< ((shE u2) &&& 0x3f).toInt64)), .second, .val (.double (FP.dmul (FP.i2d u0) (FP.l2d ((1 : Int64) <<< ((shE u2) &&& 0x3f).toInt64)))), .second, .val (.double (FP.i2d u1)), .second, .val (.long (((u0.toInt64) * ((1 : Int64) <<< ((shE u2) &&& 0x3f).toInt64)) + (u1.toInt64))), .second, .val (.double r), .second, .val (.long (FP.d2l r)), .second, .val (.double (FP.l2d (((u0.toInt64) * ((1 : Int64) <<< ((shE u2) &&& 0x3f).toInt64)) + (u1.toInt64)))), .second, .val (.long (FP.d2l (FP.l2d (((u0.toInt64) * ((1 : Int64) <<< ((shE u2) &&& 0x3f).toInt64)) + (u1.toInt64))))), .second, .val (.double (FP.l2d (((FP.d2l (FP.l2d (((u0.toInt64) * ((1 : Int64) <<< ((shE u2) &&& 0x3f).toInt64)) + (u1.toInt64)))) + (FP.d2l r)) / (2 : Int64)))), .second] [(.int (1 : Int32))])) target) : Steps p.tables e below (T.setTop (mkF m 99 #[.val (.int u0), .val (.int u1), .val (.int u2), .val (.int (u2 &&& (3 : Int32))), .val (.int (shE u2)), .val (.int sw), .val (.long ((1 : Int64) <<< ((shE u2) &&& 0x3f).toInt64)), .second, .val (.double (FP.dmul (FP.i2d u0) (FP.l2d ((1 : Int64) <<< ((shE u2) &&& 0x3f).toInt64)))), .second, .val (.double (FP.i2d u1)), .second, .val (.long (((u0.toInt64) * ((1 : Int64) <<< ((shE u2) &&& 0x3f).toInt64)) + (u1.toInt64))), .second, .unset, .unset, .unset, .unset, .unset, .unset, .unset, .unset, .unset, .unset] [(.double r)])) target := by
  show Steps p.tables e below (T.setTop (mkF m 99 #[.val (.int u0), .val (.int u1), .val (.int u2), .val (.int (u2 &&& (3 : Int32))), .val (.int (shE u2)), .val (.int sw), .val (.long ((1 : Int64) <<< ((shE u2) &&& 0x3f).toInt64)), .second, .val (.double (FP.dmul (FP.i2d u0) (FP.l2d ((1 : Int64) <<< ((shE u2) &&& 0x3f).toInt64)))), .second, .val (.double (FP.i2d u1)), .second, .val (.long (((u0.toInt64) * ((1 : Int64) <<< ((shE u2) &&& 0x3f).toInt64)) + (u1.toInt64))), .second, .unset, .unset, .unset, .unset, .unset, .unset, .unset, .unset, .unset, .unset] [(.double r)])) _
  refine XS.dstore X.here hx rfl (hb hby at_99) rfl (l' := #[.val (.int u0), .val (.int u1), .val (.int u2), .val (.int (u2 &&& (3 : Int32))), .val (.int (shE u2)), .val (.int sw), .val (.long ((1 : Int64) <<< ((shE u2) &&& 0x3f).toInt64)), .second, .val (.double (FP.dmul (FP.i2d u0) (FP.l2d ((1 : Int64) <<< ((shE u2) &&& 0x3f).toInt64)))), .second, .val (.double (FP.i2d u1)), .second, .val (.long (((u0.toInt64) * ((1 : Int64) <<< ((shE u2) &&& 0x3f).toInt64)) + (u1.toInt64))), .second, .val (.double r), .second, .unset, .unset, .unset, .unset, .unset, .unset, .unset, .unset]) rfl ?_
  show Steps p.tables e below (T.setTop (mkF m 101 #[.val (.int u0), .val (.int u1), .val (.int u2), .val (.int (u2 &&& (3 : Int32))), .val (.int (shE u2)), .val (.int sw), .val (.long ((1 : Int64) <<< ((shE u2) &&& 0x3f).toInt64)), .second, .val (.double (FP.dmul (FP.i2d u0) (FP.l2d ((1 : Int64) <<< ((shE u2) &&& 0x3f).toInt64)))), .second, .val (.double (FP.i2d u1)), .second, .val (.long (((u0.toInt64) * ((1 : Int64) <<< ((shE u2) &&& 0x3f).toInt64)) + (u1.toInt64))), .second, .val (.double r), .second, .unset, .unset, .unset, .unset, .unset, .unset, .unset, .unset] [])) _
  refine XS.dload X.here hx rfl (hb hby at_101) rfl ?_
  show Steps p.tables e below (T.setTop (mkF m 103 #[.val (.int u0), .val (.int u1), .val (.int u2), .val (.int (u2 &&& (3 : Int32))), .val (.int (shE u2)), .val (.int sw), .val (.long ((1 : Int64) <<< ((shE u2) &&& 0x3f).toInt64)), .second, .val (.double (FP.dmul (FP.i2d u0) (FP.l2d ((1 : Int64) <<< ((shE u2) &&& 0x3f).toInt64)))), .second, .val (.double (FP.i2d u1)), .second, .val (.long (((u0.toInt64) * ((1 : Int64) <<< ((shE u2) &&& 0x3f).toInt64)) + (u1.toInt64))), .second, .val (.double r), .second, .unset, .unset, .unset, .unset, .unset, .unset, .unset, .unset] [(.double r)])) _
  refine XS.d2lS X.here hx rfl (hb hby at_103) rfl (v := (FP.d2l r)) rfl ?_
  show Steps p.tables e below (T.setTop (mkF m 104 #[.val (.int u0), .val (.int u1), .val (.int u2), .val (.int (u2 &&& (3 : Int32))), .val (.int (shE u2)), .val (.int sw), .val (.long ((1 : Int64) <<< ((shE u2) &&& 0x3f).toInt64)), .second, .val (.double (FP.dmul (FP.i2d u0) (FP.l2d ((1 : Int64) <<< ((shE u2) &&& 0x3f).toInt64)))), .second, .val (.double (FP.i2d u1)), .second, .val (.long (((u0.toInt64) * ((1 : Int64) <<< ((shE u2) &&& 0x3f).toInt64)) + (u1.toInt64))), .second, .val (.double r), .second, .unset, .unset, .unset, .unset, .unset, .unset, .unset, .unset] [(.long (FP.d2l r))])) _
  refine XS.lstore X.here hx rfl (hb hby at_104) rfl (l' := #[.val (.int u0), .val (.int u1), .val (.int u2), .val (.int (u2 &&& (3 : Int32))), .val (.int (shE u2)), .val (.int sw), .val (.long ((1 : Int64) <<< ((shE u2) &&& 0x3f).toInt64)), .second, .val (.double (FP.dmul (FP.i2d u0) (FP.l2d ((1 : Int64) <<< ((shE u2) &&& 0x3f).toInt64)))), .second, .val (.double (FP.i2d u1)), .second, .val (.long (((u0.toInt64) * ((1 : Int64) <<< ((shE u2) &&& 0x3f).toInt64)) + (u1.toInt64))), .second, .val (.double r), .second, .val (.long (FP.d2l r)), .second, .unset, .unset, .unset, .unset, .unset, .unset]) rfl ?_
  show Steps p.tables e below (T.setTop (mkF m 106 #[.val (.int u0), .val (.int u1), .val (.int u2), .val (.int (u2 &&& (3 : Int32))), .val (.int (shE u2)), .val (.int sw), .val (.long ((1 : Int64) <<< ((shE u2) &&& 0x3f).toInt64)), .second, .val (.double (FP.dmul (FP.i2d u0) (FP.l2d ((1 : Int64) <<< ((shE u2) &&& 0x3f).toInt64)))), .second, .val (.double (FP.i2d u1)), .second, .val (.long (((u0.toInt64) * ((1 : Int64) <<< ((shE u2) &&& 0x3f).toInt64)) + (u1.toInt64))), .second, .val (.double r), .second, .val (.long (FP.d2l r)), .second, .unset, .unset, .unset, .unset, .unset, .unset] [])) _
  refine XS.lload X.here hx rfl (hb hby at_106) rfl ?_
  show Steps p.tables e below (T.setTop (mkF m 108 #[.val (.int u0), .val (.int u1), .val (.int u2), .val (.int (u2 &&& (3 : Int32))), .val (.int (shE u2)), .val (.int sw), .val (.long ((1 : Int64) <<< ((shE u2) &&& 0x3f).toInt64)), .second, .val (.double (FP.dmul (FP.i2d u0) (FP.l2d ((1 : Int64) <<< ((shE u2) &&& 0x3f).toInt64)))), .second, .val (.double (FP.i2d u1)), .second, .val (.long (((u0.toInt64) * ((1 : Int64) <<< ((shE u2) &&& 0x3f).toInt64)) + (u1.toInt64))), .second, .val (.double r), .second, .val (.long (FP.d2l r)), .second, .unset, .unset, .unset, .unset, .unset, .unset] [(.long (FP.d2l r))])) _
  refine XS.l2dS X.here hx rfl (hb hby at_108) rfl (v := (FP.l2d (FP.d2l r))) rfl ?_
  show Steps p.tables e below (T.setTop (mkF m 109 #[.val (.int u0), .val (.int u1), .val (.int u2), .val (.int (u2 &&& (3 : Int32))), .val (.int (shE u2)), .val (.int sw), .val (.long ((1 : Int64) <<< ((shE u2) &&& 0x3f).toInt64)), .second, .val (.double (FP.dmul (FP.i2d u0) (FP.l2d ((1 : Int64) <<< ((shE u2) &&& 0x3f).toInt64)))), .second, .val (.double (FP.i2d u1)), .second, .val (.long (((u0.toInt64) * ((1 : Int64) <<< ((shE u2) &&& 0x3f).toInt64)) + (u1.toInt64))), .second, .val (.double r), .second, .val (.long (FP.d2l r)), .second, .unset, .unset, .unset, .unset, .unset, .unset] [(.double (FP.l2d (FP.d2l r)))])) _
  refine XS.dload X.here hx rfl (hb hby at_109) rfl ?_
  show Steps p.tables e below (T.setTop (mkF m 111 #[.val (.int u0), .val (.int u1), .val (.int u2), .val (.int (u2 &&& (3 : Int32))), .val (.int (shE u2)), .val (.int sw), .val (.long ((1 : Int64) <<< ((shE u2) &&& 0x3f).toInt64)), .second, .val (.double (FP.dmul (FP.i2d u0) (FP.l2d ((1 : Int64) <<< ((shE u2) &&& 0x3f).toInt64)))), .second, .val (.double (FP.i2d u1)), .second, .val (.long (((u0.toInt64) * ((1 : Int64) <<< ((shE u2) &&& 0x3f).toInt64)) + (u1.toInt64))), .second, .val (.double r), .second, .val (.long (FP.d2l r)), .second, .unset, .unset, .unset, .unset, .unset, .unset] [(.double r), (.double (FP.l2d (FP.d2l r)))])) _
  refine XS.dcmpS X.here hx rfl (hb hby at_111) rfl (v := (cmpValue (FP.dcmp (FP.l2d (FP.d2l r)) r) .l)) rfl ?_
  show Steps p.tables e below (T.setTop (mkF m 112 #[.val (.int u0), .val (.int u1), .val (.int u2), .val (.int (u2 &&& (3 : Int32))), .val (.int (shE u2)), .val (.int sw), .val (.long ((1 : Int64) <<< ((shE u2) &&& 0x3f).toInt64)), .second, .val (.double (FP.dmul (FP.i2d u0) (FP.l2d ((1 : Int64) <<< ((shE u2) &&& 0x3f).toInt64)))), .second, .val (.double (FP.i2d u1)), .second, .val (.long (((u0.toInt64) * ((1 : Int64) <<< ((shE u2) &&& 0x3f).toInt64)) + (u1.toInt64))), .second, .val (.double r), .second, .val (.long (FP.d2l r)), .second, .unset, .unset, .unset, .unset, .unset, .unset] [(.int (cmpValue (FP.dcmp (FP.l2d (FP.d2l r)) r) .l))])) _
  refine XS.ifYes X.here hx rfl (pc0 := 112) (pc' := 117) rfl (hb hby at_112) rfl ((if0 _ _).trans (teq hc112).1) (by decide) (by decide) ?_
  show Steps p.tables e below (T.setTop (mkF m 117 #[.val (.int u0), .val (.int u1), .val (.int u2), .val (.int (u2 &&& (3 : Int32))), .val (.int (shE u2)), .val (.int sw), .val (.long ((1 : Int64) <<< ((shE u2) &&& 0x3f).toInt64)), .second, .val (.double (FP.dmul (FP.i2d u0) (FP.l2d ((1 : Int64) <<< ((shE u2) &&& 0x3f).toInt64)))), .second, .val (.double (FP.i2d u1)), .second, .val (.long (((u0.toInt64) * ((1 : Int64) <<< ((shE u2) &&& 0x3f).toInt64)) + (u1.toInt64))), .second, .val (.double r), .second, .val (.long (FP.d2l r)), .second, .unset, .unset, .unset, .unset, .unset, .unset] [])) _
  refine XS.lload X.here hx rfl (hb hby at_117) rfl ?_
  show Steps p.tables e below (T.setTop (mkF m 119 #[.val (.int u0), .val (.int u1), .val (.int u2), .val (.int (u2 &&& (3 : Int32))), .val (.int (shE u2)), .val (.int sw), .val (.long ((1 : Int64) <<< ((shE u2) &&& 0x3f).toInt64)), .second, .val (.double (FP.dmul (FP.i2d u0) (FP.l2d ((1 : Int64) <<< ((shE u2) &&& 0x3f).toInt64)))), .second, .val (.double (FP.i2d u1)), .second, .val (.long (((u0.toInt64) * ((1 : Int64) <<< ((shE u2) &&& 0x3f).toInt64)) + (u1.toInt64))), .second, .val (.double r), .second, .val (.long (FP.d2l r)), .second, .unset, .unset, .unset, .unset, .unset, .unset] [(.long (((u0.toInt64) * ((1 : Int64) <<< ((shE u2) &&& 0x3f).toInt64)) + (u1.toInt64)))])) _
  refine XS.l2dS X.here hx rfl (hb hby at_119) rfl (v := (FP.l2d (((u0.toInt64) * ((1 : Int64) <<< ((shE u2) &&& 0x3f).toInt64)) + (u1.toInt64)))) rfl ?_
  show Steps p.tables e below (T.setTop (mkF m 120 #[.val (.int u0), .val (.int u1), .val (.int u2), .val (.int (u2 &&& (3 : Int32))), .val (.int (shE u2)), .val (.int sw), .val (.long ((1 : Int64) <<< ((shE u2) &&& 0x3f).toInt64)), .second, .val (.double (FP.dmul (FP.i2d u0) (FP.l2d ((1 : Int64) <<< ((shE u2) &&& 0x3f).toInt64)))), .second, .val (.double (FP.i2d u1)), .second, .val (.long (((u0.toInt64) * ((1 : Int64) <<< ((shE u2) &&& 0x3f).toInt64)) + (u1.toInt64))), .second, .val (.double r), .second, .val (.long (FP.d2l r)), .second, .unset, .unset, .unset, .unset, .unset, .unset] [(.double (FP.l2d (((u0.toInt64) * ((1 : Int64) <<< ((shE u2) &&& 0x3f).toInt64)) + (u1.toInt64))))])) _
  refine XS.dstore X.here hx rfl (hb hby at_120) rfl (l' := #[.val (.int u0), .val (.int u1), .val (.int u2), .val (.int (u2 &&& (3 : Int32))), .val (.int (shE u2)), .val (.int sw), .val (.long ((1 : Int64) <<< ((shE u2) &&& 0x3f).toInt64)), .second, .val (.double (FP.dmul (FP.i2d u0) (FP.l2d ((1 : Int64) <<< ((shE u2) &&& 0x3f).toInt64)))), .second, .val (.double (FP.i2d u1)), .second, .val (.long (((u0.toInt64) * ((1 : Int64) <<< ((shE u2) &&& 0x3f).toInt64)) + (u1.toInt64))), .second, .val (.double r), .second, .val (.long (FP.d2l r)), .second, .val (.double (FP.l2d (((u0.toInt64) * ((1 : Int64) <<< ((shE u2) &&& 0x3f).toInt64)) + (u1.toInt64)))), .second, .unset, .unset, .unset, .unset]) rfl ?_
  show Steps p.tables e below (T.setTop (mkF m 122 #[.val (.int u0), .val (.int u1), .val (.int u2), .val (.int (u2 &&& (3 : Int32))), .val (.int (shE u2)), .val (.int sw), .val (.long ((1 : Int64) <<< ((shE u2) &&& 0x3f).toInt64)), .second, .val (.double (FP.dmul (FP.i2d u0) (FP.l2d ((1 : Int64) <<< ((shE u2) &&& 0x3f).toInt64)))), .second, .val (.double (FP.i2d u1)), .second, .val (.long (((u0.toInt64) * ((1 : Int64) <<< ((shE u2) &&& 0x3f).toInt64)) + (u1.toInt64))), .second, .val (.double r), .second, .val (.long (FP.d2l r)), .second, .val (.double (FP.l2d (((u0.toInt64) * ((1 : Int64) <<< ((shE u2) &&& 0x3f).toInt64)) + (u1.toInt64)))), .second, .unset, .unset, .unset, .unset] [])) _
  refine XS.dload X.here hx rfl (hb hby at_122) rfl ?_
  show Steps p.tables e below (T.setTop (mkF m 124 #[.val (.int u0), .val (.int u1), .val (.int u2), .val (.int (u2 &&& (3 : Int32))), .val (.int (shE u2)), .val (.int sw), .val (.long ((1 : Int64) <<< ((shE u2) &&& 0x3f).toInt64)), .second, .val (.double (FP.dmul (FP.i2d u0) (FP.l2d ((1 : Int64) <<< ((shE u2) &&& 0x3f).toInt64)))), .second, .val (.double (FP.i2d u1)), .second, .val (.long (((u0.toInt64) * ((1 : Int64) <<< ((shE u2) &&& 0x3f).toInt64)) + (u1.toInt64))), .second, .val (.double r), .second, .val (.long (FP.d2l r)), .second, .val (.double (FP.l2d (((u0.toInt64) * ((1 : Int64) <<< ((shE u2) &&& 0x3f).toInt64)) + (u1.toInt64)))), .second, .unset, .unset, .unset, .unset] [(.double (FP.l2d (((u0.toInt64) * ((1 : Int64) <<< ((shE u2) &&& 0x3f).toInt64)) + (u1.toInt64))))])) _
  refine XS.d2lS X.here hx rfl (hb hby at_124) rfl (v := (FP.d2l (FP.l2d (((u0.toInt64) * ((1 : Int64) <<< ((shE u2) &&& 0x3f).toInt64)) + (u1.toInt64))))) rfl ?_
  show Steps p.tables e below (T.setTop (mkF m 125 #[.val (.int u0), .val (.int u1), .val (.int u2), .val (.int (u2 &&& (3 : Int32))), .val (.int (shE u2)), .val (.int sw), .val (.long ((1 : Int64) <<< ((shE u2) &&& 0x3f).toInt64)), .second, .val (.double (FP.dmul (FP.i2d u0) (FP.l2d ((1 : Int64) <<< ((shE u2) &&& 0x3f).toInt64)))), .second, .val (.double (FP.i2d u1)), .second, .val (.long (((u0.toInt64) * ((1 : Int64) <<< ((shE u2) &&& 0x3f).toInt64)) + (u1.toInt64))), .second, .val (.double r), .second, .val (.long (FP.d2l r)), .second, .val (.double (FP.l2d (((u0.toInt64) * ((1 : Int64) <<< ((shE u2) &&& 0x3f).toInt64)) + (u1.toInt64)))), .second, .unset, .unset, .unset, .unset] [(.long (FP.d2l (FP.l2d (((u0.toInt64) * ((1 : Int64) <<< ((shE u2) &&& 0x3f).toInt64)) + (u1.toInt64)))))])) _
  refine XS.lstore X.here hx rfl (hb hby at_125) rfl (l' := #[.val (.int u0), .val (.int u1), .val (.int u2), .val (.int (u2 &&& (3 : Int32))), .val (.int (shE u2)), .val (.int sw), .val (.long ((1 : Int64) <<< ((shE u2) &&& 0x3f).toInt64)), .second, .val (.double (FP.dmul (FP.i2d u0) (FP.l2d ((1 : Int64) <<< ((shE u2) &&& 0x3f).toInt64)))), .second, .val (.double (FP.i2d u1)), .second, .val (.long (((u0.toInt64) * ((1 : Int64) <<< ((shE u2) &&& 0x3f).toInt64)) + (u1.toInt64))), .second, .val (.double r), .second, .val (.long (FP.d2l r)), .second, .val (.double (FP.l2d (((u0.toInt64) * ((1 : Int64) <<< ((shE u2) &&& 0x3f).toInt64)) + (u1.toInt64)))), .second, .val (.long (FP.d2l (FP.l2d (((u0.toInt64) * ((1 : Int64) <<< ((shE u2) &&& 0x3f).toInt64)) + (u1.toInt64))))), .second, .unset, .unset]) rfl ?_
  show Steps p.tables e below (T.setTop (mkF m 127 #[.val (.int u0), .val (.int u1), .val (.int u2), .val (.int (u2 &&& (3 : Int32))), .val (.int (shE u2)), .val (.int sw), .val (.long ((1 : Int64) <<< ((shE u2) &&& 0x3f).toInt64)), .second, .val (.double (FP.dmul (FP.i2d u0) (FP.l2d ((1 : Int64) <<< ((shE u2) &&& 0x3f).toInt64)))), .second, .val (.double (FP.i2d u1)), .second, .val (.long (((u0.toInt64) * ((1 : Int64) <<< ((shE u2) &&& 0x3f).toInt64)) + (u1.toInt64))), .second, .val (.double r), .second, .val (.long (FP.d2l r)), .second, .val (.double (FP.l2d (((u0.toInt64) * ((1 : Int64) <<< ((shE u2) &&& 0x3f).toInt64)) + (u1.toInt64)))), .second, .val (.long (FP.d2l (FP.l2d (((u0.toInt64) * ((1 : Int64) <<< ((shE u2) &&& 0x3f).toInt64)) + (u1.toInt64))))), .second, .unset, .unset] [])) _
  refine XS.lload X.here hx rfl (hb hby at_127) rfl ?_
  show Steps p.tables e below (T.setTop (mkF m 129 #[.val (.int u0), .val (.int u1), .val (.int u2), .val (.int (u2 &&& (3 : Int32))), .val (.int (shE u2)), .val (.int sw), .val (.long ((1 : Int64) <<< ((shE u2) &&& 0x3f).toInt64)), .second, .val (.double (FP.dmul (FP.i2d u0) (FP.l2d ((1 : Int64) <<< ((shE u2) &&& 0x3f).toInt64)))), .second, .val (.double (FP.i2d u1)), .second, .val (.long (((u0.toInt64) * ((1 : Int64) <<< ((shE u2) &&& 0x3f).toInt64)) + (u1.toInt64))), .second, .val (.double r), .second, .val (.long (FP.d2l r)), .second, .val (.double (FP.l2d (((u0.toInt64) * ((1 : Int64) <<< ((shE u2) &&& 0x3f).toInt64)) + (u1.toInt64)))), .second, .val (.long (FP.d2l (FP.l2d (((u0.toInt64) * ((1 : Int64) <<< ((shE u2) &&& 0x3f).toInt64)) + (u1.toInt64))))), .second, .unset, .unset] [(.long (FP.d2l (FP.l2d (((u0.toInt64) * ((1 : Int64) <<< ((shE u2) &&& 0x3f).toInt64)) + (u1.toInt64)))))])) _
  refine XS.lload X.here hx rfl (hb hby at_129) rfl ?_
  show Steps p.tables e below (T.setTop (mkF m 131 #[.val (.int u0), .val (.int u1), .val (.int u2), .val (.int (u2 &&& (3 : Int32))), .val (.int (shE u2)), .val (.int sw), .val (.long ((1 : Int64) <<< ((shE u2) &&& 0x3f).toInt64)), .second, .val (.double (FP.dmul (FP.i2d u0) (FP.l2d ((1 : Int64) <<< ((shE u2) &&& 0x3f).toInt64)))), .second, .val (.double (FP.i2d u1)), .second, .val (.long (((u0.toInt64) * ((1 : Int64) <<< ((shE u2) &&& 0x3f).toInt64)) + (u1.toInt64))), .second, .val (.double r), .second, .val (.long (FP.d2l r)), .second, .val (.double (FP.l2d (((u0.toInt64) * ((1 : Int64) <<< ((shE u2) &&& 0x3f).toInt64)) + (u1.toInt64)))), .second, .val (.long (FP.d2l (FP.l2d (((u0.toInt64) * ((1 : Int64) <<< ((shE u2) &&& 0x3f).toInt64)) + (u1.toInt64))))), .second, .unset, .unset] [(.long (((u0.toInt64) * ((1 : Int64) <<< ((shE u2) &&& 0x3f).toInt64)) + (u1.toInt64))), (.long (FP.d2l (FP.l2d (((u0.toInt64) * ((1 : Int64) <<< ((shE u2) &&& 0x3f).toInt64)) + (u1.toInt64)))))])) _
  refine XS.lcmp X.here hx rfl (hb hby at_131) rfl ?_
  show Steps p.tables e below (T.setTop (mkF m 132 #[.val (.int u0), .val (.int u1), .val (.int u2), .val (.int (u2 &&& (3 : Int32))), .val (.int (shE u2)), .val (.int sw), .val (.long ((1 : Int64) <<< ((shE u2) &&& 0x3f).toInt64)), .second, .val (.double (FP.dmul (FP.i2d u0) (FP.l2d ((1 : Int64) <<< ((shE u2) &&& 0x3f).toInt64)))), .second, .val (.double (FP.i2d u1)), .second, .val (.long (((u0.toInt64) * ((1 : Int64) <<< ((shE u2) &&& 0x3f).toInt64)) + (u1.toInt64))), .second, .val (.double r), .second, .val (.long (FP.d2l r)), .second, .val (.double (FP.l2d (((u0.toInt64) * ((1 : Int64) <<< ((shE u2) &&& 0x3f).toInt64)) + (u1.toInt64)))), .second, .val (.long (FP.d2l (FP.l2d (((u0.toInt64) * ((1 : Int64) <<< ((shE u2) &&& 0x3f).toInt64)) + (u1.toInt64))))), .second, .unset, .unset] [(.int (lcmpW (FP.d2l (FP.l2d (((u0.toInt64) * ((1 : Int64) <<< ((shE u2) &&& 0x3f).toInt64)) + (u1.toInt64)))) (((u0.toInt64) * ((1 : Int64) <<< ((shE u2) &&& 0x3f).toInt64)) + (u1.toInt64))))])) _
  refine XS.ifYes X.here hx rfl (pc0 := 132) (pc' := 149) rfl (hb hby at_132) rfl ((if0 _ _).trans (tlt hc132).1) (by decide) (by decide) ?_
  show Steps p.tables e below (T.setTop (mkF m 149 #[.val (.int u0), .val (.int u1), .val (.int u2), .val (.int (u2 &&& (3 : Int32))), .val (.int (shE u2)), .val (.int sw), .val (.long ((1 : Int64) <<< ((shE u2) &&& 0x3f).toInt64)), .second, .val (.double (FP.dmul (FP.i2d u0) (FP.l2d ((1 : Int64) <<< ((shE u2) &&& 0x3f).toInt64)))), .second, .val (.double (FP.i2d u1)), .second, .val (.long (((u0.toInt64) * ((1 : Int64) <<< ((shE u2) &&& 0x3f).toInt64)) + (u1.toInt64))), .second, .val (.double r), .second, .val (.long (FP.d2l r)), .second, .val (.double (FP.l2d (((u0.toInt64) * ((1 : Int64) <<< ((shE u2) &&& 0x3f).toInt64)) + (u1.toInt64)))), .second, .val (.long (FP.d2l (FP.l2d (((u0.toInt64) * ((1 : Int64) <<< ((shE u2) &&& 0x3f).toInt64)) + (u1.toInt64))))), .second, .unset, .unset] [])) _
  refine XS.lload X.here hx rfl (hb hby at_149) rfl ?_
  show Steps p.tables e below (T.setTop (mkF m 151 #[.val (.int u0), .val (.int u1), .val (.int u2), .val (.int (u2 &&& (3 : Int32))), .val (.int (shE u2)), .val (.int sw), .val (.long ((1 : Int64) <<< ((shE u2) &&& 0x3f).toInt64)), .second, .val (.double (FP.dmul (FP.i2d u0) (FP.l2d ((1 : Int64) <<< ((shE u2) &&& 0x3f).toInt64)))), .second, .val (.double (FP.i2d u1)), .second, .val (.long (((u0.toInt64) * ((1 : Int64) <<< ((shE u2) &&& 0x3f).toInt64)) + (u1.toInt64))), .second, .val (.double r), .second, .val (.long (FP.d2l r)), .second, .val (.double (FP.l2d (((u0.toInt64) * ((1 : Int64) <<< ((shE u2) &&& 0x3f).toInt64)) + (u1.toInt64)))), .second, .val (.long (FP.d2l (FP.l2d (((u0.toInt64) * ((1 : Int64) <<< ((shE u2) &&& 0x3f).toInt64)) + (u1.toInt64))))), .second, .unset, .unset] [(.long (FP.d2l r))])) _
  refine XS.lload X.here hx rfl (hb hby at_151) rfl ?_
  show Steps p.tables e below (T.setTop (mkF m 153 #[.val (.int u0), .val (.int u1), .val (.int u2), .val (.int (u2 &&& (3 : Int32))), .val (.int (shE u2)), .val (.int sw), .val (.long ((1 : Int64) <<< ((shE u2) &&& 0x3f).toInt64)), .second, .val (.double (FP.dmul (FP.i2d u0) (FP.l2d ((1 : Int64) <<< ((shE u2) &&& 0x3f).toInt64)))), .second, .val (.double (FP.i2d u1)), .second, .val (.long (((u0.toInt64) * ((1 : Int64) <<< ((shE u2) &&& 0x3f).toInt64)) + (u1.toInt64))), .second, .val (.double r), .second, .val (.long (FP.d2l r)), .second, .val (.double (FP.l2d (((u0.toInt64) * ((1 : Int64) <<< ((shE u2) &&& 0x3f).toInt64)) + (u1.toInt64)))), .second, .val (.long (FP.d2l (FP.l2d (((u0.toInt64) * ((1 : Int64) <<< ((shE u2) &&& 0x3f).toInt64)) + (u1.toInt64))))), .second, .unset, .unset] [(.long (((u0.toInt64) * ((1 : Int64) <<< ((shE u2) &&& 0x3f).toInt64)) + (u1.toInt64))), (.long (FP.d2l r))])) _
  refine XS.lcmp X.here hx rfl (hb hby at_153) rfl ?_
  show Steps p.tables e below (T.setTop (mkF m 154 #[.val (.int u0), .val (.int u1), .val (.int u2), .val (.int (u2 &&& (3 : Int32))), .val (.int (shE u2)), .val (.int sw), .val (.long ((1 : Int64) <<< ((shE u2) &&& 0x3f).toInt64)), .second, .val (.double (FP.dmul (FP.i2d u0) (FP.l2d ((1 : Int64) <<< ((shE u2) &&& 0x3f).toInt64)))), .second, .val (.double (FP.i2d u1)), .second, .val (.long (((u0.toInt64) * ((1 : Int64) <<< ((shE u2) &&& 0x3f).toInt64)) + (u1.toInt64))), .second, .val (.double r), .second, .val (.long (FP.d2l r)), .second, .val (.double (FP.l2d (((u0.toInt64) * ((1 : Int64) <<< ((shE u2) &&& 0x3f).toInt64)) + (u1.toInt64)))), .second, .val (.long (FP.d2l (FP.l2d (((u0.toInt64) * ((1 : Int64) <<< ((shE u2) &&& 0x3f).toInt64)) + (u1.toInt64))))), .second, .unset, .unset] [(.int (lcmpW (FP.d2l r) (((u0.toInt64) * ((1 : Int64) <<< ((shE u2) &&& 0x3f).toInt64)) + (u1.toInt64))))])) _
  refine XS.ifYes X.here hx rfl (pc0 := 154) (pc' := 159) rfl (hb hby at_154) rfl ((if0 _ _).trans (tlt hc154).2.2.1) (by decide) (by decide) ?_
  show Steps p.tables e below (T.setTop (mkF m 159 #[.val (.int u0), .val (.int u1), .val (.int u2), .val (.int (u2 &&& (3 : Int32))), .val (.int (shE u2)), .val (.int sw), .val (.long ((1 : Int64) <<< ((shE u2) &&& 0x3f).toInt64)), .second, .val (.double (FP.dmul (FP.i2d u0) (FP.l2d ((1 : Int64) <<< ((shE u2) &&& 0x3f).toInt64)))), .second, .val (.double (FP.i2d u1)), .second, .val (.long (((u0.toInt64) * ((1 : Int64) <<< ((shE u2) &&& 0x3f).toInt64)) + (u1.toInt64))), .second, .val (.double r), .second, .val (.long (FP.d2l r)), .second, .val (.double (FP.l2d (((u0.toInt64) * ((1 : Int64) <<< ((shE u2) &&& 0x3f).toInt64)) + (u1.toInt64)))), .second, .val (.long (FP.d2l (FP.l2d (((u0.toInt64) * ((1 : Int64) <<< ((shE u2) &&& 0x3f).toInt64)) + (u1.toInt64))))), .second, .unset, .unset] [])) _
  refine XS.lload X.here hx rfl (hb hby at_159) rfl ?_
  show Steps p.tables e below (T.setTop (mkF m 161 #[.val (.int u0), .val (.int u1), .val (.int u2), .val (.int (u2 &&& (3 : Int32))), .val (.int (shE u2)), .val (.int sw), .val (.long ((1 : Int64) <<< ((shE u2) &&& 0x3f).toInt64)), .second, .val (.double (FP.dmul (FP.i2d u0) (FP.l2d ((1 : Int64) <<< ((shE u2) &&& 0x3f).toInt64)))), .second, .val (.double (FP.i2d u1)), .second, .val (.long (((u0.toInt64) * ((1 : Int64) <<< ((shE u2) &&& 0x3f).toInt64)) + (u1.toInt64))), .second, .val (.double r), .second, .val (.long (FP.d2l r)), .second, .val (.double (FP.l2d (((u0.toInt64) * ((1 : Int64) <<< ((shE u2) &&& 0x3f).toInt64)) + (u1.toInt64)))), .second, .val (.long (FP.d2l (FP.l2d (((u0.toInt64) * ((1 : Int64) <<< ((shE u2) &&& 0x3f).toInt64)) + (u1.toInt64))))), .second, .unset, .unset] [(.long (FP.d2l (FP.l2d (((u0.toInt64) * ((1 : Int64) <<< ((shE u2) &&& 0x3f).toInt64)) + (u1.toInt64)))))])) _
  refine XS.lload X.here hx rfl (hb hby at_161) rfl ?_
  show Steps p.tables e below (T.setTop (mkF m 163 #[.val (.int u0), .val (.int u1), .val (.int u2), .val (.int (u2 &&& (3 : Int32))), .val (.int (shE u2)), .val (.int sw), .val (.long ((1 : Int64) <<< ((shE u2) &&& 0x3f).toInt64)), .second, .val (.double (FP.dmul (FP.i2d u0) (FP.l2d ((1 : Int64) <<< ((shE u2) &&& 0x3f).toInt64)))), .second, .val (.double (FP.i2d u1)), .second, .val (.long (((u0.toInt64) * ((1 : Int64) <<< ((shE u2) &&& 0x3f).toInt64)) + (u1.toInt64))), .second, .val (.double r), .second, .val (.long (FP.d2l r)), .second, .val (.double (FP.l2d (((u0.toInt64) * ((1 : Int64) <<< ((shE u2) &&& 0x3f).toInt64)) + (u1.toInt64)))), .second, .val (.long (FP.d2l (FP.l2d (((u0.toInt64) * ((1 : Int64) <<< ((shE u2) &&& 0x3f).toInt64)) + (u1.toInt64))))), .second, .unset, .unset] [(.long (FP.d2l r)), (.long (FP.d2l (FP.l2d (((u0.toInt64) * ((1 : Int64) <<< ((shE u2) &&& 0x3f).toInt64)) + (u1.toInt64)))))])) _
  refine XS.ladd X.here hx rfl (hb hby at_163) rfl ?_
  show Steps p.tables e below (T.setTop (mkF m 164 #[.val (.int u0), .val (.int u1), .val (.int u2), .val (.int (u2 &&& (3 : Int32))), .val (.int (shE u2)), .val (.int sw), .val (.long ((1 : Int64) <<< ((shE u2) &&& 0x3f).toInt64)), .second, .val (.double (FP.dmul (FP.i2d u0) (FP.l2d ((1 : Int64) <<< ((shE u2) &&& 0x3f).toInt64)))), .second, .val (.double (FP.i2d u1)), .second, .val (.long (((u0.toInt64) * ((1 : Int64) <<< ((shE u2) &&& 0x3f).toInt64)) + (u1.toInt64))), .second, .val (.double r), .second, .val (.long (FP.d2l r)), .second, .val (.double (FP.l2d (((u0.toInt64) * ((1 : Int64) <<< ((shE u2) &&& 0x3f).toInt64)) + (u1.toInt64)))), .second, .val (.long (FP.d2l (FP.l2d (((u0.toInt64) * ((1 : Int64) <<< ((shE u2) &&& 0x3f).toInt64)) + (u1.toInt64))))), .second, .unset, .unset] [(.long ((FP.d2l (FP.l2d (((u0.toInt64) * ((1 : Int64) <<< ((shE u2) &&& 0x3f).toInt64)) + (u1.toInt64)))) + (FP.d2l r)))])) _
  refine X.ldc2Long hx hown (mvT hZ (hw _ (List.mem_of_getElem? (i := 17) rfl))) (g := (mkF m 164 #[.val (.int u0), .val (.int u1), .val (.int u2), .val (.int (u2 &&& (3 : Int32))), .val (.int (shE u2)), .val (.int sw), .val (.long ((1 : Int64) <<< ((shE u2) &&& 0x3f).toInt64)), .second, .val (.double (FP.dmul (FP.i2d u0) (FP.l2d ((1 : Int64) <<< ((shE u2) &&& 0x3f).toInt64)))), .second, .val (.double (FP.i2d u1)), .second, .val (.long (((u0.toInt64) * ((1 : Int64) <<< ((shE u2) &&& 0x3f).toInt64)) + (u1.toInt64))), .second, .val (.double r), .second, .val (.long (FP.d2l r)), .second, .val (.double (FP.l2d (((u0.toInt64) * ((1 : Int64) <<< ((shE u2) &&& 0x3f).toInt64)) + (u1.toInt64)))), .second, .val (.long (FP.d2l (FP.l2d (((u0.toInt64) * ((1 : Int64) <<< ((shE u2) &&& 0x3f).toInt64)) + (u1.toInt64))))), .second, .unset, .unset] [(.long ((FP.d2l (FP.l2d (((u0.toInt64) * ((1 : Int64) <<< ((shE u2) &&& 0x3f).toInt64)) + (u1.toInt64)))) + (FP.d2l r)))])) rfl (hb hby at_164) _ ?_
  show Steps p.tables e below (T.setTop (mkF m 167 #[.val (.int u0), .val (.int u1), .val (.int u2), .val (.int (u2 &&& (3 : Int32))), .val (.int (shE u2)), .val (.int sw), .val (.long ((1 : Int64) <<< ((shE u2) &&& 0x3f).toInt64)), .second, .val (.double (FP.dmul (FP.i2d u0) (FP.l2d ((1 : Int64) <<< ((shE u2) &&& 0x3f).toInt64)))), .second, .val (.double (FP.i2d u1)), .second, .val (.long (((u0.toInt64) * ((1 : Int64) <<< ((shE u2) &&& 0x3f).toInt64)) + (u1.toInt64))), .second, .val (.double r), .second, .val (.long (FP.d2l r)), .second, .val (.double (FP.l2d (((u0.toInt64) * ((1 : Int64) <<< ((shE u2) &&& 0x3f).toInt64)) + (u1.toInt64)))), .second, .val (.long (FP.d2l (FP.l2d (((u0.toInt64) * ((1 : Int64) <<< ((shE u2) &&& 0x3f).toInt64)) + (u1.toInt64))))), .second, .unset, .unset] [(.long (2 : Int64)), (.long ((FP.d2l (FP.l2d (((u0.toInt64) * ((1 : Int64) <<< ((shE u2) &&& 0x3f).toInt64)) + (u1.toInt64)))) + (FP.d2l r)))])) _
  refine XS.ldiv X.here hx rfl (hb hby at_167) rfl (by decide) ?_
  show Steps p.tables e below (T.setTop (mkF m 168 #[.val (.int u0), .val (.int u1), .val (.int u2), .val (.int (u2 &&& (3 : Int32))), .val (.int (shE u2)), .val (.int sw), .val (.long ((1 : Int64) <<< ((shE u2) &&& 0x3f).toInt64)), .second, .val (.double (FP.dmul (FP.i2d u0) (FP.l2d ((1 : Int64) <<< ((shE u2) &&& 0x3f).toInt64)))), .second, .val (.double (FP.i2d u1)), .second, .val (.long (((u0.toInt64) * ((1 : Int64) <<< ((shE u2) &&& 0x3f).toInt64)) + (u1.toInt64))), .second, .val (.double r), .second, .val (.long (FP.d2l r)), .second, .val (.double (FP.l2d (((u0.toInt64) * ((1 : Int64) <<< ((shE u2) &&& 0x3f).toInt64)) + (u1.toInt64)))), .second, .val (.long (FP.d2l (FP.l2d (((u0.toInt64) * ((1 : Int64) <<< ((shE u2) &&& 0x3f).toInt64)) + (u1.toInt64))))), .second, .unset, .unset] [(.long (((FP.d2l (FP.l2d (((u0.toInt64) * ((1 : Int64) <<< ((shE u2) &&& 0x3f).toInt64)) + (u1.toInt64)))) + (FP.d2l r)) / (2 : Int64)))])) _
  refine XS.l2dS X.here hx rfl (hb hby at_168) rfl (v := (FP.l2d (((FP.d2l (FP.l2d (((u0.toInt64) * ((1 : Int64) <<< ((shE u2) &&& 0x3f).toInt64)) + (u1.toInt64)))) + (FP.d2l r)) / (2 : Int64)))) rfl ?_
  show Steps p.tables e below (T.setTop (mkF m 169 #[.val (.int u0), .val (.int u1), .val (.int u2), .val (.int (u2 &&& (3 : Int32))), .val (.int (shE u2)), .val (.int sw), .val (.long ((1 : Int64) <<< ((shE u2) &&& 0x3f).toInt64)), .second, .val (.double (FP.dmul (FP.i2d u0) (FP.l2d ((1 : Int64) <<< ((shE u2) &&& 0x3f).toInt64)))), .second, .val (.double (FP.i2d u1)), .second, .val (.long (((u0.toInt64) * ((1 : Int64) <<< ((shE u2) &&& 0x3f).toInt64)) + (u1.toInt64))), .second, .val (.double r), .second, .val (.long (FP.d2l r)), .second, .val (.double (FP.l2d (((u0.toInt64) * ((1 : Int64) <<< ((shE u2) &&& 0x3f).toInt64)) + (u1.toInt64)))), .second, .val (.long (FP.d2l (FP.l2d (((u0.toInt64) * ((1 : Int64) <<< ((shE u2) &&& 0x3f).toInt64)) + (u1.toInt64))))), .second, .unset, .unset] [(.double (FP.l2d (((FP.d2l (FP.l2d (((u0.toInt64) * ((1 : Int64) <<< ((shE u2) &&& 0x3f).toInt64)) + (u1.toInt64)))) + (FP.d2l r)) / (2 : Int64))))])) _
  refine XS.dstore X.here hx rfl (hb hby at_169) rfl (l' := #[.val (.int u0), .val (.int u1), .val (.int u2), .val (.int (u2 &&& (3 : Int32))), .val (.int (shE u2)), .val (.int sw), .val (.long ((1 : Int64) <<< ((shE u2) &&& 0x3f).toInt64)), .second, .val (.double (FP.dmul (FP.i2d u0) (FP.l2d ((1 : Int64) <<< ((shE u2) &&& 0x3f).toInt64)))), .second, .val (.double (FP.i2d u1)), .second, .val (.long (((u0.toInt64) * ((1 : Int64) <<< ((shE u2) &&& 0x3f).toInt64)) + (u1.toInt64))), .second, .val (.double r), .second, .val (.long (FP.d2l r)), .second, .val (.double (FP.l2d (((u0.toInt64) * ((1 : Int64) <<< ((shE u2) &&& 0x3f).toInt64)) + (u1.toInt64)))), .second, .val (.long (FP.d2l (FP.l2d (((u0.toInt64) * ((1 : Int64) <<< ((shE u2) &&& 0x3f).toInt64)) + (u1.toInt64))))), .second, .val (.double (FP.l2d (((FP.d2l (FP.l2d (((u0.toInt64) * ((1 : Int64) <<< ((shE u2) &&& 0x3f).toInt64)) + (u1.toInt64)))) + (FP.d2l r)) / (2 : Int64)))), .second]) rfl ?_
  show Steps p.tables e below (T.setTop (mkF m 171 #[.val (.int u0), .val (.int u1), .val (.int u2), .val (.int (u2 &&& (3 : Int32))), .val (.int (shE u2)), .val (.int sw), .val (.long ((1 : Int64) <<< ((shE u2) &&& 0x3f).toInt64)), .second, .val (.double (FP.dmul (FP.i2d u0) (FP.l2d ((1 : Int64) <<< ((shE u2) &&& 0x3f).toInt64)))), .second, .val (.double (FP.i2d u1)), .second, .val (.long (((u0.toInt64) * ((1 : Int64) <<< ((shE u2) &&& 0x3f).toInt64)) + (u1.toInt64))), .second, .val (.double r), .second, .val (.long (FP.d2l r)), .second, .val (.double (FP.l2d (((u0.toInt64) * ((1 : Int64) <<< ((shE u2) &&& 0x3f).toInt64)) + (u1.toInt64)))), .second, .val (.long (FP.d2l (FP.l2d (((u0.toInt64) * ((1 : Int64) <<< ((shE u2) &&& 0x3f).toInt64)) + (u1.toInt64))))), .second, .val (.double (FP.l2d (((FP.d2l (FP.l2d (((u0.toInt64) * ((1 : Int64) <<< ((shE u2) &&& 0x3f).toInt64)) + (u1.toInt64)))) + (FP.d2l r)) / (2 : Int64)))), .second] [])) _
  refine XS.dload X.here hx rfl (hb hby at_171) rfl ?_
  show Steps p.tables e below (T.setTop (mkF m 173 #[.val (.int u0), .val (.int u1), .val (.int u2), .val (.int (u2 &&& (3 : Int32))), .val (.int (shE u2)), .val (.int sw), .val (.long ((1 : Int64) <<< ((shE u2) &&& 0x3f).toInt64)), .second, .val (.double (FP.dmul (FP.i2d u0) (FP.l2d ((1 : Int64) <<< ((shE u2) &&& 0x3f).toInt64)))), .second, .val (.double (FP.i2d u1)), .second, .val (.long (((u0.toInt64) * ((1 : Int64) <<< ((shE u2) &&& 0x3f).toInt64)) + (u1.toInt64))), .second, .val (.double r), .second, .val (.long (FP.d2l r)), .second, .val (.double (FP.l2d (((u0.toInt64) * ((1 : Int64) <<< ((shE u2) &&& 0x3f).toInt64)) + (u1.toInt64)))), .second, .val (.long (FP.d2l (FP.l2d (((u0.toInt64) * ((1 : Int64) <<< ((shE u2) &&& 0x3f).toInt64)) + (u1.toInt64))))), .second, .val (.double (FP.l2d (((FP.d2l (FP.l2d (((u0.toInt64) * ((1 : Int64) <<< ((shE u2) &&& 0x3f).toInt64)) + (u1.toInt64)))) + (FP.d2l r)) / (2 : Int64)))), .second] [(.double (FP.l2d (((FP.d2l (FP.l2d (((u0.toInt64) * ((1 : Int64) <<< ((shE u2) &&& 0x3f).toInt64)) + (u1.toInt64)))) + (FP.d2l r)) / (2 : Int64))))])) _
  refine XS.dload X.here hx rfl (hb hby at_173) rfl ?_
  show Steps p.tables e below (T.setTop (mkF m 175 #[.val (.int u0), .val (.int u1), .val (.int u2), .val (.int (u2 &&& (3 : Int32))), .val (.int (shE u2)), .val (.int sw), .val (.long ((1 : Int64) <<< ((shE u2) &&& 0x3f).toInt64)), .second, .val (.double (FP.dmul (FP.i2d u0) (FP.l2d ((1 : Int64) <<< ((shE u2) &&& 0x3f).toInt64)))), .second, .val (.double (FP.i2d u1)), .second, .val (.long (((u0.toInt64) * ((1 : Int64) <<< ((shE u2) &&& 0x3f).toInt64)) + (u1.toInt64))), .second, .val (.double r), .second, .val (.long (FP.d2l r)), .second, .val (.double (FP.l2d (((u0.toInt64) * ((1 : Int64) <<< ((shE u2) &&& 0x3f).toInt64)) + (u1.toInt64)))), .second, .val (.long (FP.d2l (FP.l2d (((u0.toInt64) * ((1 : Int64) <<< ((shE u2) &&& 0x3f).toInt64)) + (u1.toInt64))))), .second, .val (.double (FP.l2d (((FP.d2l (FP.l2d (((u0.toInt64) * ((1 : Int64) <<< ((shE u2) &&& 0x3f).toInt64)) + (u1.toInt64)))) + (FP.d2l r)) / (2 : Int64)))), .second] [(.double (FP.l2d (((u0.toInt64) * ((1 : Int64) <<< ((shE u2) &&& 0x3f).toInt64)) + (u1.toInt64)))), (.double (FP.l2d (((FP.d2l (FP.l2d (((u0.toInt64) * ((1 : Int64) <<< ((shE u2) &&& 0x3f).toInt64)) + (u1.toInt64)))) + (FP.d2l r)) / (2 : Int64))))])) _
  refine XS.dcmpS X.here hx rfl (hb hby at_175) rfl (v := (cmpValue (FP.dcmp (FP.l2d (((FP.d2l (FP.l2d (((u0.toInt64) * ((1 : Int64) <<< ((shE u2) &&& 0x3f).toInt64)) + (u1.toInt64)))) + (FP.d2l r)) / (2 : Int64))) (FP.l2d (((u0.toInt64) * ((1 : Int64) <<< ((shE u2) &&& 0x3f).toInt64)) + (u1.toInt64)))) .l)) rfl ?_
  show Steps p.tables e below (T.setTop (mkF m 176 #[.val (.int u0), .val (.int u1), .val (.int u2), .val (.int (u2 &&& (3 : Int32))), .val (.int (shE u2)), .val (.int sw), .val (.long ((1 : Int64) <<< ((shE u2) &&& 0x3f).toInt64)), .second, .val (.double (FP.dmul (FP.i2d u0) (FP.l2d ((1 : Int64) <<< ((shE u2) &&& 0x3f).toInt64)))), .second, .val (.double (FP.i2d u1)), .second, .val (.long (((u0.toInt64) * ((1 : Int64) <<< ((shE u2) &&& 0x3f).toInt64)) + (u1.toInt64))), .second, .val (.double r), .second, .val (.long (FP.d2l r)), .second, .val (.double (FP.l2d (((u0.toInt64) * ((1 : Int64) <<< ((shE u2) &&& 0x3f).toInt64)) + (u1.toInt64)))), .second, .val (.long (FP.d2l (FP.l2d (((u0.toInt64) * ((1 : Int64) <<< ((shE u2) &&& 0x3f).toInt64)) + (u1.toInt64))))), .second, .val (.double (FP.l2d (((FP.d2l (FP.l2d (((u0.toInt64) * ((1 : Int64) <<< ((shE u2) &&& 0x3f).toInt64)) + (u1.toInt64)))) + (FP.d2l r)) / (2 : Int64)))), .second] [(.int (cmpValue (FP.dcmp (FP.l2d (((FP.d2l (FP.l2d (((u0.toInt64) * ((1 : Int64) <<< ((shE u2) &&& 0x3f).toInt64)) + (u1.toInt64)))) + (FP.d2l r)) / (2 : Int64))) (FP.l2d (((u0.toInt64) * ((1 : Int64) <<< ((shE u2) &&& 0x3f).toInt64)) + (u1.toInt64)))) .l))])) _
  refine XS.ifYes X.here hx rfl (pc0 := 176) (pc' := 187) rfl (hb hby at_176) rfl ((if0 _ _).trans (teq hc176).1) (by decide) (by decide) ?_
  show Steps p.tables e below (T.setTop (mkF m 187 #[.val (.int u0), .val (.int u1), .val (.int u2), .val (.int (u2 &&& (3 : Int32))), .val (.int (shE u2)), .val (.int sw), .val (.long ((1 : Int64) <<< ((shE u2) &&& 0x3f).toInt64)), .second, .val (.double (FP.dmul (FP.i2d u0) (FP.l2d ((1 : Int64) <<< ((shE u2) &&& 0x3f).toInt64)))), .second, .val (.double (FP.i2d u1)), .second, .val (.long (((u0.toInt64) * ((1 : Int64) <<< ((shE u2) &&& 0x3f).toInt64)) + (u1.toInt64))), .second, .val (.double r), .second, .val (.long (FP.d2l r)), .second, .val (.double (FP.l2d (((u0.toInt64) * ((1 : Int64) <<< ((shE u2) &&& 0x3f).toInt64)) + (u1.toInt64)))), .second, .val (.long (FP.d2l (FP.l2d (((u0.toInt64) * ((1 : Int64) <<< ((shE u2) &&& 0x3f).toInt64)) + (u1.toInt64))))), .second, .val (.double (FP.l2d (((FP.d2l (FP.l2d (((u0.toInt64) * ((1 : Int64) <<< ((shE u2) &&& 0x3f).toInt64)) + (u1.toInt64)))) + (FP.d2l r)) / (2 : Int64)))), .second] [])) _
  refine XS.iconst X.here hx rfl (hb hby at_187) ?_
  show Steps p.tables e below (T.setTop (mkF m 188 #[.val (.int u0), .val (.int u1), .val (.int u2), .val (.int (u2 &&& (3 : Int32))), .val (.int (shE u2)), .val (.int sw), .val (.long ((1 : Int64) <<< ((shE u2) &&& 0x3f).toInt64)), .second, .val (.double (FP.dmul (FP.i2d u0) (FP.l2d ((1 : Int64) <<< ((shE u2) &&& 0x3f).toInt64)))), .second, .val (.double (FP.i2d u1)), .second, .val (.long (((u0.toInt64) * ((1 : Int64) <<< ((shE u2) &&& 0x3f).toInt64)) + (u1.toInt64))), .second, .val (.double r), .second, .val (.long (FP.d2l r)), .second, .val (.double (FP.l2d (((u0.toInt64) * ((1 : Int64) <<< ((shE u2) &&& 0x3f).toInt64)) + (u1.toInt64)))), .second, .val (.long (FP.d2l (FP.l2d (((u0.toInt64) * ((1 : Int64) <<< ((shE u2) &&& 0x3f).toInt64)) + (u1.toInt64))))), .second, .val (.double (FP.l2d (((FP.d2l (FP.l2d (((u0.toInt64) * ((1 : Int64) <<< ((shE u2) &&& 0x3f).toInt64)) + (u1.toInt64)))) + (FP.d2l r)) / (2 : Int64)))), .second] [(.int (1 : Int32))])) _
  refine XS.goto X.here hx rfl (pc0 := 188) (pc' := 192) rfl (hb hby at_188) (by decide) (by decide) ?_
  exact hr
set_option maxRecDepth 65536 in
set_option maxHeartbeats 4000000 in
theorem sM {p : Program} {l : Launch} {e : Env} {R : Room} {s : State} {m : MethodId} {args : Array Value} {below : List Frame} {meth : Method} {c : Code} {T : State} {locs : List Loc} {cells slots : Nat} {Z : State} {a0 : Array Value} {target : State} {u0 u1 u2 : Int32} {sw : Int32} {r : UInt64} (X : Stand p l e R s m args below meth c T locs cells slots) (hx : p.tables.exec = Jvm.exec) (hZ : Z.Warmed39 s.vm) (hw : ∀ d ∈ tables_1, d.before a0 Z = true) (hby : c.code = code) (hown : s.vm.findClass "com/example/unsplit/unsplit/UpwardAddPinLaw" = some m.cls) (hc112 : (cmpValue (FP.dcmp (FP.l2d (FP.d2l r)) r) .l) = (0 : Int32)) (hc132 : (lcmpW (FP.d2l (FP.l2d (((u0.toInt64) * ((1 : Int64) <<< ((shE u2) &&& 0x3f).toInt64)) + (u1.toInt64)))) (((u0.toInt64) * ((1 : Int64) <<< ((shE u2) &&& 0x3f).toInt64)) + (u1.toInt64))) < (0 : Int32)) (hc154 : (0 : Int32) < (lcmpW (FP.d2l r) (((u0.toInt64) * ((1 : Int64) <<< ((shE u2) &&& 0x3f).toInt64)) + (u1.toInt64)))) (hc176 : ¬ ((cmpValue (FP.dcmp (FP.l2d (((FP.d2l (FP.l2d (((u0.toInt64) * ((1 : Int64) <<< ((shE u2) &&& 0x3f).toInt64)) + (u1.toInt64)))) + (FP.d2l r)) / (2 : Int64))) (FP.l2d (((u0.toInt64) * ((1 : Int64) <<< ((shE u2) &&& 0x3f).toInt64)) + (u1.toInt64)))) .l) = (0 : Int32))) (hc184 : (cmpValue (FP.dcmp (FP.l2d (((FP.d2l (FP.l2d (((u0.toInt64) * ((1 : Int64) <<< ((shE u2) &&& 0x3f).toInt64)) + (u1.toInt64)))) + (FP.d2l r)) / (2 : Int64))) r) .l) = (0 : Int32))
    (hr : Steps p.tables e below (T.setTop (mkF m 192 #[.val (.int u0), .val (.int u1), .val (.int u2), .val (.int (u2 &&& (3 : Int32))), .val (.int (shE u2)), .val (.int sw), .val (.long ((1 : Int64) <<< ((shE u2) &&& 0x3f).toInt64)), .second, .val (.double (FP.dmul (FP.i2d u0) (FP.l2d ((1 : Int64) <<< ((shE u2) &&& 0x3f).toInt64)))), .second, .val (.double (FP.i2d u1)), .second, .val (.long (((u0.toInt64) * ((1 : Int64) <<< ((shE u2) &&& 0x3f).toInt64)) + (u1.toInt64))), .second, .val (.double r), .second, .val (.long (FP.d2l r)), .second, .val (.double (FP.l2d (((u0.toInt64) * ((1 : Int64) <<< ((shE u2) &&& 0x3f).toInt64)) + (u1.toInt64)))), .second, .val (.long (FP.d2l (FP.l2d (((u0.toInt64) * ((1 : Int64) <<< ((shE u2) &&& 0x3f).toInt64)) + (u1.toInt64))))), .second, .val (.double (FP.l2d (((FP.d2l (FP.l2d (((u0.toInt64) * ((1 : Int64) <<< ((shE u2) &&& 0x3f).toInt64)) + (u1.toInt64)))) + (FP.d2l r)) / (2 : Int64)))), .second] [(.int (1 : Int32))])) target) : Steps p.tables e below (T.setTop (mkF m 99 #[.val (.int u0), .val (.int u1), .val (.int u2), .val (.int (u2 &&& (3 : Int32))), .val (.int (shE u2)), .val (.int sw), .val (.long ((1 : Int64) <<< ((shE u2) &&& 0x3f).toInt64)), .second, .val (.double (FP.dmul (FP.i2d u0) (FP.l2d ((1 : Int64) <<< ((shE u2) &&& 0x3f).toInt64)))), .second, .val (.double (FP.i2d u1)), .second, .val (.long (((u0.toInt64) * ((1 : Int64) <<< ((shE u2) &&& 0x3f).toInt64)) + (u1.toInt64))), .second, .unset, .unset, .unset, .unset, .unset, .unset, .unset, .unset, .unset, .unset] [(.double r)])) target := by
  show Steps p.tables e below (T.setTop (mkF m 99 #[.val (.int u0), .val (.int u1), .val (.int u2), .val (.int (u2 &&& (3 : Int32))), .val (.int (shE u2)), .val (.int sw), .val (.long ((1 : Int64) <<< ((shE u2) &&& 0x3f).toInt64)), .second, .val (.double (FP.dmul (FP.i2d u0) (FP.l2d ((1 : Int64) <<< ((shE u2) &&& 0x3f).toInt64)))), .second, .val (.double (FP.i2d u1)), .second, .val (.long (((u0.toInt64) * ((1 : Int64) <<< ((shE u2) &&& 0x3f).toInt64)) + (u1.toInt64))), .second, .unset, .unset, .unset, .unset, .unset, .unset, .unset, .unset, .unset, .unset] [(.double r)])) _
  refine XS.dstore X.here hx rfl (hb hby at_99) rfl (l' := #[.val (.int u0), .val (.int u1), .val (.int u2), .val (.int (u2 &&& (3 : Int32))), .val (.int (shE u2)), .val (.int sw), .val (.long ((1 : Int64) <<< ((shE u2) &&& 0x3f).toInt64)), .second, .val (.double (FP.dmul (FP.i2d u0) (FP.l2d ((1 : Int64) <<< ((shE u2) &&& 0x3f).toInt64)))), .second, .val (.double (FP.i2d u1)), .second, .val (.long (((u0.toInt64) * ((1 : Int64) <<< ((shE u2) &&& 0x3f).toInt64)) + (u1.toInt64))), .second, .val (.double r), .second, .unset, .unset, .unset, .unset, .unset, .unset, .unset, .unset]) rfl ?_
  show Steps p.tables e below (T.setTop (mkF m 101 #[.val (.int u0), .val (.int u1), .val (.int u2), .val (.int (u2 &&& (3 : Int32))), .val (.int (shE u2)), .val (.int sw), .val (.long ((1 : Int64) <<< ((shE u2) &&& 0x3f).toInt64)), .second, .val (.double (FP.dmul (FP.i2d u0) (FP.l2d ((1 : Int64) <<< ((shE u2) &&& 0x3f).toInt64)))), .second, .val (.double (FP.i2d u1)), .second, .val (.long (((u0.toInt64) * ((1 : Int64) <<< ((shE u2) &&& 0x3f).toInt64)) + (u1.toInt64))), .second, .val (.double r), .second, .unset, .unset, .unset, .unset, .unset, .unset, .unset, .unset] [])) _
  refine XS.dload X.here hx rfl (hb hby at_101) rfl ?_
  show Steps p.tables e below (T.setTop (mkF m 103 #[.val (.int u0), .val (.int u1), .val (.int u2), .val (.int (u2 &&& (3 : Int32))), .val (.int (shE u2)), .val (.int sw), .val (.long ((1 : Int64) <<< ((shE u2) &&& 0x3f).toInt64)), .second, .val (.double (FP.dmul (FP.i2d u0) (FP.l2d ((1 : Int64) <<< ((shE u2) &&& 0x3f).toInt64)))), .second, .val (.double (FP.i2d u1)), .second, .val (.long (((u0.toInt64) * ((1 : Int64) <<< ((shE u2) &&& 0x3f).toInt64)) + (u1.toInt64))), .second, .val (.double r), .second, .unset, .unset, .unset, .unset, .unset, .unset, .unset, .unset] [(.double r)])) _
  refine XS.d2lS X.here hx rfl (hb hby at_103) rfl (v := (FP.d2l r)) rfl ?_
  show Steps p.tables e below (T.setTop (mkF m 104 #[.val (.int u0), .val (.int u1), .val (.int u2), .val (.int (u2 &&& (3 : Int32))), .val (.int (shE u2)), .val (.int sw), .val (.long ((1 : Int64) <<< ((shE u2) &&& 0x3f).toInt64)), .second, .val (.double (FP.dmul (FP.i2d u0) (FP.l2d ((1 : Int64) <<< ((shE u2) &&& 0x3f).toInt64)))), .second, .val (.double (FP.i2d u1)), .second, .val (.long (((u0.toInt64) * ((1 : Int64) <<< ((shE u2) &&& 0x3f).toInt64)) + (u1.toInt64))), .second, .val (.double r), .second, .unset, .unset, .unset, .unset, .unset, .unset, .unset, .unset] [(.long (FP.d2l r))])) _
  refine XS.lstore X.here hx rfl (hb hby at_104) rfl (l' := #[.val (.int u0), .val (.int u1), .val (.int u2), .val (.int (u2 &&& (3 : Int32))), .val (.int (shE u2)), .val (.int sw), .val (.long ((1 : Int64) <<< ((shE u2) &&& 0x3f).toInt64)), .second, .val (.double (FP.dmul (FP.i2d u0) (FP.l2d ((1 : Int64) <<< ((shE u2) &&& 0x3f).toInt64)))), .second, .val (.double (FP.i2d u1)), .second, .val (.long (((u0.toInt64) * ((1 : Int64) <<< ((shE u2) &&& 0x3f).toInt64)) + (u1.toInt64))), .second, .val (.double r), .second, .val (.long (FP.d2l r)), .second, .unset, .unset, .unset, .unset, .unset, .unset]) rfl ?_
  show Steps p.tables e below (T.setTop (mkF m 106 #[.val (.int u0), .val (.int u1), .val (.int u2), .val (.int (u2 &&& (3 : Int32))), .val (.int (shE u2)), .val (.int sw), .val (.long ((1 : Int64) <<< ((shE u2) &&& 0x3f).toInt64)), .second, .val (.double (FP.dmul (FP.i2d u0) (FP.l2d ((1 : Int64) <<< ((shE u2) &&& 0x3f).toInt64)))), .second, .val (.double (FP.i2d u1)), .second, .val (.long (((u0.toInt64) * ((1 : Int64) <<< ((shE u2) &&& 0x3f).toInt64)) + (u1.toInt64))), .second, .val (.double r), .second, .val (.long (FP.d2l r)), .second, .unset, .unset, .unset, .unset, .unset, .unset] [])) _
  refine XS.lload X.here hx rfl (hb hby at_106) rfl ?_
  show Steps p.tables e below (T.setTop (mkF m 108 #[.val (.int u0), .val (.int u1), .val (.int u2), .val (.int (u2 &&& (3 : Int32))), .val (.int (shE u2)), .val (.int sw), .val (.long ((1 : Int64) <<< ((shE u2) &&& 0x3f).toInt64)), .second, .val (.double (FP.dmul (FP.i2d u0) (FP.l2d ((1 : Int64) <<< ((shE u2) &&& 0x3f).toInt64)))), .second, .val (.double (FP.i2d u1)), .second, .val (.long (((u0.toInt64) * ((1 : Int64) <<< ((shE u2) &&& 0x3f).toInt64)) + (u1.toInt64))), .second, .val (.double r), .second, .val (.long (FP.d2l r)), .second, .unset, .unset, .unset, .unset, .unset, .unset] [(.long (FP.d2l r))])) _
  refine XS.l2dS X.here hx rfl (hb hby at_108) rfl (v := (FP.l2d (FP.d2l r))) rfl ?_
  show Steps p.tables e below (T.setTop (mkF m 109 #[.val (.int u0), .val (.int u1), .val (.int u2), .val (.int (u2 &&& (3 : Int32))), .val (.int (shE u2)), .val (.int sw), .val (.long ((1 : Int64) <<< ((shE u2) &&& 0x3f).toInt64)), .second, .val (.double (FP.dmul (FP.i2d u0) (FP.l2d ((1 : Int64) <<< ((shE u2) &&& 0x3f).toInt64)))), .second, .val (.double (FP.i2d u1)), .second, .val (.long (((u0.toInt64) * ((1 : Int64) <<< ((shE u2) &&& 0x3f).toInt64)) + (u1.toInt64))), .second, .val (.double r), .second, .val (.long (FP.d2l r)), .second, .unset, .unset, .unset, .unset, .unset, .unset] [(.double (FP.l2d (FP.d2l r)))])) _
  refine XS.dload X.here hx rfl (hb hby at_109) rfl ?_
  show Steps p.tables e below (T.setTop (mkF m 111 #[.val (.int u0), .val (.int u1), .val (.int u2), .val (.int (u2 &&& (3 : Int32))), .val (.int (shE u2)), .val (.int sw), .val (.long ((1 : Int64) <<< ((shE u2) &&& 0x3f).toInt64)), .second, .val (.double (FP.dmul (FP.i2d u0) (FP.l2d ((1 : Int64) <<< ((shE u2) &&& 0x3f).toInt64)))), .second, .val (.double (FP.i2d u1)), .second, .val (.long (((u0.toInt64) * ((1 : Int64) <<< ((shE u2) &&& 0x3f).toInt64)) + (u1.toInt64))), .second, .val (.double r), .second, .val (.long (FP.d2l r)), .second, .unset, .unset, .unset, .unset, .unset, .unset] [(.double r), (.double (FP.l2d (FP.d2l r)))])) _
  refine XS.dcmpS X.here hx rfl (hb hby at_111) rfl (v := (cmpValue (FP.dcmp (FP.l2d (FP.d2l r)) r) .l)) rfl ?_
  show Steps p.tables e below (T.setTop (mkF m 112 #[.val (.int u0), .val (.int u1), .val (.int u2), .val (.int (u2 &&& (3 : Int32))), .val (.int (shE u2)), .val (.int sw), .val (.long ((1 : Int64) <<< ((shE u2) &&& 0x3f).toInt64)), .second, .val (.double (FP.dmul (FP.i2d u0) (FP.l2d ((1 : Int64) <<< ((shE u2) &&& 0x3f).toInt64)))), .second, .val (.double (FP.i2d u1)), .second, .val (.long (((u0.toInt64) * ((1 : Int64) <<< ((shE u2) &&& 0x3f).toInt64)) + (u1.toInt64))), .second, .val (.double r), .second, .val (.long (FP.d2l r)), .second, .unset, .unset, .unset, .unset, .unset, .unset] [(.int (cmpValue (FP.dcmp (FP.l2d (FP.d2l r)) r) .l))])) _
  refine XS.ifYes X.here hx rfl (pc0 := 112) (pc' := 117) rfl (hb hby at_112) rfl ((if0 _ _).trans (teq hc112).1) (by decide) (by decide) ?_
  show Steps p.tables e below (T.setTop (mkF m 117 #[.val (.int u0), .val (.int u1), .val (.int u2), .val (.int (u2 &&& (3 : Int32))), .val (.int (shE u2)), .val (.int sw), .val (.long ((1 : Int64) <<< ((shE u2) &&& 0x3f).toInt64)), .second, .val (.double (FP.dmul (FP.i2d u0) (FP.l2d ((1 : Int64) <<< ((shE u2) &&& 0x3f).toInt64)))), .second, .val (.double (FP.i2d u1)), .second, .val (.long (((u0.toInt64) * ((1 : Int64) <<< ((shE u2) &&& 0x3f).toInt64)) + (u1.toInt64))), .second, .val (.double r), .second, .val (.long (FP.d2l r)), .second, .unset, .unset, .unset, .unset, .unset, .unset] [])) _
  refine XS.lload X.here hx rfl (hb hby at_117) rfl ?_
  show Steps p.tables e below (T.setTop (mkF m 119 #[.val (.int u0), .val (.int u1), .val (.int u2), .val (.int (u2 &&& (3 : Int32))), .val (.int (shE u2)), .val (.int sw), .val (.long ((1 : Int64) <<< ((shE u2) &&& 0x3f).toInt64)), .second, .val (.double (FP.dmul (FP.i2d u0) (FP.l2d ((1 : Int64) <<< ((shE u2) &&& 0x3f).toInt64)))), .second, .val (.double (FP.i2d u1)), .second, .val (.long (((u0.toInt64) * ((1 : Int64) <<< ((shE u2) &&& 0x3f).toInt64)) + (u1.toInt64))), .second, .val (.double r), .second, .val (.long (FP.d2l r)), .second, .unset, .unset, .unset, .unset, .unset, .unset] [(.long (((u0.toInt64) * ((1 : Int64) <<< ((shE u2) &&& 0x3f).toInt64)) + (u1.toInt64)))])) _
  refine XS.l2dS X.here hx rfl (hb hby at_119) rfl (v := (FP.l2d (((u0.toInt64) * ((1 : Int64) <<< ((shE u2) &&& 0x3f).toInt64)) + (u1.toInt64)))) rfl ?_
  show Steps p.tables e below (T.setTop (mkF m 120 #[.val (.int u0), .val (.int u1), .val (.int u2), .val (.int (u2 &&& (3 : Int32))), .val (.int (shE u2)), .val (.int sw), .val (.long ((1 : Int64) <<< ((shE u2) &&& 0x3f).toInt64)), .second, .val (.double (FP.dmul (FP.i2d u0) (FP.l2d ((1 : Int64) <<< ((shE u2) &&& 0x3f).toInt64)))), .second, .val (.double (FP.i2d u1)), .second, .val (.long (((u0.toInt64) * ((1 : Int64) <<< ((shE u2) &&& 0x3f).toInt64)) + (u1.toInt64))), .second, .val (.double r), .second, .val (.long (FP.d2l r)), .second, .unset, .unset, .unset, .unset, .unset, .unset] [(.double (FP.l2d (((u0.toInt64) * ((1 : Int64) <<< ((shE u2) &&& 0x3f).toInt64)) + (u1.toInt64))))])) _
  refine XS.dstore X.here hx rfl (hb hby at_120) rfl (l' := #[.val (.int u0), .val (.int u1), .val (.int u2), .val (.int (u2 &&& (3 : Int32))), .val (.int (shE u2)), .val (.int sw), .val (.long ((1 : Int64) <<< ((shE u2) &&& 0x3f).toInt64)), .second, .val (.double (FP.dmul (FP.i2d u0) (FP.l2d ((1 : Int64) <<< ((shE u2) &&& 0x3f).toInt64)))), .second, .val (.double (FP.i2d u1)), .second, .val (.long (((u0.toInt64) * ((1 : Int64) <<< ((shE u2) &&& 0x3f).toInt64)) + (u1.toInt64))), .second, .val (.double r), .second, .val (.long (FP.d2l r)), .second, .val (.double (FP.l2d (((u0.toInt64) * ((1 : Int64) <<< ((shE u2) &&& 0x3f).toInt64)) + (u1.toInt64)))), .second, .unset, .unset, .unset, .unset]) rfl ?_
  show Steps p.tables e below (T.setTop (mkF m 122 #[.val (.int u0), .val (.int u1), .val (.int u2), .val (.int (u2 &&& (3 : Int32))), .val (.int (shE u2)), .val (.int sw), .val (.long ((1 : Int64) <<< ((shE u2) &&& 0x3f).toInt64)), .second, .val (.double (FP.dmul (FP.i2d u0) (FP.l2d ((1 : Int64) <<< ((shE u2) &&& 0x3f).toInt64)))), .second, .val (.double (FP.i2d u1)), .second, .val (.long (((u0.toInt64) * ((1 : Int64) <<< ((shE u2) &&& 0x3f).toInt64)) + (u1.toInt64))), .second, .val (.double r), .second, .val (.long (FP.d2l r)), .second, .val (.double (FP.l2d (((u0.toInt64) * ((1 : Int64) <<< ((shE u2) &&& 0x3f).toInt64)) + (u1.toInt64)))), .second, .unset, .unset, .unset, .unset] [])) _
  refine XS.dload X.here hx rfl (hb hby at_122) rfl ?_
  show Steps p.tables e below (T.setTop (mkF m 124 #[.val (.int u0), .val (.int u1), .val (.int u2), .val (.int (u2 &&& (3 : Int32))), .val (.int (shE u2)), .val (.int sw), .val (.long ((1 : Int64) <<< ((shE u2) &&& 0x3f).toInt64)), .second, .val (.double (FP.dmul (FP.i2d u0) (FP.l2d ((1 : Int64) <<< ((shE u2) &&& 0x3f).toInt64)))), .second, .val (.double (FP.i2d u1)), .second, .val (.long (((u0.toInt64) * ((1 : Int64) <<< ((shE u2) &&& 0x3f).toInt64)) + (u1.toInt64))), .second, .val (.double r), .second, .val (.long (FP.d2l r)), .second, .val (.double (FP.l2d (((u0.toInt64) * ((1 : Int64) <<< ((shE u2) &&& 0x3f).toInt64)) + (u1.toInt64)))), .second, .unset, .unset, .unset, .unset] [(.double (FP.l2d (((u0.toInt64) * ((1 : Int64) <<< ((shE u2) &&& 0x3f).toInt64)) + (u1.toInt64))))])) _
  refine XS.d2lS X.here hx rfl (hb hby at_124) rfl (v := (FP.d2l (FP.l2d (((u0.toInt64) * ((1 : Int64) <<< ((shE u2) &&& 0x3f).toInt64)) + (u1.toInt64))))) rfl ?_
  show Steps p.tables e below (T.setTop (mkF m 125 #[.val (.int u0), .val (.int u1), .val (.int u2), .val (.int (u2 &&& (3 : Int32))), .val (.int (shE u2)), .val (.int sw), .val (.long ((1 : Int64) <<< ((shE u2) &&& 0x3f).toInt64)), .second, .val (.double (FP.dmul (FP.i2d u0) (FP.l2d ((1 : Int64) <<< ((shE u2) &&& 0x3f).toInt64)))), .second, .val (.double (FP.i2d u1)), .second, .val (.long (((u0.toInt64) * ((1 : Int64) <<< ((shE u2) &&& 0x3f).toInt64)) + (u1.toInt64))), .second, .val (.double r), .second, .val (.long (FP.d2l r)), .second, .val (.double (FP.l2d (((u0.toInt64) * ((1 : Int64) <<< ((shE u2) &&& 0x3f).toInt64)) + (u1.toInt64)))), .second, .unset, .unset, .unset, .unset] [(.long (FP.d2l (FP.l2d (((u0.toInt64) * ((1 : Int64) <<< ((shE u2) &&& 0x3f).toInt64)) + (u1.toInt64)))))])) _
  refine XS.lstore X.here hx rfl (hb hby at_125) rfl (l' := #[.val (.int u0), .val (.int u1), .val (.int u2), .val (.int (u2 &&& (3 : Int32))), .val (.int (shE u2)), .val (.int sw), .val (.long ((1 : Int64) <<< ((shE u2) &&& 0x3f).toInt64)), .second, .val (.double (FP.dmul (FP.i2d u0) (FP.l2d ((1 : Int64) <<< ((shE u2) &&& 0x3f).toInt64)))), .second, .val (.double (FP.i2d u1)), .second, .val (.long (((u0.toInt64) * ((1 : Int64) <<< ((shE u2) &&& 0x3f).toInt64)) + (u1.toInt64))), .second, .val (.double r), .second, .val (.long (FP.d2l r)), .second, .val (.double (FP.l2d (((u0.toInt64) * ((1 : Int64) <<< ((shE u2) &&& 0x3f).toInt64)) + (u1.toInt64)))), .second, .val (.long (FP.d2l (FP.l2d (((u0.toInt64) * ((1 : Int64) <<< ((shE u2) &&& 0x3f).toInt64)) + (u1.toInt64))))), .second, .unset, .unset]) rfl ?_
  show Steps p.tables e below (T.setTop (mkF m 127 #[.val (.int u0), .val (.int u1), .val (.int u2), .val (.int (u2 &&& (3 : Int32))), .val (.int (shE u2)), .val (.int sw), .val (.long ((1 : Int64) <<< ((shE u2) &&& 0x3f).toInt64)), .second, .val (.double (FP.dmul (FP.i2d u0) (FP.l2d ((1 : Int64) <<< ((shE u2) &&& 0x3f).toInt64)))), .second, .val (.double (FP.i2d u1)), .second, .val (.long (((u0.toInt64) * ((1 : Int64) <<< ((shE u2) &&& 0x3f).toInt64)) + (u1.toInt64))), .second, .val (.double r), .second, .val (.long (FP.d2l r)), .second, .val (.double (FP.l2d (((u0.toInt64) * ((1 : Int64) <<< ((shE u2) &&& 0x3f).toInt64)) + (u1.toInt64)))), .second, .val (.long (FP.d2l (FP.l2d (((u0.toInt64) * ((1 : Int64) <<< ((shE u2) &&& 0x3f).toInt64)) + (u1.toInt64))))), .second, .unset, .unset] [])) _
  refine XS.lload X.here hx rfl (hb hby at_127) rfl ?_
  show Steps p.tables e below (T.setTop (mkF m 129 #[.val (.int u0), .val (.int u1), .val (.int u2), .val (.int (u2 &&& (3 : Int32))), .val (.int (shE u2)), .val (.int sw), .val (.long ((1 : Int64) <<< ((shE u2) &&& 0x3f).toInt64)), .second, .val (.double (FP.dmul (FP.i2d u0) (FP.l2d ((1 : Int64) <<< ((shE u2) &&& 0x3f).toInt64)))), .second, .val (.double (FP.i2d u1)), .second, .val (.long (((u0.toInt64) * ((1 : Int64) <<< ((shE u2) &&& 0x3f).toInt64)) + (u1.toInt64))), .second, .val (.double r), .second, .val (.long (FP.d2l r)), .second, .val (.double (FP.l2d (((u0.toInt64) * ((1 : Int64) <<< ((shE u2) &&& 0x3f).toInt64)) + (u1.toInt64)))), .second, .val (.long (FP.d2l (FP.l2d (((u0.toInt64) * ((1 : Int64) <<< ((shE u2) &&& 0x3f).toInt64)) + (u1.toInt64))))), .second, .unset, .unset] [(.long (FP.d2l (FP.l2d (((u0.toInt64) * ((1 : Int64) <<< ((shE u2) &&& 0x3f).toInt64)) + (u1.toInt64)))))])) _
  refine XS.lload X.here hx rfl (hb hby at_129) rfl ?_
  show Steps p.tables e below (T.setTop (mkF m 131 #[.val (.int u0), .val (.int u1), .val (.int u2), .val (.int (u2 &&& (3 : Int32))), .val (.int (shE u2)), .val (.int sw), .val (.long ((1 : Int64) <<< ((shE u2) &&& 0x3f).toInt64)), .second, .val (.double (FP.dmul (FP.i2d u0) (FP.l2d ((1 : Int64) <<< ((shE u2) &&& 0x3f).toInt64)))), .second, .val (.double (FP.i2d u1)), .second, .val (.long (((u0.toInt64) * ((1 : Int64) <<< ((shE u2) &&& 0x3f).toInt64)) + (u1.toInt64))), .second, .val (.double r), .second, .val (.long (FP.d2l r)), .second, .val (.double (FP.l2d (((u0.toInt64) * ((1 : Int64) <<< ((shE u2) &&& 0x3f).toInt64)) + (u1.toInt64)))), .second, .val (.long (FP.d2l (FP.l2d (((u0.toInt64) * ((1 : Int64) <<< ((shE u2) &&& 0x3f).toInt64)) + (u1.toInt64))))), .second, .unset, .unset] [(.long (((u0.toInt64) * ((1 : Int64) <<< ((shE u2) &&& 0x3f).toInt64)) + (u1.toInt64))), (.long (FP.d2l (FP.l2d (((u0.toInt64) * ((1 : Int64) <<< ((shE u2) &&& 0x3f).toInt64)) + (u1.toInt64)))))])) _
  refine XS.lcmp X.here hx rfl (hb hby at_131) rfl ?_
  show Steps p.tables e below (T.setTop (mkF m 132 #[.val (.int u0), .val (.int u1), .val (.int u2), .val (.int (u2 &&& (3 : Int32))), .val (.int (shE u2)), .val (.int sw), .val (.long ((1 : Int64) <<< ((shE u2) &&& 0x3f).toInt64)), .second, .val (.double (FP.dmul (FP.i2d u0) (FP.l2d ((1 : Int64) <<< ((shE u2) &&& 0x3f).toInt64)))), .second, .val (.double (FP.i2d u1)), .second, .val (.long (((u0.toInt64) * ((1 : Int64) <<< ((shE u2) &&& 0x3f).toInt64)) + (u1.toInt64))), .second, .val (.double r), .second, .val (.long (FP.d2l r)), .second, .val (.double (FP.l2d (((u0.toInt64) * ((1 : Int64) <<< ((shE u2) &&& 0x3f).toInt64)) + (u1.toInt64)))), .second, .val (.long (FP.d2l (FP.l2d (((u0.toInt64) * ((1 : Int64) <<< ((shE u2) &&& 0x3f).toInt64)) + (u1.toInt64))))), .second, .unset, .unset] [(.int (lcmpW (FP.d2l (FP.l2d (((u0.toInt64) * ((1 : Int64) <<< ((shE u2) &&& 0x3f).toInt64)) + (u1.toInt64)))) (((u0.toInt64) * ((1 : Int64) <<< ((shE u2) &&& 0x3f).toInt64)) + (u1.toInt64))))])) _
  refine XS.ifYes X.here hx rfl (pc0 := 132) (pc' := 149) rfl (hb hby at_132) rfl ((if0 _ _).trans (tlt hc132).1) (by decide) (by decide) ?_
  show Steps p.tables e below (T.setTop (mkF m 149 #[.val (.int u0), .val (.int u1), .val (.int u2), .val (.int (u2 &&& (3 : Int32))), .val (.int (shE u2)), .val (.int sw), .val (.long ((1 : Int64) <<< ((shE u2) &&& 0x3f).toInt64)), .second, .val (.double (FP.dmul (FP.i2d u0) (FP.l2d ((1 : Int64) <<< ((shE u2) &&& 0x3f).toInt64)))), .second, .val (.double (FP.i2d u1)), .second, .val (.long (((u0.toInt64) * ((1 : Int64) <<< ((shE u2) &&& 0x3f).toInt64)) + (u1.toInt64))), .second, .val (.double r), .second, .val (.long (FP.d2l r)), .second, .val (.double (FP.l2d (((u0.toInt64) * ((1 : Int64) <<< ((shE u2) &&& 0x3f).toInt64)) + (u1.toInt64)))), .second, .val (.long (FP.d2l (FP.l2d (((u0.toInt64) * ((1 : Int64) <<< ((shE u2) &&& 0x3f).toInt64)) + (u1.toInt64))))), .second, .unset, .unset] [])) _
  refine XS.lload X.here hx rfl (hb hby at_149) rfl ?_
  show Steps p.tables e below (T.setTop (mkF m 151 #[.val (.int u0), .val (.int u1), .val (.int u2), .val (.int (u2 &&& (3 : Int32))), .val (.int (shE u2)), .val (.int sw), .val (.long ((1 : Int64) <<< ((shE u2) &&& 0x3f).toInt64)), .second, .val (.double (FP.dmul (FP.i2d u0) (FP.l2d ((1 : Int64) <<< ((shE u2) &&& 0x3f).toInt64)))), .second, .val (.double (FP.i2d u1)), .second, .val (.long (((u0.toInt64) * ((1 : Int64) <<< ((shE u2) &&& 0x3f).toInt64)) + (u1.toInt64))), .second, .val (.double r), .second, .val (.long (FP.d2l r)), .second, .val (.double (FP.l2d (((u0.toInt64) * ((1 : Int64) <<< ((shE u2) &&& 0x3f).toInt64)) + (u1.toInt64)))), .second, .val (.long (FP.d2l (FP.l2d (((u0.toInt64) * ((1 : Int64) <<< ((shE u2) &&& 0x3f).toInt64)) + (u1.toInt64))))), .second, .unset, .unset] [(.long (FP.d2l r))])) _
  refine XS.lload X.here hx rfl (hb hby at_151) rfl ?_
  show Steps p.tables e below (T.setTop (mkF m 153 #[.val (.int u0), .val (.int u1), .val (.int u2), .val (.int (u2 &&& (3 : Int32))), .val (.int (shE u2)), .val (.int sw), .val (.long ((1 : Int64) <<< ((shE u2) &&& 0x3f).toInt64)), .second, .val (.double (FP.dmul (FP.i2d u0) (FP.l2d ((1 : Int64) <<< ((shE u2) &&& 0x3f).toInt64)))), .second, .val (.double (FP.i2d u1)), .second, .val (.long (((u0.toInt64) * ((1 : Int64) <<< ((shE u2) &&& 0x3f).toInt64)) + (u1.toInt64))), .second, .val (.double r), .second, .val (.long (FP.d2l r)), .second, .val (.double (FP.l2d (((u0.toInt64) * ((1 : Int64) <<< ((shE u2) &&& 0x3f).toInt64)) + (u1.toInt64)))), .second, .val (.long (FP.d2l (FP.l2d (((u0.toInt64) * ((1 : Int64) <<< ((shE u2) &&& 0x3f).toInt64)) + (u1.toInt64))))), .second, .unset, .unset] [(.long (((u0.toInt64) * ((1 : Int64) <<< ((shE u2) &&& 0x3f).toInt64)) + (u1.toInt64))), (.long (FP.d2l r))])) _
  refine XS.lcmp X.here hx rfl (hb hby at_153) rfl ?_
  show Steps p.tables e below (T.setTop (mkF m 154 #[.val (.int u0), .val (.int u1), .val (.int u2), .val (.int (u2 &&& (3 : Int32))), .val (.int (shE u2)), .val (.int sw), .val (.long ((1 : Int64) <<< ((shE u2) &&& 0x3f).toInt64)), .second, .val (.double (FP.dmul (FP.i2d u0) (FP.l2d ((1 : Int64) <<< ((shE u2) &&& 0x3f).toInt64)))), .second, .val (.double (FP.i2d u1)), .second, .val (.long (((u0.toInt64) * ((1 : Int64) <<< ((shE u2) &&& 0x3f).toInt64)) + (u1.toInt64))), .second, .val (.double r), .second, .val (.long (FP.d2l r)), .second, .val (.double (FP.l2d (((u0.toInt64) * ((1 : Int64) <<< ((shE u2) &&& 0x3f).toInt64)) + (u1.toInt64)))), .second, .val (.long (FP.d2l (FP.l2d (((u0.toInt64) * ((1 : Int64) <<< ((shE u2) &&& 0x3f).toInt64)) + (u1.toInt64))))), .second, .unset, .unset] [(.int (lcmpW (FP.d2l r) (((u0.toInt64) * ((1 : Int64) <<< ((shE u2) &&& 0x3f).toInt64)) + (u1.toInt64))))])) _
  refine XS.ifYes X.here hx rfl (pc0 := 154) (pc' := 159) rfl (hb hby at_154) rfl ((if0 _ _).trans (tlt hc154).2.2.1) (by decide) (by decide) ?_
  show Steps p.tables e below (T.setTop (mkF m 159 #[.val (.int u0), .val (.int u1), .val (.int u2), .val (.int (u2 &&& (3 : Int32))), .val (.int (shE u2)), .val (.int sw), .val (.long ((1 : Int64) <<< ((shE u2) &&& 0x3f).toInt64)), .second, .val (.double (FP.dmul (FP.i2d u0) (FP.l2d ((1 : Int64) <<< ((shE u2) &&& 0x3f).toInt64)))), .second, .val (.double (FP.i2d u1)), .second, .val (.long (((u0.toInt64) * ((1 : Int64) <<< ((shE u2) &&& 0x3f).toInt64)) + (u1.toInt64))), .second, .val (.double r), .second, .val (.long (FP.d2l r)), .second, .val (.double (FP.l2d (((u0.toInt64) * ((1 : Int64) <<< ((shE u2) &&& 0x3f).toInt64)) + (u1.toInt64)))), .second, .val (.long (FP.d2l (FP.l2d (((u0.toInt64) * ((1 : Int64) <<< ((shE u2) &&& 0x3f).toInt64)) + (u1.toInt64))))), .second, .unset, .unset] [])) _
  refine XS.lload X.here hx rfl (hb hby at_159) rfl ?_
  show Steps p.tables e below (T.setTop (mkF m 161 #[.val (.int u0), .val (.int u1), .val (.int u2), .val (.int (u2 &&& (3 : Int32))), .val (.int (shE u2)), .val (.int sw), .val (.long ((1 : Int64) <<< ((shE u2) &&& 0x3f).toInt64)), .second, .val (.double (FP.dmul (FP.i2d u0) (FP.l2d ((1 : Int64) <<< ((shE u2) &&& 0x3f).toInt64)))), .second, .val (.double (FP.i2d u1)), .second, .val (.long (((u0.toInt64) * ((1 : Int64) <<< ((shE u2) &&& 0x3f).toInt64)) + (u1.toInt64))), .second, .val (.double r), .second, .val (.long (FP.d2l r)), .second, .val (.double (FP.l2d (((u0.toInt64) * ((1 : Int64) <<< ((shE u2) &&& 0x3f).toInt64)) + (u1.toInt64)))), .second, .val (.long (FP.d2l (FP.l2d (((u0.toInt64) * ((1 : Int64) <<< ((shE u2) &&& 0x3f).toInt64)) + (u1.toInt64))))), .second, .unset, .unset] [(.long (FP.d2l (FP.l2d (((u0.toInt64) * ((1 : Int64) <<< ((shE u2) &&& 0x3f).toInt64)) + (u1.toInt64)))))])) _
  refine XS.lload X.here hx rfl (hb hby at_161) rfl ?_
  show Steps p.tables e below (T.setTop (mkF m 163 #[.val (.int u0), .val (.int u1), .val (.int u2), .val (.int (u2 &&& (3 : Int32))), .val (.int (shE u2)), .val (.int sw), .val (.long ((1 : Int64) <<< ((shE u2) &&& 0x3f).toInt64)), .second, .val (.double (FP.dmul (FP.i2d u0) (FP.l2d ((1 : Int64) <<< ((shE u2) &&& 0x3f).toInt64)))), .second, .val (.double (FP.i2d u1)), .second, .val (.long (((u0.toInt64) * ((1 : Int64) <<< ((shE u2) &&& 0x3f).toInt64)) + (u1.toInt64))), .second, .val (.double r), .second, .val (.long (FP.d2l r)), .second, .val (.double (FP.l2d (((u0.toInt64) * ((1 : Int64) <<< ((shE u2) &&& 0x3f).toInt64)) + (u1.toInt64)))), .second, .val (.long (FP.d2l (FP.l2d (((u0.toInt64) * ((1 : Int64) <<< ((shE u2) &&& 0x3f).toInt64)) + (u1.toInt64))))), .second, .unset, .unset] [(.long (FP.d2l r)), (.long (FP.d2l (FP.l2d (((u0.toInt64) * ((1 : Int64) <<< ((shE u2) &&& 0x3f).toInt64)) + (u1.toInt64)))))])) _
  refine XS.ladd X.here hx rfl (hb hby at_163) rfl ?_
  show Steps p.tables e below (T.setTop (mkF m 164 #[.val (.int u0), .val (.int u1), .val (.int u2), .val (.int (u2 &&& (3 : Int32))), .val (.int (shE u2)), .val (.int sw), .val (.long ((1 : Int64) <<< ((shE u2) &&& 0x3f).toInt64)), .second, .val (.double (FP.dmul (FP.i2d u0) (FP.l2d ((1 : Int64) <<< ((shE u2) &&& 0x3f).toInt64)))), .second, .val (.double (FP.i2d u1)), .second, .val (.long (((u0.toInt64) * ((1 : Int64) <<< ((shE u2) &&& 0x3f).toInt64)) + (u1.toInt64))), .second, .val (.double r), .second, .val (.long (FP.d2l r)), .second, .val (.double (FP.l2d (((u0.toInt64) * ((1 : Int64) <<< ((shE u2) &&& 0x3f).toInt64)) + (u1.toInt64)))), .second, .val (.long (FP.d2l (FP.l2d (((u0.toInt64) * ((1 : Int64) <<< ((shE u2) &&& 0x3f).toInt64)) + (u1.toInt64))))), .second, .unset, .unset] [(.long ((FP.d2l (FP.l2d (((u0.toInt64) * ((1 : Int64) <<< ((shE u2) &&& 0x3f).toInt64)) + (u1.toInt64)))) + (FP.d2l r)))])) _
  refine X.ldc2Long hx hown (mvT hZ (hw _ (List.mem_of_getElem? (i := 17) rfl))) (g := (mkF m 164 #[.val (.int u0), .val (.int u1), .val (.int u2), .val (.int (u2 &&& (3 : Int32))), .val (.int (shE u2)), .val (.int sw), .val (.long ((1 : Int64) <<< ((shE u2) &&& 0x3f).toInt64)), .second, .val (.double (FP.dmul (FP.i2d u0) (FP.l2d ((1 : Int64) <<< ((shE u2) &&& 0x3f).toInt64)))), .second, .val (.double (FP.i2d u1)), .second, .val (.long (((u0.toInt64) * ((1 : Int64) <<< ((shE u2) &&& 0x3f).toInt64)) + (u1.toInt64))), .second, .val (.double r), .second, .val (.long (FP.d2l r)), .second, .val (.double (FP.l2d (((u0.toInt64) * ((1 : Int64) <<< ((shE u2) &&& 0x3f).toInt64)) + (u1.toInt64)))), .second, .val (.long (FP.d2l (FP.l2d (((u0.toInt64) * ((1 : Int64) <<< ((shE u2) &&& 0x3f).toInt64)) + (u1.toInt64))))), .second, .unset, .unset] [(.long ((FP.d2l (FP.l2d (((u0.toInt64) * ((1 : Int64) <<< ((shE u2) &&& 0x3f).toInt64)) + (u1.toInt64)))) + (FP.d2l r)))])) rfl (hb hby at_164) _ ?_
  show Steps p.tables e below (T.setTop (mkF m 167 #[.val (.int u0), .val (.int u1), .val (.int u2), .val (.int (u2 &&& (3 : Int32))), .val (.int (shE u2)), .val (.int sw), .val (.long ((1 : Int64) <<< ((shE u2) &&& 0x3f).toInt64)), .second, .val (.double (FP.dmul (FP.i2d u0) (FP.l2d ((1 : Int64) <<< ((shE u2) &&& 0x3f).toInt64)))), .second, .val (.double (FP.i2d u1)), .second, .val (.long (((u0.toInt64) * ((1 : Int64) <<< ((shE u2) &&& 0x3f).toInt64)) + (u1.toInt64))), .second, .val (.double r), .second, .val (.long (FP.d2l r)), .second, .val (.double (FP.l2d (((u0.toInt64) * ((1 : Int64) <<< ((shE u2) &&& 0x3f).toInt64)) + (u1.toInt64)))), .second, .val (.long (FP.d2l (FP.l2d (((u0.toInt64) * ((1 : Int64) <<< ((shE u2) &&& 0x3f).toInt64)) + (u1.toInt64))))), .second, .unset, .unset] [(.long (2 : Int64)), (.long ((FP.d2l (FP.l2d (((u0.toInt64) * ((1 : Int64) <<< ((shE u2) &&& 0x3f).toInt64)) + (u1.toInt64)))) + (FP.d2l r)))])) _
  refine XS.ldiv X.here hx rfl (hb hby at_167) rfl (by decide) ?_
  show Steps p.tables e below (T.setTop (mkF m 168 #[.val (.int u0), .val (.int u1), .val (.int u2), .val (.int (u2 &&& (3 : Int32))), .val (.int (shE u2)), .val (.int sw), .val (.long ((1 : Int64) <<< ((shE u2) &&& 0x3f).toInt64)), .second, .val (.double (FP.dmul (FP.i2d u0) (FP.l2d ((1 : Int64) <<< ((shE u2) &&& 0x3f).toInt64)))), .second, .val (.double (FP.i2d u1)), .second, .val (.long (((u0.toInt64) * ((1 : Int64) <<< ((shE u2) &&& 0x3f).toInt64)) + (u1.toInt64))), .second, .val (.double r), .second, .val (.long (FP.d2l r)), .second, .val (.double (FP.l2d (((u0.toInt64) * ((1 : Int64) <<< ((shE u2) &&& 0x3f).toInt64)) + (u1.toInt64)))), .second, .val (.long (FP.d2l (FP.l2d (((u0.toInt64) * ((1 : Int64) <<< ((shE u2) &&& 0x3f).toInt64)) + (u1.toInt64))))), .second, .unset, .unset] [(.long (((FP.d2l (FP.l2d (((u0.toInt64) * ((1 : Int64) <<< ((shE u2) &&& 0x3f).toInt64)) + (u1.toInt64)))) + (FP.d2l r)) / (2 : Int64)))])) _
  refine XS.l2dS X.here hx rfl (hb hby at_168) rfl (v := (FP.l2d (((FP.d2l (FP.l2d (((u0.toInt64) * ((1 : Int64) <<< ((shE u2) &&& 0x3f).toInt64)) + (u1.toInt64)))) + (FP.d2l r)) / (2 : Int64)))) rfl ?_
  show Steps p.tables e below (T.setTop (mkF m 169 #[.val (.int u0), .val (.int u1), .val (.int u2), .val (.int (u2 &&& (3 : Int32))), .val (.int (shE u2)), .val (.int sw), .val (.long ((1 : Int64) <<< ((shE u2) &&& 0x3f).toInt64)), .second, .val (.double (FP.dmul (FP.i2d u0) (FP.l2d ((1 : Int64) <<< ((shE u2) &&& 0x3f).toInt64)))), .second, .val (.double (FP.i2d u1)), .second, .val (.long (((u0.toInt64) * ((1 : Int64) <<< ((shE u2) &&& 0x3f).toInt64)) + (u1.toInt64))), .second, .val (.double r), .second, .val (.long (FP.d2l r)), .second, .val (.double (FP.l2d (((u0.toInt64) * ((1 : Int64) <<< ((shE u2) &&& 0x3f).toInt64)) + (u1.toInt64)))), .second, .val (.long (FP.d2l (FP.l2d (((u0.toInt64) * ((1 : Int64) <<< ((shE u2) &&& 0x3f).toInt64)) + (u1.toInt64))))), .second, .unset, .unset] [(.double (FP.l2d (((FP.d2l (FP.l2d (((u0.toInt64) * ((1 : Int64) <<< ((shE u2) &&& 0x3f).toInt64)) + (u1.toInt64)))) + (FP.d2l r)) / (2 : Int64))))])) _
  refine XS.dstore X.here hx rfl (hb hby at_169) rfl (l' := #[.val (.int u0), .val (.int u1), .val (.int u2), .val (.int (u2 &&& (3 : Int32))), .val (.int (shE u2)), .val (.int sw), .val (.long ((1 : Int64) <<< ((shE u2) &&& 0x3f).toInt64)), .second, .val (.double (FP.dmul (FP.i2d u0) (FP.l2d ((1 : Int64) <<< ((shE u2) &&& 0x3f).toInt64)))), .second, .val (.double (FP.i2d u1)), .second, .val (.long (((u0.toInt64) * ((1 : Int64) <<< ((shE u2) &&& 0x3f).toInt64)) + (u1.toInt64))), .second, .val (.double r), .second, .val (.long (FP.d2l r)), .second, .val (.double (FP.l2d (((u0.toInt64) * ((1 : Int64) <<< ((shE u2) &&& 0x3f).toInt64)) + (u1.toInt64)))), .second, .val (.long (FP.d2l (FP.l2d (((u0.toInt64) * ((1 : Int64) <<< ((shE u2) &&& 0x3f).toInt64)) + (u1.toInt64))))), .second, .val (.double (FP.l2d (((FP.d2l (FP.l2d (((u0.toInt64) * ((1 : Int64) <<< ((shE u2) &&& 0x3f).toInt64)) + (u1.toInt64)))) + (FP.d2l r)) / (2 : Int64)))), .second]) rfl ?_
  show Steps p.tables e below (T.setTop (mkF m 171 #[.val (.int u0), .val (.int u1), .val (.int u2), .val (.int (u2 &&& (3 : Int32))), .val (.int (shE u2)), .val (.int sw), .val (.long ((1 : Int64) <<< ((shE u2) &&& 0x3f).toInt64)), .second, .val (.double (FP.dmul (FP.i2d u0) (FP.l2d ((1 : Int64) <<< ((shE u2) &&& 0x3f).toInt64)))), .second, .val (.double (FP.i2d u1)), .second, .val (.long (((u0.toInt64) * ((1 : Int64) <<< ((shE u2) &&& 0x3f).toInt64)) + (u1.toInt64))), .second, .val (.double r), .second, .val (.long (FP.d2l r)), .second, .val (.double (FP.l2d (((u0.toInt64) * ((1 : Int64) <<< ((shE u2) &&& 0x3f).toInt64)) + (u1.toInt64)))), .second, .val (.long (FP.d2l (FP.l2d (((u0.toInt64) * ((1 : Int64) <<< ((shE u2) &&& 0x3f).toInt64)) + (u1.toInt64))))), .second, .val (.double (FP.l2d (((FP.d2l (FP.l2d (((u0.toInt64) * ((1 : Int64) <<< ((shE u2) &&& 0x3f).toInt64)) + (u1.toInt64)))) + (FP.d2l r)) / (2 : Int64)))), .second] [])) _
  refine XS.dload X.here hx rfl (hb hby at_171) rfl ?_
  show Steps p.tables e below (T.setTop (mkF m 173 #[.val (.int u0), .val (.int u1), .val (.int u2), .val (.int (u2 &&& (3 : Int32))), .val (.int (shE u2)), .val (.int sw), .val (.long ((1 : Int64) <<< ((shE u2) &&& 0x3f).toInt64)), .second, .val (.double (FP.dmul (FP.i2d u0) (FP.l2d ((1 : Int64) <<< ((shE u2) &&& 0x3f).toInt64)))), .second, .val (.double (FP.i2d u1)), .second, .val (.long (((u0.toInt64) * ((1 : Int64) <<< ((shE u2) &&& 0x3f).toInt64)) + (u1.toInt64))), .second, .val (.double r), .second, .val (.long (FP.d2l r)), .second, .val (.double (FP.l2d (((u0.toInt64) * ((1 : Int64) <<< ((shE u2) &&& 0x3f).toInt64)) + (u1.toInt64)))), .second, .val (.long (FP.d2l (FP.l2d (((u0.toInt64) * ((1 : Int64) <<< ((shE u2) &&& 0x3f).toInt64)) + (u1.toInt64))))), .second, .val (.double (FP.l2d (((FP.d2l (FP.l2d (((u0.toInt64) * ((1 : Int64) <<< ((shE u2) &&& 0x3f).toInt64)) + (u1.toInt64)))) + (FP.d2l r)) / (2 : Int64)))), .second] [(.double (FP.l2d (((FP.d2l (FP.l2d (((u0.toInt64) * ((1 : Int64) <<< ((shE u2) &&& 0x3f).toInt64)) + (u1.toInt64)))) + (FP.d2l r)) / (2 : Int64))))])) _
  refine XS.dload X.here hx rfl (hb hby at_173) rfl ?_
  show Steps p.tables e below (T.setTop (mkF m 175 #[.val (.int u0), .val (.int u1), .val (.int u2), .val (.int (u2 &&& (3 : Int32))), .val (.int (shE u2)), .val (.int sw), .val (.long ((1 : Int64) <<< ((shE u2) &&& 0x3f).toInt64)), .second, .val (.double (FP.dmul (FP.i2d u0) (FP.l2d ((1 : Int64) <<< ((shE u2) &&& 0x3f).toInt64)))), .second, .val (.double (FP.i2d u1)), .second, .val (.long (((u0.toInt64) * ((1 : Int64) <<< ((shE u2) &&& 0x3f).toInt64)) + (u1.toInt64))), .second, .val (.double r), .second, .val (.long (FP.d2l r)), .second, .val (.double (FP.l2d (((u0.toInt64) * ((1 : Int64) <<< ((shE u2) &&& 0x3f).toInt64)) + (u1.toInt64)))), .second, .val (.long (FP.d2l (FP.l2d (((u0.toInt64) * ((1 : Int64) <<< ((shE u2) &&& 0x3f).toInt64)) + (u1.toInt64))))), .second, .val (.double (FP.l2d (((FP.d2l (FP.l2d (((u0.toInt64) * ((1 : Int64) <<< ((shE u2) &&& 0x3f).toInt64)) + (u1.toInt64)))) + (FP.d2l r)) / (2 : Int64)))), .second] [(.double (FP.l2d (((u0.toInt64) * ((1 : Int64) <<< ((shE u2) &&& 0x3f).toInt64)) + (u1.toInt64)))), (.double (FP.l2d (((FP.d2l (FP.l2d (((u0.toInt64) * ((1 : Int64) <<< ((shE u2) &&& 0x3f).toInt64)) + (u1.toInt64)))) + (FP.d2l r)) / (2 : Int64))))])) _
  refine XS.dcmpS X.here hx rfl (hb hby at_175) rfl (v := (cmpValue (FP.dcmp (FP.l2d (((FP.d2l (FP.l2d (((u0.toInt64) * ((1 : Int64) <<< ((shE u2) &&& 0x3f).toInt64)) + (u1.toInt64)))) + (FP.d2l r)) / (2 : Int64))) (FP.l2d (((u0.toInt64) * ((1 : Int64) <<< ((shE u2) &&& 0x3f).toInt64)) + (u1.toInt64)))) .l)) rfl ?_
  show Steps p.tables e below (T.setTop (mkF m 176 #[.val (.int u0), .val (.int u1), .val (.int u2), .val (.int (u2 &&& (3 : Int32))), .val (.int (shE u2)), .val (.int sw), .val (.long ((1 : Int64) <<< ((shE u2) &&& 0x3f).toInt64)), .second, .val (.double (FP.dmul (FP.i2d u0) (FP.l2d ((1 : Int64) <<< ((shE u2) &&& 0x3f).toInt64)))), .second, .val (.double (FP.i2d u1)), .second, .val (.long (((u0.toInt64) * ((1 : Int64) <<< ((shE u2) &&& 0x3f).toInt64)) + (u1.toInt64))), .second, .val (.double r), .second, .val (.long (FP.d2l r)), .second, .val (.double (FP.l2d (((u0.toInt64) * ((1 : Int64) <<< ((shE u2) &&& 0x3f).toInt64)) + (u1.toInt64)))), .second, .val (.long (FP.d2l (FP.l2d (((u0.toInt64) * ((1 : Int64) <<< ((shE u2) &&& 0x3f).toInt64)) + (u1.toInt64))))), .second, .val (.double (FP.l2d (((FP.d2l (FP.l2d (((u0.toInt64) * ((1 : Int64) <<< ((shE u2) &&& 0x3f).toInt64)) + (u1.toInt64)))) + (FP.d2l r)) / (2 : Int64)))), .second] [(.int (cmpValue (FP.dcmp (FP.l2d (((FP.d2l (FP.l2d (((u0.toInt64) * ((1 : Int64) <<< ((shE u2) &&& 0x3f).toInt64)) + (u1.toInt64)))) + (FP.d2l r)) / (2 : Int64))) (FP.l2d (((u0.toInt64) * ((1 : Int64) <<< ((shE u2) &&& 0x3f).toInt64)) + (u1.toInt64)))) .l))])) _
  refine XS.ifNo X.here hx rfl (hb hby at_176) rfl ((if0 _ _).trans (feq hc176).1) ?_
  show Steps p.tables e below (T.setTop (mkF m 179 #[.val (.int u0), .val (.int u1), .val (.int u2), .val (.int (u2 &&& (3 : Int32))), .val (.int (shE u2)), .val (.int sw), .val (.long ((1 : Int64) <<< ((shE u2) &&& 0x3f).toInt64)), .second, .val (.double (FP.dmul (FP.i2d u0) (FP.l2d ((1 : Int64) <<< ((shE u2) &&& 0x3f).toInt64)))), .second, .val (.double (FP.i2d u1)), .second, .val (.long (((u0.toInt64) * ((1 : Int64) <<< ((shE u2) &&& 0x3f).toInt64)) + (u1.toInt64))), .second, .val (.double r), .second, .val (.long (FP.d2l r)), .second, .val (.double (FP.l2d (((u0.toInt64) * ((1 : Int64) <<< ((shE u2) &&& 0x3f).toInt64)) + (u1.toInt64)))), .second, .val (.long (FP.d2l (FP.l2d (((u0.toInt64) * ((1 : Int64) <<< ((shE u2) &&& 0x3f).toInt64)) + (u1.toInt64))))), .second, .val (.double (FP.l2d (((FP.d2l (FP.l2d (((u0.toInt64) * ((1 : Int64) <<< ((shE u2) &&& 0x3f).toInt64)) + (u1.toInt64)))) + (FP.d2l r)) / (2 : Int64)))), .second] [])) _
  refine XS.dload X.here hx rfl (hb hby at_179) rfl ?_
  show Steps p.tables e below (T.setTop (mkF m 181 #[.val (.int u0), .val (.int u1), .val (.int u2), .val (.int (u2 &&& (3 : Int32))), .val (.int (shE u2)), .val (.int sw), .val (.long ((1 : Int64) <<< ((shE u2) &&& 0x3f).toInt64)), .second, .val (.double (FP.dmul (FP.i2d u0) (FP.l2d ((1 : Int64) <<< ((shE u2) &&& 0x3f).toInt64)))), .second, .val (.double (FP.i2d u1)), .second, .val (.long (((u0.toInt64) * ((1 : Int64) <<< ((shE u2) &&& 0x3f).toInt64)) + (u1.toInt64))), .second, .val (.double r), .second, .val (.long (FP.d2l r)), .second, .val (.double (FP.l2d (((u0.toInt64) * ((1 : Int64) <<< ((shE u2) &&& 0x3f).toInt64)) + (u1.toInt64)))), .second, .val (.long (FP.d2l (FP.l2d (((u0.toInt64) * ((1 : Int64) <<< ((shE u2) &&& 0x3f).toInt64)) + (u1.toInt64))))), .second, .val (.double (FP.l2d (((FP.d2l (FP.l2d (((u0.toInt64) * ((1 : Int64) <<< ((shE u2) &&& 0x3f).toInt64)) + (u1.toInt64)))) + (FP.d2l r)) / (2 : Int64)))), .second] [(.double (FP.l2d (((FP.d2l (FP.l2d (((u0.toInt64) * ((1 : Int64) <<< ((shE u2) &&& 0x3f).toInt64)) + (u1.toInt64)))) + (FP.d2l r)) / (2 : Int64))))])) _
  refine XS.dload X.here hx rfl (hb hby at_181) rfl ?_
  show Steps p.tables e below (T.setTop (mkF m 183 #[.val (.int u0), .val (.int u1), .val (.int u2), .val (.int (u2 &&& (3 : Int32))), .val (.int (shE u2)), .val (.int sw), .val (.long ((1 : Int64) <<< ((shE u2) &&& 0x3f).toInt64)), .second, .val (.double (FP.dmul (FP.i2d u0) (FP.l2d ((1 : Int64) <<< ((shE u2) &&& 0x3f).toInt64)))), .second, .val (.double (FP.i2d u1)), .second, .val (.long (((u0.toInt64) * ((1 : Int64) <<< ((shE u2) &&& 0x3f).toInt64)) + (u1.toInt64))), .second, .val (.double r), .second, .val (.long (FP.d2l r)), .second, .val (.double (FP.l2d (((u0.toInt64) * ((1 : Int64) <<< ((shE u2) &&& 0x3f).toInt64)) + (u1.toInt64)))), .second, .val (.long (FP.d2l (FP.l2d (((u0.toInt64) * ((1 : Int64) <<< ((shE u2) &&& 0x3f).toInt64)) + (u1.toInt64))))), .second, .val (.double (FP.l2d (((FP.d2l (FP.l2d (((u0.toInt64) * ((1 : Int64) <<< ((shE u2) &&& 0x3f).toInt64)) + (u1.toInt64)))) + (FP.d2l r)) / (2 : Int64)))), .second] [(.double r), (.double (FP.l2d (((FP.d2l (FP.l2d (((u0.toInt64) * ((1 : Int64) <<< ((shE u2) &&& 0x3f).toInt64)) + (u1.toInt64)))) + (FP.d2l r)) / (2 : Int64))))])) _
  refine XS.dcmpS X.here hx rfl (hb hby at_183) rfl (v := (cmpValue (FP.dcmp (FP.l2d (((FP.d2l (FP.l2d (((u0.toInt64) * ((1 : Int64) <<< ((shE u2) &&& 0x3f).toInt64)) + (u1.toInt64)))) + (FP.d2l r)) / (2 : Int64))) r) .l)) rfl ?_
  show Steps p.tables e below (T.setTop (mkF m 184 #[.val (.int u0), .val (.int u1), .val (.int u2), .val (.int (u2 &&& (3 : Int32))), .val (.int (shE u2)), .val (.int sw), .val (.long ((1 : Int64) <<< ((shE u2) &&& 0x3f).toInt64)), .second, .val (.double (FP.dmul (FP.i2d u0) (FP.l2d ((1 : Int64) <<< ((shE u2) &&& 0x3f).toInt64)))), .second, .val (.double (FP.i2d u1)), .second, .val (.long (((u0.toInt64) * ((1 : Int64) <<< ((shE u2) &&& 0x3f).toInt64)) + (u1.toInt64))), .second, .val (.double r), .second, .val (.long (FP.d2l r)), .second, .val (.double (FP.l2d (((u0.toInt64) * ((1 : Int64) <<< ((shE u2) &&& 0x3f).toInt64)) + (u1.toInt64)))), .second, .val (.long (FP.d2l (FP.l2d (((u0.toInt64) * ((1 : Int64) <<< ((shE u2) &&& 0x3f).toInt64)) + (u1.toInt64))))), .second, .val (.double (FP.l2d (((FP.d2l (FP.l2d (((u0.toInt64) * ((1 : Int64) <<< ((shE u2) &&& 0x3f).toInt64)) + (u1.toInt64)))) + (FP.d2l r)) / (2 : Int64)))), .second] [(.int (cmpValue (FP.dcmp (FP.l2d (((FP.d2l (FP.l2d (((u0.toInt64) * ((1 : Int64) <<< ((shE u2) &&& 0x3f).toInt64)) + (u1.toInt64)))) + (FP.d2l r)) / (2 : Int64))) r) .l))])) _
  refine XS.ifNo X.here hx rfl (hb hby at_184) rfl ((if0 _ _).trans (teq hc184).2) ?_
  show Steps p.tables e below (T.setTop (mkF m 187 #[.val (.int u0), .val (.int u1), .val (.int u2), .val (.int (u2 &&& (3 : Int32))), .val (.int (shE u2)), .val (.int sw), .val (.long ((1 : Int64) <<< ((shE u2) &&& 0x3f).toInt64)), .second, .val (.double (FP.dmul (FP.i2d u0) (FP.l2d ((1 : Int64) <<< ((shE u2) &&& 0x3f).toInt64)))), .second, .val (.double (FP.i2d u1)), .second, .val (.long (((u0.toInt64) * ((1 : Int64) <<< ((shE u2) &&& 0x3f).toInt64)) + (u1.toInt64))), .second, .val (.double r), .second, .val (.long (FP.d2l r)), .second, .val (.double (FP.l2d (((u0.toInt64) * ((1 : Int64) <<< ((shE u2) &&& 0x3f).toInt64)) + (u1.toInt64)))), .second, .val (.long (FP.d2l (FP.l2d (((u0.toInt64) * ((1 : Int64) <<< ((shE u2) &&& 0x3f).toInt64)) + (u1.toInt64))))), .second, .val (.double (FP.l2d (((FP.d2l (FP.l2d (((u0.toInt64) * ((1 : Int64) <<< ((shE u2) &&& 0x3f).toInt64)) + (u1.toInt64)))) + (FP.d2l r)) / (2 : Int64)))), .second] [])) _
  refine XS.iconst X.here hx rfl (hb hby at_187) ?_
  show Steps p.tables e below (T.setTop (mkF m 188 #[.val (.int u0), .val (.int u1), .val (.int u2), .val (.int (u2 &&& (3 : Int32))), .val (.int (shE u2)), .val (.int sw), .val (.long ((1 : Int64) <<< ((shE u2) &&& 0x3f).toInt64)), .second, .val (.double (FP.dmul (FP.i2d u0) (FP.l2d ((1 : Int64) <<< ((shE u2) &&& 0x3f).toInt64)))), .second, .val (.double (FP.i2d u1)), .second, .val (.long (((u0.toInt64) * ((1 : Int64) <<< ((shE u2) &&& 0x3f).toInt64)) + (u1.toInt64))), .second, .val (.double r), .second, .val (.long (FP.d2l r)), .second, .val (.double (FP.l2d (((u0.toInt64) * ((1 : Int64) <<< ((shE u2) &&& 0x3f).toInt64)) + (u1.toInt64)))), .second, .val (.long (FP.d2l (FP.l2d (((u0.toInt64) * ((1 : Int64) <<< ((shE u2) &&& 0x3f).toInt64)) + (u1.toInt64))))), .second, .val (.double (FP.l2d (((FP.d2l (FP.l2d (((u0.toInt64) * ((1 : Int64) <<< ((shE u2) &&& 0x3f).toInt64)) + (u1.toInt64)))) + (FP.d2l r)) / (2 : Int64)))), .second] [(.int (1 : Int32))])) _
  refine XS.goto X.here hx rfl (pc0 := 188) (pc' := 192) rfl (hb hby at_188) (by decide) (by decide) ?_
  exact hr
theorem ef_code (m : MethodId) (x0 : Int32) (x1 : Int32) (x2 : Int32) : entryFrame m #[(.int x0), (.int x1), (.int x2)] maxLocals = mkF m 0 #[.val (.int x0), .val (.int x1), .val (.int x2), .unset, .unset, .unset, .unset, .unset, .unset, .unset, .unset, .unset, .unset, .unset, .unset, .unset, .unset, .unset, .unset, .unset, .unset, .unset, .unset, .unset] [] := by first | (simp [entryFrame, mkF, argsToLocals, Value.category, maxLocals]; done) | rfl
set_option maxRecDepth 65536 in
set_option maxHeartbeats 40000000 in
theorem rm0_nG (l : Launch) (Z : State) (a0 : Array Value) (hw : ∀ d ∈ tables_1, d.before a0 Z = true) (ws : List Jvm.Cond) (u0 u1 u2 : Int32) (h0 : Heap) (n0 : Nat) (Z0 : n0 ≤ h0.size) (hsw : u2 &&& 4 = 0) (km : Jvm.Free.Fl.NoNaN64 (aE u0 u2)) (k1 : Jvm.Free.Fl.NoNaN64 (FP.dadd (aE u0 u2) (FP.i2d u1))) (k2 : Jvm.Free.Fl.NoNaN64 (bpE (aE u0 u2) (FP.i2d u1))) (k3 : Jvm.Free.Fl.NoNaN64 (FP.dsub (FP.dadd (aE u0 u2) (FP.i2d u1)) (bpE (aE u0 u2) (FP.i2d u1)))) (k4 : Jvm.Free.Fl.NoNaN64 (FP.dsub (aE u0 u2) (FP.dsub (FP.dadd (aE u0 u2) (FP.i2d u1)) (bpE (aE u0 u2) (FP.i2d u1))))) (k5 : Jvm.Free.Fl.NoNaN64 (FP.dsub (FP.i2d u1) (bpE (aE u0 u2) (FP.i2d u1)))) (k6 : Jvm.Free.Fl.NoNaN64 (errE (aE u0 u2) (FP.i2d u1))) (hup : 0 < cmpValue (FP.dcmp (errE (aE u0 u2) (FP.i2d u1)) FP.dconst0) .l → Jvm.Free.Fl.Fin64 (FP.dadd (aE u0 u2) (FP.i2d u1)) ∧ FP.dadd (FP.dadd (aE u0 u2) (FP.i2d u1)) FP.dconst0 = FP.dadd (aE u0 u2) (FP.i2d u1) ∧ ((OwnFp.nextE (FP.dadd (aE u0 u2) (FP.i2d u1))) &&& 0x7fffffffffffffff > 0x7ff0000000000000 && (OwnFp.nextE (FP.dadd (aE u0 u2) (FP.i2d u1))) &&& 0x0008000000000000 == 0) = false) (c1 : cmpValue (FP.dcmp (FP.l2d (FP.d2l (addE (aE u0 u2) (FP.i2d u1)))) (addE (aE u0 u2) (FP.i2d u1))) .l = 0) (c2 : ¬ (lcmpW (FP.d2l (FP.l2d (sE u0 u1 u2))) (sE u0 u1 u2) < 0)) (c3 : cmpValue (FP.dcmp (addE (aE u0 u2) (FP.i2d u1)) (FP.l2d (sE u0 u1 u2))) .l = 0) :
    MetFree l x (head1 (Jvm.Cond.code x code maxLocals ret :: ws) room_1) (fun aa U => aa = #[(.int u0), (.int u1), (.int u2)] ∧ Z.Warmed39 U.vm ∧ U.heap = h0) (fun _ _ _ _ _ => True) (fun _ U o U' => ∃ v L, o = .returned v ∧ Q0 n0 v U'.heap L ∧ FrameEnd U o U' L 0 0) := by
  refine MetFree.of_bodySF (plainFor_of_name pn_code) hisR ?_
  intro p e s m args below meth c s₁ Bd hml0 hP hK
  obtain ⟨rfl, hZ, hh⟩ := hP
  have hx := Bd.exec
  have hby := Bd.bytes
  have hml : c.maxLocals = 24 := hml0
  have hown : s.vm.findClass "com/example/unsplit/unsplit/UpwardAddPinLaw" = some m.cls := findClass_of_methodNamed Bd.named
  have hnm := (name_of_methodNamed Bd.named Bd.method).1
  have X0 : Stand p l e room_1 s m #[(.int u0), (.int u1), (.int u2)] below meth c s₁ [] 0 0 := Stand.of_body Bd
  have e0 : s₁.heap = h0 := by rw [← hh, Bd.state]; rfl
  have N0 := Fr.nil n0
  have pre0 : ∀ t, Steps p.tables e below (s₁.setTop (mkF m 0 #[.val (.int u0), .val (.int u1), .val (.int u2), .unset, .unset, .unset, .unset, .unset, .unset, .unset, .unset, .unset, .unset, .unset, .unset, .unset, .unset, .unset, .unset, .unset, .unset, .unset, .unset, .unset] [])) t → Steps p.tables e below (s₁.setTop (entryFrame m #[(.int u0), (.int u1), (.int u2)] maxLocals)) t := fun t k => castTop (ef_code m u0 u1 u2) k
  obtain ⟨_, _, ⟨T1, L1, k1, n1⟩, -, X1, ⟨Lc1, hQ1, l1, y1, z1⟩, st1⟩ := Jvm.LawKit.callS X0 hx (y := (⟨"com/example/unsplit/unsplit/Upward", "add", "(DD)D"⟩ : MethodName)) hown (mvT hZ (hw _ (List.mem_of_getElem? (i := 0) rfl))) (mvT hZ (hw _ (List.mem_of_getElem? (i := 1) rfl))) (mvT hZ (hw _ (List.mem_of_getElem? (i := 2) rfl))) (mvT hZ (hw _ (List.mem_of_getElem? (i := 3) rfl))) (by decide) (backOf (W := 0) (rmA l Z a0 hw [] (aE u0 u2) (FP.i2d u1) h0 n0 Z0 k1 k2 k3 k4 k5 k6 hup) hZ (hw _ (List.mem_of_getElem? (i := 3) rfl)) (hw _ (List.mem_of_getElem? (i := 2) rfl)) (by decide) (by decide)) (g := (mkF m 96 #[.val (.int u0), .val (.int u1), .val (.int u2), .val (.int (u2 &&& (3 : Int32))), .val (.int (shE u2)), .val (.int (0 : Int32)), .val (.long ((1 : Int64) <<< ((shE u2) &&& 0x3f).toInt64)), .second, .val (.double (FP.dmul (FP.i2d u0) (FP.l2d ((1 : Int64) <<< ((shE u2) &&& 0x3f).toInt64)))), .second, .val (.double (FP.i2d u1)), .second, .val (.long (((u0.toInt64) * ((1 : Int64) <<< ((shE u2) &&& 0x3f).toInt64)) + (u1.toInt64))), .second, .unset, .unset, .unset, .unset, .unset, .unset, .unset, .unset, .unset, .unset] [(.double (FP.i2d u1)), (.double (FP.dmul (FP.i2d u0) (FP.l2d ((1 : Int64) <<< ((shE u2) &&& 0x3f).toInt64))))])) rfl (by rw [hml]; rfl) (argsL := [(.double (FP.dmul (FP.i2d u0) (FP.l2d ((1 : Int64) <<< ((shE u2) &&& 0x3f).toInt64)))), (.double (FP.i2d u1))]) (rest := []) (lenOf pd__DD_D rfl) rfl (by show 2 * 0 + _ ≤ _; exact Nat.le_of_eq rfl) (hb hby at_96) (fun _ _ => ⟨rfl, e0, (by decide : 0 + 0 ≤ _), (by decide : 0 + 0 ≤ _)⟩)
  dsimp only [Pt.U, Pt.locs, Pt.cells, Pt.slots] at X1 l1 y1 z1 st1 hQ1
  subst l1 y1 z1
  obtain ⟨rfl, N1q, K1⟩ := hQ1
  obtain ⟨fs, hr, hrun, hended, hW, hsame⟩ := X1.leave (v := some (.int (1 : Int32))) (fun h => by rw [Bd.returns] at h; cases h)
  refine ⟨_, _, pre0 _ ?_, hrun, hended, _, _, rfl, ?_, ⟨_, rfl⟩, hW, hsame.mono (by decide) (by decide)⟩
  · show Steps p.tables e below (s₁.setTop (mkF m 0 #[.val (.int u0), .val (.int u1), .val (.int u2), .unset, .unset, .unset, .unset, .unset, .unset, .unset, .unset, .unset, .unset, .unset, .unset, .unset, .unset, .unset, .unset, .unset, .unset, .unset, .unset, .unset] [])) _
    refine sA X0 hx hZ hw hby hown  ?_
    show Steps p.tables e below (s₁.setTop (mkF m 34 #[.val (.int u0), .val (.int u1), .val (.int u2), .val (.int (u2 &&& (3 : Int32))), .unset, .unset, .unset, .unset, .unset, .unset, .unset, .unset, .unset, .unset, .unset, .unset, .unset, .unset, .unset, .unset, .unset, .unset, .unset, .unset] [(.int (shE u2))])) _
    refine sB_t X0 hx hZ hw hby hown hsw km ?_
    show Steps p.tables e below (s₁.setTop (mkF m 77 #[.val (.int u0), .val (.int u1), .val (.int u2), .val (.int (u2 &&& (3 : Int32))), .val (.int (shE u2)), .val (.int (0 : Int32)), .val (.long ((1 : Int64) <<< ((shE u2) &&& 0x3f).toInt64)), .second, .val (.double (FP.dmul (FP.i2d u0) (FP.l2d ((1 : Int64) <<< ((shE u2) &&& 0x3f).toInt64)))), .second, .val (.double (FP.i2d u1)), .second, .val (.long (((u0.toInt64) * ((1 : Int64) <<< ((shE u2) &&& 0x3f).toInt64)) + (u1.toInt64))), .second, .unset, .unset, .unset, .unset, .unset, .unset, .unset, .unset, .unset, .unset] [])) _
    refine XS.iload X0.here hx rfl (hb hby at_77) rfl ?_
    show Steps p.tables e below (s₁.setTop (mkF m 79 #[.val (.int u0), .val (.int u1), .val (.int u2), .val (.int (u2 &&& (3 : Int32))), .val (.int (shE u2)), .val (.int (0 : Int32)), .val (.long ((1 : Int64) <<< ((shE u2) &&& 0x3f).toInt64)), .second, .val (.double (FP.dmul (FP.i2d u0) (FP.l2d ((1 : Int64) <<< ((shE u2) &&& 0x3f).toInt64)))), .second, .val (.double (FP.i2d u1)), .second, .val (.long (((u0.toInt64) * ((1 : Int64) <<< ((shE u2) &&& 0x3f).toInt64)) + (u1.toInt64))), .second, .unset, .unset, .unset, .unset, .unset, .unset, .unset, .unset, .unset, .unset] [(.int (0 : Int32))])) _
    refine XS.ifYes X0.here hx rfl (pc0 := 79) (pc' := 92) rfl (hb hby at_79) rfl ((if0 _ _).trans (teq (rfl : (0 : Int32) = (0 : Int32))).1) (by decide) (by decide) ?_
    show Steps p.tables e below (s₁.setTop (mkF m 92 #[.val (.int u0), .val (.int u1), .val (.int u2), .val (.int (u2 &&& (3 : Int32))), .val (.int (shE u2)), .val (.int (0 : Int32)), .val (.long ((1 : Int64) <<< ((shE u2) &&& 0x3f).toInt64)), .second, .val (.double (FP.dmul (FP.i2d u0) (FP.l2d ((1 : Int64) <<< ((shE u2) &&& 0x3f).toInt64)))), .second, .val (.double (FP.i2d u1)), .second, .val (.long (((u0.toInt64) * ((1 : Int64) <<< ((shE u2) &&& 0x3f).toInt64)) + (u1.toInt64))), .second, .unset, .unset, .unset, .unset, .unset, .unset, .unset, .unset, .unset, .unset] [])) _
    refine XS.dload X0.here hx rfl (hb hby at_92) rfl ?_
    show Steps p.tables e below (s₁.setTop (mkF m 94 #[.val (.int u0), .val (.int u1), .val (.int u2), .val (.int (u2 &&& (3 : Int32))), .val (.int (shE u2)), .val (.int (0 : Int32)), .val (.long ((1 : Int64) <<< ((shE u2) &&& 0x3f).toInt64)), .second, .val (.double (FP.dmul (FP.i2d u0) (FP.l2d ((1 : Int64) <<< ((shE u2) &&& 0x3f).toInt64)))), .second, .val (.double (FP.i2d u1)), .second, .val (.long (((u0.toInt64) * ((1 : Int64) <<< ((shE u2) &&& 0x3f).toInt64)) + (u1.toInt64))), .second, .unset, .unset, .unset, .unset, .unset, .unset, .unset, .unset, .unset, .unset] [(.double (FP.dmul (FP.i2d u0) (FP.l2d ((1 : Int64) <<< ((shE u2) &&& 0x3f).toInt64))))])) _
    refine XS.dload X0.here hx rfl (hb hby at_94) rfl ?_
    show Steps p.tables e below (s₁.setTop (mkF m 96 #[.val (.int u0), .val (.int u1), .val (.int u2), .val (.int (u2 &&& (3 : Int32))), .val (.int (shE u2)), .val (.int (0 : Int32)), .val (.long ((1 : Int64) <<< ((shE u2) &&& 0x3f).toInt64)), .second, .val (.double (FP.dmul (FP.i2d u0) (FP.l2d ((1 : Int64) <<< ((shE u2) &&& 0x3f).toInt64)))), .second, .val (.double (FP.i2d u1)), .second, .val (.long (((u0.toInt64) * ((1 : Int64) <<< ((shE u2) &&& 0x3f).toInt64)) + (u1.toInt64))), .second, .unset, .unset, .unset, .unset, .unset, .unset, .unset, .unset, .unset, .unset] [(.double (FP.i2d u1)), (.double (FP.dmul (FP.i2d u0) (FP.l2d ((1 : Int64) <<< ((shE u2) &&& 0x3f).toInt64))))])) _
    refine st1 _ ?_
    show Steps p.tables e below (T1.setTop (mkF m 99 #[.val (.int u0), .val (.int u1), .val (.int u2), .val (.int (u2 &&& (3 : Int32))), .val (.int (shE u2)), .val (.int (0 : Int32)), .val (.long ((1 : Int64) <<< ((shE u2) &&& 0x3f).toInt64)), .second, .val (.double (FP.dmul (FP.i2d u0) (FP.l2d ((1 : Int64) <<< ((shE u2) &&& 0x3f).toInt64)))), .second, .val (.double (FP.i2d u1)), .second, .val (.long (((u0.toInt64) * ((1 : Int64) <<< ((shE u2) &&& 0x3f).toInt64)) + (u1.toInt64))), .second, .unset, .unset, .unset, .unset, .unset, .unset, .unset, .unset, .unset, .unset] [(.double (addE (aE u0 u2) (FP.i2d u1)))])) _
    refine sG X1 hx hZ hw hby hown c1 c2 c3 ?_
    show Steps p.tables e below (T1.setTop (mkF m 148 #[.val (.int u0), .val (.int u1), .val (.int u2), .val (.int (u2 &&& (3 : Int32))), .val (.int (shE u2)), .val (.int (0 : Int32)), .val (.long ((1 : Int64) <<< ((shE u2) &&& 0x3f).toInt64)), .second, .val (.double (FP.dmul (FP.i2d u0) (FP.l2d ((1 : Int64) <<< ((shE u2) &&& 0x3f).toInt64)))), .second, .val (.double (FP.i2d u1)), .second, .val (.long (((u0.toInt64) * ((1 : Int64) <<< ((shE u2) &&& 0x3f).toInt64)) + (u1.toInt64))), .second, .val (.double (addE (aE u0 u2) (FP.i2d u1))), .second, .val (.long (FP.d2l (addE (aE u0 u2) (FP.i2d u1)))), .second, .val (.double (FP.l2d (((u0.toInt64) * ((1 : Int64) <<< ((shE u2) &&& 0x3f).toInt64)) + (u1.toInt64)))), .second, .val (.long (FP.d2l (FP.l2d (((u0.toInt64) * ((1 : Int64) <<< ((shE u2) &&& 0x3f).toInt64)) + (u1.toInt64))))), .second, .unset, .unset] [(.int (1 : Int32))])) _
    exact retN X1 hx (t := .boolean) Bd.returns (by simp) (hb hby at_148) hr
  · show Q0 n0 _ T1.heap _
    rw [K1]
    exact ⟨rfl, Fr.app N0 N1q⟩
set_option maxRecDepth 65536 in
set_option maxHeartbeats 40000000 in
theorem rm0_nL (l : Launch) (Z : State) (a0 : Array Value) (hw : ∀ d ∈ tables_1, d.before a0 Z = true) (ws : List Jvm.Cond) (u0 u1 u2 : Int32) (h0 : Heap) (n0 : Nat) (Z0 : n0 ≤ h0.size) (hsw : u2 &&& 4 = 0) (km : Jvm.Free.Fl.NoNaN64 (aE u0 u2)) (k1 : Jvm.Free.Fl.NoNaN64 (FP.dadd (aE u0 u2) (FP.i2d u1))) (k2 : Jvm.Free.Fl.NoNaN64 (bpE (aE u0 u2) (FP.i2d u1))) (k3 : Jvm.Free.Fl.NoNaN64 (FP.dsub (FP.dadd (aE u0 u2) (FP.i2d u1)) (bpE (aE u0 u2) (FP.i2d u1)))) (k4 : Jvm.Free.Fl.NoNaN64 (FP.dsub (aE u0 u2) (FP.dsub (FP.dadd (aE u0 u2) (FP.i2d u1)) (bpE (aE u0 u2) (FP.i2d u1))))) (k5 : Jvm.Free.Fl.NoNaN64 (FP.dsub (FP.i2d u1) (bpE (aE u0 u2) (FP.i2d u1)))) (k6 : Jvm.Free.Fl.NoNaN64 (errE (aE u0 u2) (FP.i2d u1))) (hup : 0 < cmpValue (FP.dcmp (errE (aE u0 u2) (FP.i2d u1)) FP.dconst0) .l → Jvm.Free.Fl.Fin64 (FP.dadd (aE u0 u2) (FP.i2d u1)) ∧ FP.dadd (FP.dadd (aE u0 u2) (FP.i2d u1)) FP.dconst0 = FP.dadd (aE u0 u2) (FP.i2d u1) ∧ ((OwnFp.nextE (FP.dadd (aE u0 u2) (FP.i2d u1))) &&& 0x7fffffffffffffff > 0x7ff0000000000000 && (OwnFp.nextE (FP.dadd (aE u0 u2) (FP.i2d u1))) &&& 0x0008000000000000 == 0) = false) (c1 : cmpValue (FP.dcmp (FP.l2d (FP.d2l (addE (aE u0 u2) (FP.i2d u1)))) (addE (aE u0 u2) (FP.i2d u1))) .l = 0) (c2 : lcmpW (FP.d2l (FP.l2d (sE u0 u1 u2))) (sE u0 u1 u2) < 0) (c3 : 0 < lcmpW (FP.d2l (addE (aE u0 u2) (FP.i2d u1))) (sE u0 u1 u2)) (c4 : cmpValue (FP.dcmp (FP.l2d ((FP.d2l (FP.l2d (sE u0 u1 u2)) + FP.d2l (addE (aE u0 u2) (FP.i2d u1))) / 2)) (FP.l2d (sE u0 u1 u2))) .l = 0) :
    MetFree l x (head1 (Jvm.Cond.code x code maxLocals ret :: ws) room_1) (fun aa U => aa = #[(.int u0), (.int u1), (.int u2)] ∧ Z.Warmed39 U.vm ∧ U.heap = h0) (fun _ _ _ _ _ => True) (fun _ U o U' => ∃ v L, o = .returned v ∧ Q0 n0 v U'.heap L ∧ FrameEnd U o U' L 0 0) := by
  refine MetFree.of_bodySF (plainFor_of_name pn_code) hisR ?_
  intro p e s m args below meth c s₁ Bd hml0 hP hK
  obtain ⟨rfl, hZ, hh⟩ := hP
  have hx := Bd.exec
  have hby := Bd.bytes
  have hml : c.maxLocals = 24 := hml0
  have hown : s.vm.findClass "com/example/unsplit/unsplit/UpwardAddPinLaw" = some m.cls := findClass_of_methodNamed Bd.named
  have hnm := (name_of_methodNamed Bd.named Bd.method).1
  have X0 : Stand p l e room_1 s m #[(.int u0), (.int u1), (.int u2)] below meth c s₁ [] 0 0 := Stand.of_body Bd
  have e0 : s₁.heap = h0 := by rw [← hh, Bd.state]; rfl
  have N0 := Fr.nil n0
  have pre0 : ∀ t, Steps p.tables e below (s₁.setTop (mkF m 0 #[.val (.int u0), .val (.int u1), .val (.int u2), .unset, .unset, .unset, .unset, .unset, .unset, .unset, .unset, .unset, .unset, .unset, .unset, .unset, .unset, .unset, .unset, .unset, .unset, .unset, .unset, .unset] [])) t → Steps p.tables e below (s₁.setTop (entryFrame m #[(.int u0), (.int u1), (.int u2)] maxLocals)) t := fun t k => castTop (ef_code m u0 u1 u2) k
  obtain ⟨_, _, ⟨T1, L1, k1, n1⟩, -, X1, ⟨Lc1, hQ1, l1, y1, z1⟩, st1⟩ := Jvm.LawKit.callS X0 hx (y := (⟨"com/example/unsplit/unsplit/Upward", "add", "(DD)D"⟩ : MethodName)) hown (mvT hZ (hw _ (List.mem_of_getElem? (i := 0) rfl))) (mvT hZ (hw _ (List.mem_of_getElem? (i := 1) rfl))) (mvT hZ (hw _ (List.mem_of_getElem? (i := 2) rfl))) (mvT hZ (hw _ (List.mem_of_getElem? (i := 3) rfl))) (by decide) (backOf (W := 0) (rmA l Z a0 hw [] (aE u0 u2) (FP.i2d u1) h0 n0 Z0 k1 k2 k3 k4 k5 k6 hup) hZ (hw _ (List.mem_of_getElem? (i := 3) rfl)) (hw _ (List.mem_of_getElem? (i := 2) rfl)) (by decide) (by decide)) (g := (mkF m 96 #[.val (.int u0), .val (.int u1), .val (.int u2), .val (.int (u2 &&& (3 : Int32))), .val (.int (shE u2)), .val (.int (0 : Int32)), .val (.long ((1 : Int64) <<< ((shE u2) &&& 0x3f).toInt64)), .second, .val (.double (FP.dmul (FP.i2d u0) (FP.l2d ((1 : Int64) <<< ((shE u2) &&& 0x3f).toInt64)))), .second, .val (.double (FP.i2d u1)), .second, .val (.long (((u0.toInt64) * ((1 : Int64) <<< ((shE u2) &&& 0x3f).toInt64)) + (u1.toInt64))), .second, .unset, .unset, .unset, .unset, .unset, .unset, .unset, .unset, .unset, .unset] [(.double (FP.i2d u1)), (.double (FP.dmul (FP.i2d u0) (FP.l2d ((1 : Int64) <<< ((shE u2) &&& 0x3f).toInt64))))])) rfl (by rw [hml]; rfl) (argsL := [(.double (FP.dmul (FP.i2d u0) (FP.l2d ((1 : Int64) <<< ((shE u2) &&& 0x3f).toInt64)))), (.double (FP.i2d u1))]) (rest := []) (lenOf pd__DD_D rfl) rfl (by show 2 * 0 + _ ≤ _; exact Nat.le_of_eq rfl) (hb hby at_96) (fun _ _ => ⟨rfl, e0, (by decide : 0 + 0 ≤ _), (by decide : 0 + 0 ≤ _)⟩)
  dsimp only [Pt.U, Pt.locs, Pt.cells, Pt.slots] at X1 l1 y1 z1 st1 hQ1
  subst l1 y1 z1
  obtain ⟨rfl, N1q, K1⟩ := hQ1
  obtain ⟨fs, hr, hrun, hended, hW, hsame⟩ := X1.leave (v := some (.int (1 : Int32))) (fun h => by rw [Bd.returns] at h; cases h)
  refine ⟨_, _, pre0 _ ?_, hrun, hended, _, _, rfl, ?_, ⟨_, rfl⟩, hW, hsame.mono (by decide) (by decide)⟩
  · show Steps p.tables e below (s₁.setTop (mkF m 0 #[.val (.int u0), .val (.int u1), .val (.int u2), .unset, .unset, .unset, .unset, .unset, .unset, .unset, .unset, .unset, .unset, .unset, .unset, .unset, .unset, .unset, .unset, .unset, .unset, .unset, .unset, .unset] [])) _
    refine sA X0 hx hZ hw hby hown  ?_
    show Steps p.tables e below (s₁.setTop (mkF m 34 #[.val (.int u0), .val (.int u1), .val (.int u2), .val (.int (u2 &&& (3 : Int32))), .unset, .unset, .unset, .unset, .unset, .unset, .unset, .unset, .unset, .unset, .unset, .unset, .unset, .unset, .unset, .unset, .unset, .unset, .unset, .unset] [(.int (shE u2))])) _
    refine sB_t X0 hx hZ hw hby hown hsw km ?_
    show Steps p.tables e below (s₁.setTop (mkF m 77 #[.val (.int u0), .val (.int u1), .val (.int u2), .val (.int (u2 &&& (3 : Int32))), .val (.int (shE u2)), .val (.int (0 : Int32)), .val (.long ((1 : Int64) <<< ((shE u2) &&& 0x3f).toInt64)), .second, .val (.double (FP.dmul (FP.i2d u0) (FP.l2d ((1 : Int64) <<< ((shE u2) &&& 0x3f).toInt64)))), .second, .val (.double (FP.i2d u1)), .second, .val (.long (((u0.toInt64) * ((1 : Int64) <<< ((shE u2) &&& 0x3f).toInt64)) + (u1.toInt64))), .second, .unset, .unset, .unset, .unset, .unset, .unset, .unset, .unset, .unset, .unset] [])) _
    refine XS.iload X0.here hx rfl (hb hby at_77) rfl ?_
    show Steps p.tables e below (s₁.setTop (mkF m 79 #[.val (.int u0), .val (.int u1), .val (.int u2), .val (.int (u2 &&& (3 : Int32))), .val (.int (shE u2)), .val (.int (0 : Int32)), .val (.long ((1 : Int64) <<< ((shE u2) &&& 0x3f).toInt64)), .second, .val (.double (FP.dmul (FP.i2d u0) (FP.l2d ((1 : Int64) <<< ((shE u2) &&& 0x3f).toInt64)))), .second, .val (.double (FP.i2d u1)), .second, .val (.long (((u0.toInt64) * ((1 : Int64) <<< ((shE u2) &&& 0x3f).toInt64)) + (u1.toInt64))), .second, .unset, .unset, .unset, .unset, .unset, .unset, .unset, .unset, .unset, .unset] [(.int (0 : Int32))])) _
    refine XS.ifYes X0.here hx rfl (pc0 := 79) (pc' := 92) rfl (hb hby at_79) rfl ((if0 _ _).trans (teq (rfl : (0 : Int32) = (0 : Int32))).1) (by decide) (by decide) ?_
    show Steps p.tables e below (s₁.setTop (mkF m 92 #[.val (.int u0), .val (.int u1), .val (.int u2), .val (.int (u2 &&& (3 : Int32))), .val (.int (shE u2)), .val (.int (0 : Int32)), .val (.long ((1 : Int64) <<< ((shE u2) &&& 0x3f).toInt64)), .second, .val (.double (FP.dmul (FP.i2d u0) (FP.l2d ((1 : Int64) <<< ((shE u2) &&& 0x3f).toInt64)))), .second, .val (.double (FP.i2d u1)), .second, .val (.long (((u0.toInt64) * ((1 : Int64) <<< ((shE u2) &&& 0x3f).toInt64)) + (u1.toInt64))), .second, .unset, .unset, .unset, .unset, .unset, .unset, .unset, .unset, .unset, .unset] [])) _
    refine XS.dload X0.here hx rfl (hb hby at_92) rfl ?_
    show Steps p.tables e below (s₁.setTop (mkF m 94 #[.val (.int u0), .val (.int u1), .val (.int u2), .val (.int (u2 &&& (3 : Int32))), .val (.int (shE u2)), .val (.int (0 : Int32)), .val (.long ((1 : Int64) <<< ((shE u2) &&& 0x3f).toInt64)), .second, .val (.double (FP.dmul (FP.i2d u0) (FP.l2d ((1 : Int64) <<< ((shE u2) &&& 0x3f).toInt64)))), .second, .val (.double (FP.i2d u1)), .second, .val (.long (((u0.toInt64) * ((1 : Int64) <<< ((shE u2) &&& 0x3f).toInt64)) + (u1.toInt64))), .second, .unset, .unset, .unset, .unset, .unset, .unset, .unset, .unset, .unset, .unset] [(.double (FP.dmul (FP.i2d u0) (FP.l2d ((1 : Int64) <<< ((shE u2) &&& 0x3f).toInt64))))])) _
    refine XS.dload X0.here hx rfl (hb hby at_94) rfl ?_
    show Steps p.tables e below (s₁.setTop (mkF m 96 #[.val (.int u0), .val (.int u1), .val (.int u2), .val (.int (u2 &&& (3 : Int32))), .val (.int (shE u2)), .val (.int (0 : Int32)), .val (.long ((1 : Int64) <<< ((shE u2) &&& 0x3f).toInt64)), .second, .val (.double (FP.dmul (FP.i2d u0) (FP.l2d ((1 : Int64) <<< ((shE u2) &&& 0x3f).toInt64)))), .second, .val (.double (FP.i2d u1)), .second, .val (.long (((u0.toInt64) * ((1 : Int64) <<< ((shE u2) &&& 0x3f).toInt64)) + (u1.toInt64))), .second, .unset, .unset, .unset, .unset, .unset, .unset, .unset, .unset, .unset, .unset] [(.double (FP.i2d u1)), (.double (FP.dmul (FP.i2d u0) (FP.l2d ((1 : Int64) <<< ((shE u2) &&& 0x3f).toInt64))))])) _
    refine st1 _ ?_
    show Steps p.tables e below (T1.setTop (mkF m 99 #[.val (.int u0), .val (.int u1), .val (.int u2), .val (.int (u2 &&& (3 : Int32))), .val (.int (shE u2)), .val (.int (0 : Int32)), .val (.long ((1 : Int64) <<< ((shE u2) &&& 0x3f).toInt64)), .second, .val (.double (FP.dmul (FP.i2d u0) (FP.l2d ((1 : Int64) <<< ((shE u2) &&& 0x3f).toInt64)))), .second, .val (.double (FP.i2d u1)), .second, .val (.long (((u0.toInt64) * ((1 : Int64) <<< ((shE u2) &&& 0x3f).toInt64)) + (u1.toInt64))), .second, .unset, .unset, .unset, .unset, .unset, .unset, .unset, .unset, .unset, .unset] [(.double (addE (aE u0 u2) (FP.i2d u1)))])) _
    refine sL X1 hx hZ hw hby hown c1 c2 c3 c4 ?_
    show Steps p.tables e below (T1.setTop (mkF m 192 #[.val (.int u0), .val (.int u1), .val (.int u2), .val (.int (u2 &&& (3 : Int32))), .val (.int (shE u2)), .val (.int (0 : Int32)), .val (.long ((1 : Int64) <<< ((shE u2) &&& 0x3f).toInt64)), .second, .val (.double (FP.dmul (FP.i2d u0) (FP.l2d ((1 : Int64) <<< ((shE u2) &&& 0x3f).toInt64)))), .second, .val (.double (FP.i2d u1)), .second, .val (.long (((u0.toInt64) * ((1 : Int64) <<< ((shE u2) &&& 0x3f).toInt64)) + (u1.toInt64))), .second, .val (.double (addE (aE u0 u2) (FP.i2d u1))), .second, .val (.long (FP.d2l (addE (aE u0 u2) (FP.i2d u1)))), .second, .val (.double (FP.l2d (((u0.toInt64) * ((1 : Int64) <<< ((shE u2) &&& 0x3f).toInt64)) + (u1.toInt64)))), .second, .val (.long (FP.d2l (FP.l2d (((u0.toInt64) * ((1 : Int64) <<< ((shE u2) &&& 0x3f).toInt64)) + (u1.toInt64))))), .second, .val (.double (FP.l2d (((FP.d2l (FP.l2d (((u0.toInt64) * ((1 : Int64) <<< ((shE u2) &&& 0x3f).toInt64)) + (u1.toInt64)))) + (FP.d2l (addE (aE u0 u2) (FP.i2d u1)))) / (2 : Int64)))), .second] [(.int (1 : Int32))])) _
    exact retN X1 hx (t := .boolean) Bd.returns (by simp) (hb hby at_192) hr
  · show Q0 n0 _ T1.heap _
    rw [K1]
    exact ⟨rfl, Fr.app N0 N1q⟩
set_option maxRecDepth 65536 in
set_option maxHeartbeats 40000000 in
theorem rm0_nM (l : Launch) (Z : State) (a0 : Array Value) (hw : ∀ d ∈ tables_1, d.before a0 Z = true) (ws : List Jvm.Cond) (u0 u1 u2 : Int32) (h0 : Heap) (n0 : Nat) (Z0 : n0 ≤ h0.size) (hsw : u2 &&& 4 = 0) (km : Jvm.Free.Fl.NoNaN64 (aE u0 u2)) (k1 : Jvm.Free.Fl.NoNaN64 (FP.dadd (aE u0 u2) (FP.i2d u1))) (k2 : Jvm.Free.Fl.NoNaN64 (bpE (aE u0 u2) (FP.i2d u1))) (k3 : Jvm.Free.Fl.NoNaN64 (FP.dsub (FP.dadd (aE u0 u2) (FP.i2d u1)) (bpE (aE u0 u2) (FP.i2d u1)))) (k4 : Jvm.Free.Fl.NoNaN64 (FP.dsub (aE u0 u2) (FP.dsub (FP.dadd (aE u0 u2) (FP.i2d u1)) (bpE (aE u0 u2) (FP.i2d u1))))) (k5 : Jvm.Free.Fl.NoNaN64 (FP.dsub (FP.i2d u1) (bpE (aE u0 u2) (FP.i2d u1)))) (k6 : Jvm.Free.Fl.NoNaN64 (errE (aE u0 u2) (FP.i2d u1))) (hup : 0 < cmpValue (FP.dcmp (errE (aE u0 u2) (FP.i2d u1)) FP.dconst0) .l → Jvm.Free.Fl.Fin64 (FP.dadd (aE u0 u2) (FP.i2d u1)) ∧ FP.dadd (FP.dadd (aE u0 u2) (FP.i2d u1)) FP.dconst0 = FP.dadd (aE u0 u2) (FP.i2d u1) ∧ ((OwnFp.nextE (FP.dadd (aE u0 u2) (FP.i2d u1))) &&& 0x7fffffffffffffff > 0x7ff0000000000000 && (OwnFp.nextE (FP.dadd (aE u0 u2) (FP.i2d u1))) &&& 0x0008000000000000 == 0) = false) (c1 : cmpValue (FP.dcmp (FP.l2d (FP.d2l (addE (aE u0 u2) (FP.i2d u1)))) (addE (aE u0 u2) (FP.i2d u1))) .l = 0) (c2 : lcmpW (FP.d2l (FP.l2d (sE u0 u1 u2))) (sE u0 u1 u2) < 0) (c3 : 0 < lcmpW (FP.d2l (addE (aE u0 u2) (FP.i2d u1))) (sE u0 u1 u2)) (c4 : ¬ (cmpValue (FP.dcmp (FP.l2d ((FP.d2l (FP.l2d (sE u0 u1 u2)) + FP.d2l (addE (aE u0 u2) (FP.i2d u1))) / 2)) (FP.l2d (sE u0 u1 u2))) .l = 0)) (c5 : cmpValue (FP.dcmp (FP.l2d ((FP.d2l (FP.l2d (sE u0 u1 u2)) + FP.d2l (addE (aE u0 u2) (FP.i2d u1))) / 2)) (addE (aE u0 u2) (FP.i2d u1))) .l = 0) :
    MetFree l x (head1 (Jvm.Cond.code x code maxLocals ret :: ws) room_1) (fun aa U => aa = #[(.int u0), (.int u1), (.int u2)] ∧ Z.Warmed39 U.vm ∧ U.heap = h0) (fun _ _ _ _ _ => True) (fun _ U o U' => ∃ v L, o = .returned v ∧ Q0 n0 v U'.heap L ∧ FrameEnd U o U' L 0 0) := by
  refine MetFree.of_bodySF (plainFor_of_name pn_code) hisR ?_
  intro p e s m args below meth c s₁ Bd hml0 hP hK
  obtain ⟨rfl, hZ, hh⟩ := hP
  have hx := Bd.exec
  have hby := Bd.bytes
  have hml : c.maxLocals = 24 := hml0
  have hown : s.vm.findClass "com/example/unsplit/unsplit/UpwardAddPinLaw" = some m.cls := findClass_of_methodNamed Bd.named
  have hnm := (name_of_methodNamed Bd.named Bd.method).1
  have X0 : Stand p l e room_1 s m #[(.int u0), (.int u1), (.int u2)] below meth c s₁ [] 0 0 := Stand.of_body Bd
  have e0 : s₁.heap = h0 := by rw [← hh, Bd.state]; rfl
  have N0 := Fr.nil n0
  have pre0 : ∀ t, Steps p.tables e below (s₁.setTop (mkF m 0 #[.val (.int u0), .val (.int u1), .val (.int u2), .unset, .unset, .unset, .unset, .unset, .unset, .unset, .unset, .unset, .unset, .unset, .unset, .unset, .unset, .unset, .unset, .unset, .unset, .unset, .unset, .unset] [])) t → Steps p.tables e below (s₁.setTop (entryFrame m #[(.int u0), (.int u1), (.int u2)] maxLocals)) t := fun t k => castTop (ef_code m u0 u1 u2) k
  obtain ⟨_, _, ⟨T1, L1, k1, n1⟩, -, X1, ⟨Lc1, hQ1, l1, y1, z1⟩, st1⟩ := Jvm.LawKit.callS X0 hx (y := (⟨"com/example/unsplit/unsplit/Upward", "add", "(DD)D"⟩ : MethodName)) hown (mvT hZ (hw _ (List.mem_of_getElem? (i := 0) rfl))) (mvT hZ (hw _ (List.mem_of_getElem? (i := 1) rfl))) (mvT hZ (hw _ (List.mem_of_getElem? (i := 2) rfl))) (mvT hZ (hw _ (List.mem_of_getElem? (i := 3) rfl))) (by decide) (backOf (W := 0) (rmA l Z a0 hw [] (aE u0 u2) (FP.i2d u1) h0 n0 Z0 k1 k2 k3 k4 k5 k6 hup) hZ (hw _ (List.mem_of_getElem? (i := 3) rfl)) (hw _ (List.mem_of_getElem? (i := 2) rfl)) (by decide) (by decide)) (g := (mkF m 96 #[.val (.int u0), .val (.int u1), .val (.int u2), .val (.int (u2 &&& (3 : Int32))), .val (.int (shE u2)), .val (.int (0 : Int32)), .val (.long ((1 : Int64) <<< ((shE u2) &&& 0x3f).toInt64)), .second, .val (.double (FP.dmul (FP.i2d u0) (FP.l2d ((1 : Int64) <<< ((shE u2) &&& 0x3f).toInt64)))), .second, .val (.double (FP.i2d u1)), .second, .val (.long (((u0.toInt64) * ((1 : Int64) <<< ((shE u2) &&& 0x3f).toInt64)) + (u1.toInt64))), .second, .unset, .unset, .unset, .unset, .unset, .unset, .unset, .unset, .unset, .unset] [(.double (FP.i2d u1)), (.double (FP.dmul (FP.i2d u0) (FP.l2d ((1 : Int64) <<< ((shE u2) &&& 0x3f).toInt64))))])) rfl (by rw [hml]; rfl) (argsL := [(.double (FP.dmul (FP.i2d u0) (FP.l2d ((1 : Int64) <<< ((shE u2) &&& 0x3f).toInt64)))), (.double (FP.i2d u1))]) (rest := []) (lenOf pd__DD_D rfl) rfl (by show 2 * 0 + _ ≤ _; exact Nat.le_of_eq rfl) (hb hby at_96) (fun _ _ => ⟨rfl, e0, (by decide : 0 + 0 ≤ _), (by decide : 0 + 0 ≤ _)⟩)
  dsimp only [Pt.U, Pt.locs, Pt.cells, Pt.slots] at X1 l1 y1 z1 st1 hQ1
  subst l1 y1 z1
  obtain ⟨rfl, N1q, K1⟩ := hQ1
  obtain ⟨fs, hr, hrun, hended, hW, hsame⟩ := X1.leave (v := some (.int (1 : Int32))) (fun h => by rw [Bd.returns] at h; cases h)
  refine ⟨_, _, pre0 _ ?_, hrun, hended, _, _, rfl, ?_, ⟨_, rfl⟩, hW, hsame.mono (by decide) (by decide)⟩
  · show Steps p.tables e below (s₁.setTop (mkF m 0 #[.val (.int u0), .val (.int u1), .val (.int u2), .unset, .unset, .unset, .unset, .unset, .unset, .unset, .unset, .unset, .unset, .unset, .unset, .unset, .unset, .unset, .unset, .unset, .unset, .unset, .unset, .unset] [])) _
    refine sA X0 hx hZ hw hby hown  ?_
    show Steps p.tables e below (s₁.setTop (mkF m 34 #[.val (.int u0), .val (.int u1), .val (.int u2), .val (.int (u2 &&& (3 : Int32))), .unset, .unset, .unset, .unset, .unset, .unset, .unset, .unset, .unset, .unset, .unset, .unset, .unset, .unset, .unset, .unset, .unset, .unset, .unset, .unset] [(.int (shE u2))])) _
    refine sB_t X0 hx hZ hw hby hown hsw km ?_
    show Steps p.tables e below (s₁.setTop (mkF m 77 #[.val (.int u0), .val (.int u1), .val (.int u2), .val (.int (u2 &&& (3 : Int32))), .val (.int (shE u2)), .val (.int (0 : Int32)), .val (.long ((1 : Int64) <<< ((shE u2) &&& 0x3f).toInt64)), .second, .val (.double (FP.dmul (FP.i2d u0) (FP.l2d ((1 : Int64) <<< ((shE u2) &&& 0x3f).toInt64)))), .second, .val (.double (FP.i2d u1)), .second, .val (.long (((u0.toInt64) * ((1 : Int64) <<< ((shE u2) &&& 0x3f).toInt64)) + (u1.toInt64))), .second, .unset, .unset, .unset, .unset, .unset, .unset, .unset, .unset, .unset, .unset] [])) _
    refine XS.iload X0.here hx rfl (hb hby at_77) rfl ?_
    show Steps p.tables e below (s₁.setTop (mkF m 79 #[.val (.int u0), .val (.int u1), .val (.int u2), .val (.int (u2 &&& (3 : Int32))), .val (.int (shE u2)), .val (.int (0 : Int32)), .val (.long ((1 : Int64) <<< ((shE u2) &&& 0x3f).toInt64)), .second, .val (.double (FP.dmul (FP.i2d u0) (FP.l2d ((1 : Int64) <<< ((shE u2) &&& 0x3f).toInt64)))), .second, .val (.double (FP.i2d u1)), .second, .val (.long (((u0.toInt64) * ((1 : Int64) <<< ((shE u2) &&& 0x3f).toInt64)) + (u1.toInt64))), .second, .unset, .unset, .unset, .unset, .unset, .unset, .unset, .unset, .unset, .unset] [(.int (0 : Int32))])) _
    refine XS.ifYes X0.here hx rfl (pc0 := 79) (pc' := 92) rfl (hb hby at_79) rfl ((if0 _ _).trans (teq (rfl : (0 : Int32) = (0 : Int32))).1) (by decide) (by decide) ?_
    show Steps p.tables e below (s₁.setTop (mkF m 92 #[.val (.int u0), .val (.int u1), .val (.int u2), .val (.int (u2 &&& (3 : Int32))), .val (.int (shE u2)), .val (.int (0 : Int32)), .val (.long ((1 : Int64) <<< ((shE u2) &&& 0x3f).toInt64)), .second, .val (.double (FP.dmul (FP.i2d u0) (FP.l2d ((1 : Int64) <<< ((shE u2) &&& 0x3f).toInt64)))), .second, .val (.double (FP.i2d u1)), .second, .val (.long (((u0.toInt64) * ((1 : Int64) <<< ((shE u2) &&& 0x3f).toInt64)) + (u1.toInt64))), .second, .unset, .unset, .unset, .unset, .unset, .unset, .unset, .unset, .unset, .unset] [])) _
    refine XS.dload X0.here hx rfl (hb hby at_92) rfl ?_
    show Steps p.tables e below (s₁.setTop (mkF m 94 #[.val (.int u0), .val (.int u1), .val (.int u2), .val (.int (u2 &&& (3 : Int32))), .val (.int (shE u2)), .val (.int (0 : Int32)), .val (.long ((1 : Int64) <<< ((shE u2) &&& 0x3f).toInt64)), .second, .val (.double (FP.dmul (FP.i2d u0) (FP.l2d ((1 : Int64) <<< ((shE u2) &&& 0x3f).toInt64)))), .second, .val (.double (FP.i2d u1)), .second, .val (.long (((u0.toInt64) * ((1 : Int64) <<< ((shE u2) &&& 0x3f).toInt64)) + (u1.toInt64))), .second, .unset, .unset, .unset, .unset, .unset, .unset, .unset, .unset, .unset, .unset] [(.double (FP.dmul (FP.i2d u0) (FP.l2d ((1 : Int64) <<< ((shE u2) &&& 0x3f).toInt64))))])) _
    refine XS.dload X0.here hx rfl (hb hby at_94) rfl ?_
    show Steps p.tables e below (s₁.setTop (mkF m 96 #[.val (.int u0), .val (.int u1), .val (.int u2), .val (.int (u2 &&& (3 : Int32))), .val (.int (shE u2)), .val (.int (0 : Int32)), .val (.long ((1 : Int64) <<< ((shE u2) &&& 0x3f).toInt64)), .second, .val (.double (FP.dmul (FP.i2d u0) (FP.l2d ((1 : Int64) <<< ((shE u2) &&& 0x3f).toInt64)))), .second, .val (.double (FP.i2d u1)), .second, .val (.long (((u0.toInt64) * ((1 : Int64) <<< ((shE u2) &&& 0x3f).toInt64)) + (u1.toInt64))), .second, .unset, .unset, .unset, .unset, .unset, .unset, .unset, .unset, .unset, .unset] [(.double (FP.i2d u1)), (.double (FP.dmul (FP.i2d u0) (FP.l2d ((1 : Int64) <<< ((shE u2) &&& 0x3f).toInt64))))])) _
    refine st1 _ ?_
    show Steps p.tables e below (T1.setTop (mkF m 99 #[.val (.int u0), .val (.int u1), .val (.int u2), .val (.int (u2 &&& (3 : Int32))), .val (.int (shE u2)), .val (.int (0 : Int32)), .val (.long ((1 : Int64) <<< ((shE u2) &&& 0x3f).toInt64)), .second, .val (.double (FP.dmul (FP.i2d u0) (FP.l2d ((1 : Int64) <<< ((shE u2) &&& 0x3f).toInt64)))), .second, .val (.double (FP.i2d u1)), .second, .val (.long (((u0.toInt64) * ((1 : Int64) <<< ((shE u2) &&& 0x3f).toInt64)) + (u1.toInt64))), .second, .unset, .unset, .unset, .unset, .unset, .unset, .unset, .unset, .unset, .unset] [(.double (addE (aE u0 u2) (FP.i2d u1)))])) _
    refine sM X1 hx hZ hw hby hown c1 c2 c3 c4 c5 ?_
    show Steps p.tables e below (T1.setTop (mkF m 192 #[.val (.int u0), .val (.int u1), .val (.int u2), .val (.int (u2 &&& (3 : Int32))), .val (.int (shE u2)), .val (.int (0 : Int32)), .val (.long ((1 : Int64) <<< ((shE u2) &&& 0x3f).toInt64)), .second, .val (.double (FP.dmul (FP.i2d u0) (FP.l2d ((1 : Int64) <<< ((shE u2) &&& 0x3f).toInt64)))), .second, .val (.double (FP.i2d u1)), .second, .val (.long (((u0.toInt64) * ((1 : Int64) <<< ((shE u2) &&& 0x3f).toInt64)) + (u1.toInt64))), .second, .val (.double (addE (aE u0 u2) (FP.i2d u1))), .second, .val (.long (FP.d2l (addE (aE u0 u2) (FP.i2d u1)))), .second, .val (.double (FP.l2d (((u0.toInt64) * ((1 : Int64) <<< ((shE u2) &&& 0x3f).toInt64)) + (u1.toInt64)))), .second, .val (.long (FP.d2l (FP.l2d (((u0.toInt64) * ((1 : Int64) <<< ((shE u2) &&& 0x3f).toInt64)) + (u1.toInt64))))), .second, .val (.double (FP.l2d (((FP.d2l (FP.l2d (((u0.toInt64) * ((1 : Int64) <<< ((shE u2) &&& 0x3f).toInt64)) + (u1.toInt64)))) + (FP.d2l (addE (aE u0 u2) (FP.i2d u1)))) / (2 : Int64)))), .second] [(.int (1 : Int32))])) _
    exact retN X1 hx (t := .boolean) Bd.returns (by simp) (hb hby at_192) hr
  · show Q0 n0 _ T1.heap _
    rw [K1]
    exact ⟨rfl, Fr.app N0 N1q⟩
set_option maxRecDepth 65536 in
set_option maxHeartbeats 40000000 in
theorem rm0_sG (l : Launch) (Z : State) (a0 : Array Value) (hw : ∀ d ∈ tables_1, d.before a0 Z = true) (ws : List Jvm.Cond) (u0 u1 u2 : Int32) (h0 : Heap) (n0 : Nat) (Z0 : n0 ≤ h0.size) (hsw : ¬ (u2 &&& 4 = 0)) (km : Jvm.Free.Fl.NoNaN64 (aE u0 u2)) (k1 : Jvm.Free.Fl.NoNaN64 (FP.dadd (FP.i2d u1) (aE u0 u2))) (k2 : Jvm.Free.Fl.NoNaN64 (bpE (FP.i2d u1) (aE u0 u2))) (k3 : Jvm.Free.Fl.NoNaN64 (FP.dsub (FP.dadd (FP.i2d u1) (aE u0 u2)) (bpE (FP.i2d u1) (aE u0 u2)))) (k4 : Jvm.Free.Fl.NoNaN64 (FP.dsub (FP.i2d u1) (FP.dsub (FP.dadd (FP.i2d u1) (aE u0 u2)) (bpE (FP.i2d u1) (aE u0 u2))))) (k5 : Jvm.Free.Fl.NoNaN64 (FP.dsub (aE u0 u2) (bpE (FP.i2d u1) (aE u0 u2)))) (k6 : Jvm.Free.Fl.NoNaN64 (errE (FP.i2d u1) (aE u0 u2))) (hup : 0 < cmpValue (FP.dcmp (errE (FP.i2d u1) (aE u0 u2)) FP.dconst0) .l → Jvm.Free.Fl.Fin64 (FP.dadd (FP.i2d u1) (aE u0 u2)) ∧ FP.dadd (FP.dadd (FP.i2d u1) (aE u0 u2)) FP.dconst0 = FP.dadd (FP.i2d u1) (aE u0 u2) ∧ ((OwnFp.nextE (FP.dadd (FP.i2d u1) (aE u0 u2))) &&& 0x7fffffffffffffff > 0x7ff0000000000000 && (OwnFp.nextE (FP.dadd (FP.i2d u1) (aE u0 u2))) &&& 0x0008000000000000 == 0) = false) (c1 : cmpValue (FP.dcmp (FP.l2d (FP.d2l (addE (FP.i2d u1) (aE u0 u2)))) (addE (FP.i2d u1) (aE u0 u2))) .l = 0) (c2 : ¬ (lcmpW (FP.d2l (FP.l2d (sE u0 u1 u2))) (sE u0 u1 u2) < 0)) (c3 : cmpValue (FP.dcmp (addE (FP.i2d u1) (aE u0 u2)) (FP.l2d (sE u0 u1 u2))) .l = 0) :
    MetFree l x (head1 (Jvm.Cond.code x code maxLocals ret :: ws) room_1) (fun aa U => aa = #[(.int u0), (.int u1), (.int u2)] ∧ Z.Warmed39 U.vm ∧ U.heap = h0) (fun _ _ _ _ _ => True) (fun _ U o U' => ∃ v L, o = .returned v ∧ Q0 n0 v U'.heap L ∧ FrameEnd U o U' L 0 0) := by
  refine MetFree.of_bodySF (plainFor_of_name pn_code) hisR ?_
  intro p e s m args below meth c s₁ Bd hml0 hP hK
  obtain ⟨rfl, hZ, hh⟩ := hP
  have hx := Bd.exec
  have hby := Bd.bytes
  have hml : c.maxLocals = 24 := hml0
  have hown : s.vm.findClass "com/example/unsplit/unsplit/UpwardAddPinLaw" = some m.cls := findClass_of_methodNamed Bd.named
  have hnm := (name_of_methodNamed Bd.named Bd.method).1
  have X0 : Stand p l e room_1 s m #[(.int u0), (.int u1), (.int u2)] below meth c s₁ [] 0 0 := Stand.of_body Bd
  have e0 : s₁.heap = h0 := by rw [← hh, Bd.state]; rfl
  have N0 := Fr.nil n0
  have pre0 : ∀ t, Steps p.tables e below (s₁.setTop (mkF m 0 #[.val (.int u0), .val (.int u1), .val (.int u2), .unset, .unset, .unset, .unset, .unset, .unset, .unset, .unset, .unset, .unset, .unset, .unset, .unset, .unset, .unset, .unset, .unset, .unset, .unset, .unset, .unset] [])) t → Steps p.tables e below (s₁.setTop (entryFrame m #[(.int u0), (.int u1), (.int u2)] maxLocals)) t := fun t k => castTop (ef_code m u0 u1 u2) k
  obtain ⟨_, _, ⟨T1, L1, k1, n1⟩, -, X1, ⟨Lc1, hQ1, l1, y1, z1⟩, st1⟩ := Jvm.LawKit.callS X0 hx (y := (⟨"com/example/unsplit/unsplit/Upward", "add", "(DD)D"⟩ : MethodName)) hown (mvT hZ (hw _ (List.mem_of_getElem? (i := 0) rfl))) (mvT hZ (hw _ (List.mem_of_getElem? (i := 1) rfl))) (mvT hZ (hw _ (List.mem_of_getElem? (i := 2) rfl))) (mvT hZ (hw _ (List.mem_of_getElem? (i := 3) rfl))) (by decide) (backOf (W := 0) (rmA l Z a0 hw [] (FP.i2d u1) (aE u0 u2) h0 n0 Z0 k1 k2 k3 k4 k5 k6 hup) hZ (hw _ (List.mem_of_getElem? (i := 3) rfl)) (hw _ (List.mem_of_getElem? (i := 2) rfl)) (by decide) (by decide)) (g := (mkF m 86 #[.val (.int u0), .val (.int u1), .val (.int u2), .val (.int (u2 &&& (3 : Int32))), .val (.int (shE u2)), .val (.int (1 : Int32)), .val (.long ((1 : Int64) <<< ((shE u2) &&& 0x3f).toInt64)), .second, .val (.double (FP.dmul (FP.i2d u0) (FP.l2d ((1 : Int64) <<< ((shE u2) &&& 0x3f).toInt64)))), .second, .val (.double (FP.i2d u1)), .second, .val (.long (((u0.toInt64) * ((1 : Int64) <<< ((shE u2) &&& 0x3f).toInt64)) + (u1.toInt64))), .second, .unset, .unset, .unset, .unset, .unset, .unset, .unset, .unset, .unset, .unset] [(.double (FP.dmul (FP.i2d u0) (FP.l2d ((1 : Int64) <<< ((shE u2) &&& 0x3f).toInt64)))), (.double (FP.i2d u1))])) rfl (by rw [hml]; rfl) (argsL := [(.double (FP.i2d u1)), (.double (FP.dmul (FP.i2d u0) (FP.l2d ((1 : Int64) <<< ((shE u2) &&& 0x3f).toInt64))))]) (rest := []) (lenOf pd__DD_D rfl) rfl (by show 2 * 0 + _ ≤ _; exact Nat.le_of_eq rfl) (hb hby at_86) (fun _ _ => ⟨rfl, e0, (by decide : 0 + 0 ≤ _), (by decide : 0 + 0 ≤ _)⟩)
  dsimp only [Pt.U, Pt.locs, Pt.cells, Pt.slots] at X1 l1 y1 z1 st1 hQ1
  subst l1 y1 z1
  obtain ⟨rfl, N1q, K1⟩ := hQ1
  obtain ⟨fs, hr, hrun, hended, hW, hsame⟩ := X1.leave (v := some (.int (1 : Int32))) (fun h => by rw [Bd.returns] at h; cases h)
  refine ⟨_, _, pre0 _ ?_, hrun, hended, _, _, rfl, ?_, ⟨_, rfl⟩, hW, hsame.mono (by decide) (by decide)⟩
  · show Steps p.tables e below (s₁.setTop (mkF m 0 #[.val (.int u0), .val (.int u1), .val (.int u2), .unset, .unset, .unset, .unset, .unset, .unset, .unset, .unset, .unset, .unset, .unset, .unset, .unset, .unset, .unset, .unset, .unset, .unset, .unset, .unset, .unset] [])) _
    refine sA X0 hx hZ hw hby hown  ?_
    show Steps p.tables e below (s₁.setTop (mkF m 34 #[.val (.int u0), .val (.int u1), .val (.int u2), .val (.int (u2 &&& (3 : Int32))), .unset, .unset, .unset, .unset, .unset, .unset, .unset, .unset, .unset, .unset, .unset, .unset, .unset, .unset, .unset, .unset, .unset, .unset, .unset, .unset] [(.int (shE u2))])) _
    refine sB_f X0 hx hZ hw hby hown hsw km ?_
    show Steps p.tables e below (s₁.setTop (mkF m 77 #[.val (.int u0), .val (.int u1), .val (.int u2), .val (.int (u2 &&& (3 : Int32))), .val (.int (shE u2)), .val (.int (1 : Int32)), .val (.long ((1 : Int64) <<< ((shE u2) &&& 0x3f).toInt64)), .second, .val (.double (FP.dmul (FP.i2d u0) (FP.l2d ((1 : Int64) <<< ((shE u2) &&& 0x3f).toInt64)))), .second, .val (.double (FP.i2d u1)), .second, .val (.long (((u0.toInt64) * ((1 : Int64) <<< ((shE u2) &&& 0x3f).toInt64)) + (u1.toInt64))), .second, .unset, .unset, .unset, .unset, .unset, .unset, .unset, .unset, .unset, .unset] [])) _
    refine XS.iload X0.here hx rfl (hb hby at_77) rfl ?_
    show Steps p.tables e below (s₁.setTop (mkF m 79 #[.val (.int u0), .val (.int u1), .val (.int u2), .val (.int (u2 &&& (3 : Int32))), .val (.int (shE u2)), .val (.int (1 : Int32)), .val (.long ((1 : Int64) <<< ((shE u2) &&& 0x3f).toInt64)), .second, .val (.double (FP.dmul (FP.i2d u0) (FP.l2d ((1 : Int64) <<< ((shE u2) &&& 0x3f).toInt64)))), .second, .val (.double (FP.i2d u1)), .second, .val (.long (((u0.toInt64) * ((1 : Int64) <<< ((shE u2) &&& 0x3f).toInt64)) + (u1.toInt64))), .second, .unset, .unset, .unset, .unset, .unset, .unset, .unset, .unset, .unset, .unset] [(.int (1 : Int32))])) _
    refine XS.ifNo X0.here hx rfl (hb hby at_79) rfl ((if0 _ _).trans (feq (by decide : ¬ ((1 : Int32) = (0 : Int32)))).1) ?_
    show Steps p.tables e below (s₁.setTop (mkF m 82 #[.val (.int u0), .val (.int u1), .val (.int u2), .val (.int (u2 &&& (3 : Int32))), .val (.int (shE u2)), .val (.int (1 : Int32)), .val (.long ((1 : Int64) <<< ((shE u2) &&& 0x3f).toInt64)), .second, .val (.double (FP.dmul (FP.i2d u0) (FP.l2d ((1 : Int64) <<< ((shE u2) &&& 0x3f).toInt64)))), .second, .val (.double (FP.i2d u1)), .second, .val (.long (((u0.toInt64) * ((1 : Int64) <<< ((shE u2) &&& 0x3f).toInt64)) + (u1.toInt64))), .second, .unset, .unset, .unset, .unset, .unset, .unset, .unset, .unset, .unset, .unset] [])) _
    refine XS.dload X0.here hx rfl (hb hby at_82) rfl ?_
    show Steps p.tables e below (s₁.setTop (mkF m 84 #[.val (.int u0), .val (.int u1), .val (.int u2), .val (.int (u2 &&& (3 : Int32))), .val (.int (shE u2)), .val (.int (1 : Int32)), .val (.long ((1 : Int64) <<< ((shE u2) &&& 0x3f).toInt64)), .second, .val (.double (FP.dmul (FP.i2d u0) (FP.l2d ((1 : Int64) <<< ((shE u2) &&& 0x3f).toInt64)))), .second, .val (.double (FP.i2d u1)), .second, .val (.long (((u0.toInt64) * ((1 : Int64) <<< ((shE u2) &&& 0x3f).toInt64)) + (u1.toInt64))), .second, .unset, .unset, .unset, .unset, .unset, .unset, .unset, .unset, .unset, .unset] [(.double (FP.i2d u1))])) _
    refine XS.dload X0.here hx rfl (hb hby at_84) rfl ?_
    show Steps p.tables e below (s₁.setTop (mkF m 86 #[.val (.int u0), .val (.int u1), .val (.int u2), .val (.int (u2 &&& (3 : Int32))), .val (.int (shE u2)), .val (.int (1 : Int32)), .val (.long ((1 : Int64) <<< ((shE u2) &&& 0x3f).toInt64)), .second, .val (.double (FP.dmul (FP.i2d u0) (FP.l2d ((1 : Int64) <<< ((shE u2) &&& 0x3f).toInt64)))), .second, .val (.double (FP.i2d u1)), .second, .val (.long (((u0.toInt64) * ((1 : Int64) <<< ((shE u2) &&& 0x3f).toInt64)) + (u1.toInt64))), .second, .unset, .unset, .unset, .unset, .unset, .unset, .unset, .unset, .unset, .unset] [(.double (FP.dmul (FP.i2d u0) (FP.l2d ((1 : Int64) <<< ((shE u2) &&& 0x3f).toInt64)))), (.double (FP.i2d u1))])) _
    refine st1 _ ?_
    show Steps p.tables e below (T1.setTop (mkF m 89 #[.val (.int u0), .val (.int u1), .val (.int u2), .val (.int (u2 &&& (3 : Int32))), .val (.int (shE u2)), .val (.int (1 : Int32)), .val (.long ((1 : Int64) <<< ((shE u2) &&& 0x3f).toInt64)), .second, .val (.double (FP.dmul (FP.i2d u0) (FP.l2d ((1 : Int64) <<< ((shE u2) &&& 0x3f).toInt64)))), .second, .val (.double (FP.i2d u1)), .second, .val (.long (((u0.toInt64) * ((1 : Int64) <<< ((shE u2) &&& 0x3f).toInt64)) + (u1.toInt64))), .second, .unset, .unset, .unset, .unset, .unset, .unset, .unset, .unset, .unset, .unset] [(.double (addE (FP.i2d u1) (aE u0 u2)))])) _
    refine XS.goto X1.here hx rfl (pc0 := 89) (pc' := 99) rfl (hb hby at_89) (by decide) (by decide) ?_
    show Steps p.tables e below (T1.setTop (mkF m 99 #[.val (.int u0), .val (.int u1), .val (.int u2), .val (.int (u2 &&& (3 : Int32))), .val (.int (shE u2)), .val (.int (1 : Int32)), .val (.long ((1 : Int64) <<< ((shE u2) &&& 0x3f).toInt64)), .second, .val (.double (FP.dmul (FP.i2d u0) (FP.l2d ((1 : Int64) <<< ((shE u2) &&& 0x3f).toInt64)))), .second, .val (.double (FP.i2d u1)), .second, .val (.long (((u0.toInt64) * ((1 : Int64) <<< ((shE u2) &&& 0x3f).toInt64)) + (u1.toInt64))), .second, .unset, .unset, .unset, .unset, .unset, .unset, .unset, .unset, .unset, .unset] [(.double (addE (FP.i2d u1) (aE u0 u2)))])) _
    refine sG X1 hx hZ hw hby hown c1 c2 c3 ?_
    show Steps p.tables e below (T1.setTop (mkF m 148 #[.val (.int u0), .val (.int u1), .val (.int u2), .val (.int (u2 &&& (3 : Int32))), .val (.int (shE u2)), .val (.int (1 : Int32)), .val (.long ((1 : Int64) <<< ((shE u2) &&& 0x3f).toInt64)), .second, .val (.double (FP.dmul (FP.i2d u0) (FP.l2d ((1 : Int64) <<< ((shE u2) &&& 0x3f).toInt64)))), .second, .val (.double (FP.i2d u1)), .second, .val (.long (((u0.toInt64) * ((1 : Int64) <<< ((shE u2) &&& 0x3f).toInt64)) + (u1.toInt64))), .second, .val (.double (addE (FP.i2d u1) (aE u0 u2))), .second, .val (.long (FP.d2l (addE (FP.i2d u1) (aE u0 u2)))), .second, .val (.double (FP.l2d (((u0.toInt64) * ((1 : Int64) <<< ((shE u2) &&& 0x3f).toInt64)) + (u1.toInt64)))), .second, .val (.long (FP.d2l (FP.l2d (((u0.toInt64) * ((1 : Int64) <<< ((shE u2) &&& 0x3f).toInt64)) + (u1.toInt64))))), .second, .unset, .unset] [(.int (1 : Int32))])) _
    exact retN X1 hx (t := .boolean) Bd.returns (by simp) (hb hby at_148) hr
  · show Q0 n0 _ T1.heap _
    rw [K1]
    exact ⟨rfl, Fr.app N0 N1q⟩
set_option maxRecDepth 65536 in
set_option maxHeartbeats 40000000 in
theorem rm0_sL (l : Launch) (Z : State) (a0 : Array Value) (hw : ∀ d ∈ tables_1, d.before a0 Z = true) (ws : List Jvm.Cond) (u0 u1 u2 : Int32) (h0 : Heap) (n0 : Nat) (Z0 : n0 ≤ h0.size) (hsw : ¬ (u2 &&& 4 = 0)) (km : Jvm.Free.Fl.NoNaN64 (aE u0 u2)) (k1 : Jvm.Free.Fl.NoNaN64 (FP.dadd (FP.i2d u1) (aE u0 u2))) (k2 : Jvm.Free.Fl.NoNaN64 (bpE (FP.i2d u1) (aE u0 u2))) (k3 : Jvm.Free.Fl.NoNaN64 (FP.dsub (FP.dadd (FP.i2d u1) (aE u0 u2)) (bpE (FP.i2d u1) (aE u0 u2)))) (k4 : Jvm.Free.Fl.NoNaN64 (FP.dsub (FP.i2d u1) (FP.dsub (FP.dadd (FP.i2d u1) (aE u0 u2)) (bpE (FP.i2d u1) (aE u0 u2))))) (k5 : Jvm.Free.Fl.NoNaN64 (FP.dsub (aE u0 u2) (bpE (FP.i2d u1) (aE u0 u2)))) (k6 : Jvm.Free.Fl.NoNaN64 (errE (FP.i2d u1) (aE u0 u2))) (hup : 0 < cmpValue (FP.dcmp (errE (FP.i2d u1) (aE u0 u2)) FP.dconst0) .l → Jvm.Free.Fl.Fin64 (FP.dadd (FP.i2d u1) (aE u0 u2)) ∧ FP.dadd (FP.dadd (FP.i2d u1) (aE u0 u2)) FP.dconst0 = FP.dadd (FP.i2d u1) (aE u0 u2) ∧ ((OwnFp.nextE (FP.dadd (FP.i2d u1) (aE u0 u2))) &&& 0x7fffffffffffffff > 0x7ff0000000000000 && (OwnFp.nextE (FP.dadd (FP.i2d u1) (aE u0 u2))) &&& 0x0008000000000000 == 0) = false) (c1 : cmpValue (FP.dcmp (FP.l2d (FP.d2l (addE (FP.i2d u1) (aE u0 u2)))) (addE (FP.i2d u1) (aE u0 u2))) .l = 0) (c2 : lcmpW (FP.d2l (FP.l2d (sE u0 u1 u2))) (sE u0 u1 u2) < 0) (c3 : 0 < lcmpW (FP.d2l (addE (FP.i2d u1) (aE u0 u2))) (sE u0 u1 u2)) (c4 : cmpValue (FP.dcmp (FP.l2d ((FP.d2l (FP.l2d (sE u0 u1 u2)) + FP.d2l (addE (FP.i2d u1) (aE u0 u2))) / 2)) (FP.l2d (sE u0 u1 u2))) .l = 0) :
    MetFree l x (head1 (Jvm.Cond.code x code maxLocals ret :: ws) room_1) (fun aa U => aa = #[(.int u0), (.int u1), (.int u2)] ∧ Z.Warmed39 U.vm ∧ U.heap = h0) (fun _ _ _ _ _ => True) (fun _ U o U' => ∃ v L, o = .returned v ∧ Q0 n0 v U'.heap L ∧ FrameEnd U o U' L 0 0) := by
  refine MetFree.of_bodySF (plainFor_of_name pn_code) hisR ?_
  intro p e s m args below meth c s₁ Bd hml0 hP hK
  obtain ⟨rfl, hZ, hh⟩ := hP
  have hx := Bd.exec
  have hby := Bd.bytes
  have hml : c.maxLocals = 24 := hml0
  have hown : s.vm.findClass "com/example/unsplit/unsplit/UpwardAddPinLaw" = some m.cls := findClass_of_methodNamed Bd.named
  have hnm := (name_of_methodNamed Bd.named Bd.method).1
  have X0 : Stand p l e room_1 s m #[(.int u0), (.int u1), (.int u2)] below meth c s₁ [] 0 0 := Stand.of_body Bd
  have e0 : s₁.heap = h0 := by rw [← hh, Bd.state]; rfl
  have N0 := Fr.nil n0
  have pre0 : ∀ t, Steps p.tables e below (s₁.setTop (mkF m 0 #[.val (.int u0), .val (.int u1), .val (.int u2), .unset, .unset, .unset, .unset, .unset, .unset, .unset, .unset, .unset, .unset, .unset, .unset, .unset, .unset, .unset, .unset, .unset, .unset, .unset, .unset, .unset] [])) t → Steps p.tables e below (s₁.setTop (entryFrame m #[(.int u0), (.int u1), (.int u2)] maxLocals)) t := fun t k => castTop (ef_code m u0 u1 u2) k
  obtain ⟨_, _, ⟨T1, L1, k1, n1⟩, -, X1, ⟨Lc1, hQ1, l1, y1, z1⟩, st1⟩ := Jvm.LawKit.callS X0 hx (y := (⟨"com/example/unsplit/unsplit/Upward", "add", "(DD)D"⟩ : MethodName)) hown (mvT hZ (hw _ (List.mem_of_getElem? (i := 0) rfl))) (mvT hZ (hw _ (List.mem_of_getElem? (i := 1) rfl))) (mvT hZ (hw _ (List.mem_of_getElem? (i := 2) rfl))) (mvT hZ (hw _ (List.mem_of_getElem? (i := 3) rfl))) (by decide) (backOf (W := 0) (rmA l Z a0 hw [] (FP.i2d u1) (aE u0 u2) h0 n0 Z0 k1 k2 k3 k4 k5 k6 hup) hZ (hw _ (List.mem_of_getElem? (i := 3) rfl)) (hw _ (List.mem_of_getElem? (i := 2) rfl)) (by decide) (by decide)) (g := (mkF m 86 #[.val (.int u0), .val (.int u1), .val (.int u2), .val (.int (u2 &&& (3 : Int32))), .val (.int (shE u2)), .val (.int (1 : Int32)), .val (.long ((1 : Int64) <<< ((shE u2) &&& 0x3f).toInt64)), .second, .val (.double (FP.dmul (FP.i2d u0) (FP.l2d ((1 : Int64) <<< ((shE u2) &&& 0x3f).toInt64)))), .second, .val (.double (FP.i2d u1)), .second, .val (.long (((u0.toInt64) * ((1 : Int64) <<< ((shE u2) &&& 0x3f).toInt64)) + (u1.toInt64))), .second, .unset, .unset, .unset, .unset, .unset, .unset, .unset, .unset, .unset, .unset] [(.double (FP.dmul (FP.i2d u0) (FP.l2d ((1 : Int64) <<< ((shE u2) &&& 0x3f).toInt64)))), (.double (FP.i2d u1))])) rfl (by rw [hml]; rfl) (argsL := [(.double (FP.i2d u1)), (.double (FP.dmul (FP.i2d u0) (FP.l2d ((1 : Int64) <<< ((shE u2) &&& 0x3f).toInt64))))]) (rest := []) (lenOf pd__DD_D rfl) rfl (by show 2 * 0 + _ ≤ _; exact Nat.le_of_eq rfl) (hb hby at_86) (fun _ _ => ⟨rfl, e0, (by decide : 0 + 0 ≤ _), (by decide : 0 + 0 ≤ _)⟩)
  dsimp only [Pt.U, Pt.locs, Pt.cells, Pt.slots] at X1 l1 y1 z1 st1 hQ1
  subst l1 y1 z1
  obtain ⟨rfl, N1q, K1⟩ := hQ1
  obtain ⟨fs, hr, hrun, hended, hW, hsame⟩ := X1.leave (v := some (.int (1 : Int32))) (fun h => by rw [Bd.returns] at h; cases h)
  refine ⟨_, _, pre0 _ ?_, hrun, hended, _, _, rfl, ?_, ⟨_, rfl⟩, hW, hsame.mono (by decide) (by decide)⟩
  · show Steps p.tables e below (s₁.setTop (mkF m 0 #[.val (.int u0), .val (.int u1), .val (.int u2), .unset, .unset, .unset, .unset, .unset, .unset, .unset, .unset, .unset, .unset, .unset, .unset, .unset, .unset, .unset, .unset, .unset, .unset, .unset, .unset, .unset] [])) _
    refine sA X0 hx hZ hw hby hown  ?_
    show Steps p.tables e below (s₁.setTop (mkF m 34 #[.val (.int u0), .val (.int u1), .val (.int u2), .val (.int (u2 &&& (3 : Int32))), .unset, .unset, .unset, .unset, .unset, .unset, .unset, .unset, .unset, .unset, .unset, .unset, .unset, .unset, .unset, .unset, .unset, .unset, .unset, .unset] [(.int (shE u2))])) _
    refine sB_f X0 hx hZ hw hby hown hsw km ?_
    show Steps p.tables e below (s₁.setTop (mkF m 77 #[.val (.int u0), .val (.int u1), .val (.int u2), .val (.int (u2 &&& (3 : Int32))), .val (.int (shE u2)), .val (.int (1 : Int32)), .val (.long ((1 : Int64) <<< ((shE u2) &&& 0x3f).toInt64)), .second, .val (.double (FP.dmul (FP.i2d u0) (FP.l2d ((1 : Int64) <<< ((shE u2) &&& 0x3f).toInt64)))), .second, .val (.double (FP.i2d u1)), .second, .val (.long (((u0.toInt64) * ((1 : Int64) <<< ((shE u2) &&& 0x3f).toInt64)) + (u1.toInt64))), .second, .unset, .unset, .unset, .unset, .unset, .unset, .unset, .unset, .unset, .unset] [])) _
    refine XS.iload X0.here hx rfl (hb hby at_77) rfl ?_
    show Steps p.tables e below (s₁.setTop (mkF m 79 #[.val (.int u0), .val (.int u1), .val (.int u2), .val (.int (u2 &&& (3 : Int32))), .val (.int (shE u2)), .val (.int (1 : Int32)), .val (.long ((1 : Int64) <<< ((shE u2) &&& 0x3f).toInt64)), .second, .val (.double (FP.dmul (FP.i2d u0) (FP.l2d ((1 : Int64) <<< ((shE u2) &&& 0x3f).toInt64)))), .second, .val (.double (FP.i2d u1)), .second, .val (.long (((u0.toInt64) * ((1 : Int64) <<< ((shE u2) &&& 0x3f).toInt64)) + (u1.toInt64))), .second, .unset, .unset, .unset, .unset, .unset, .unset, .unset, .unset, .unset, .unset] [(.int (1 : Int32))])) _
    refine XS.ifNo X0.here hx rfl (hb hby at_79) rfl ((if0 _ _).trans (feq (by decide : ¬ ((1 : Int32) = (0 : Int32)))).1) ?_
    show Steps p.tables e below (s₁.setTop (mkF m 82 #[.val (.int u0), .val (.int u1), .val (.int u2), .val (.int (u2 &&& (3 : Int32))), .val (.int (shE u2)), .val (.int (1 : Int32)), .val (.long ((1 : Int64) <<< ((shE u2) &&& 0x3f).toInt64)), .second, .val (.double (FP.dmul (FP.i2d u0) (FP.l2d ((1 : Int64) <<< ((shE u2) &&& 0x3f).toInt64)))), .second, .val (.double (FP.i2d u1)), .second, .val (.long (((u0.toInt64) * ((1 : Int64) <<< ((shE u2) &&& 0x3f).toInt64)) + (u1.toInt64))), .second, .unset, .unset, .unset, .unset, .unset, .unset, .unset, .unset, .unset, .unset] [])) _
    refine XS.dload X0.here hx rfl (hb hby at_82) rfl ?_
    show Steps p.tables e below (s₁.setTop (mkF m 84 #[.val (.int u0), .val (.int u1), .val (.int u2), .val (.int (u2 &&& (3 : Int32))), .val (.int (shE u2)), .val (.int (1 : Int32)), .val (.long ((1 : Int64) <<< ((shE u2) &&& 0x3f).toInt64)), .second, .val (.double (FP.dmul (FP.i2d u0) (FP.l2d ((1 : Int64) <<< ((shE u2) &&& 0x3f).toInt64)))), .second, .val (.double (FP.i2d u1)), .second, .val (.long (((u0.toInt64) * ((1 : Int64) <<< ((shE u2) &&& 0x3f).toInt64)) + (u1.toInt64))), .second, .unset, .unset, .unset, .unset, .unset, .unset, .unset, .unset, .unset, .unset] [(.double (FP.i2d u1))])) _
    refine XS.dload X0.here hx rfl (hb hby at_84) rfl ?_
    show Steps p.tables e below (s₁.setTop (mkF m 86 #[.val (.int u0), .val (.int u1), .val (.int u2), .val (.int (u2 &&& (3 : Int32))), .val (.int (shE u2)), .val (.int (1 : Int32)), .val (.long ((1 : Int64) <<< ((shE u2) &&& 0x3f).toInt64)), .second, .val (.double (FP.dmul (FP.i2d u0) (FP.l2d ((1 : Int64) <<< ((shE u2) &&& 0x3f).toInt64)))), .second, .val (.double (FP.i2d u1)), .second, .val (.long (((u0.toInt64) * ((1 : Int64) <<< ((shE u2) &&& 0x3f).toInt64)) + (u1.toInt64))), .second, .unset, .unset, .unset, .unset, .unset, .unset, .unset, .unset, .unset, .unset] [(.double (FP.dmul (FP.i2d u0) (FP.l2d ((1 : Int64) <<< ((shE u2) &&& 0x3f).toInt64)))), (.double (FP.i2d u1))])) _
    refine st1 _ ?_
    show Steps p.tables e below (T1.setTop (mkF m 89 #[.val (.int u0), .val (.int u1), .val (.int u2), .val (.int (u2 &&& (3 : Int32))), .val (.int (shE u2)), .val (.int (1 : Int32)), .val (.long ((1 : Int64) <<< ((shE u2) &&& 0x3f).toInt64)), .second, .val (.double (FP.dmul (FP.i2d u0) (FP.l2d ((1 : Int64) <<< ((shE u2) &&& 0x3f).toInt64)))), .second, .val (.double (FP.i2d u1)), .second, .val (.long (((u0.toInt64) * ((1 : Int64) <<< ((shE u2) &&& 0x3f).toInt64)) + (u1.toInt64))), .second, .unset, .unset, .unset, .unset, .unset, .unset, .unset, .unset, .unset, .unset] [(.double (addE (FP.i2d u1) (aE u0 u2)))])) _
    refine XS.goto X1.here hx rfl (pc0 := 89) (pc' := 99) rfl (hb hby at_89) (by decide) (by decide) ?_
    show Steps p.tables e below (T1.setTop (mkF m 99 #[.val (.int u0), .val (.int u1), .val (.int u2), .val (.int (u2 &&& (3 : Int32))), .val (.int (shE u2)), .val (.int (1 : Int32)), .val (.long ((1 : Int64) <<< ((shE u2) &&& 0x3f).toInt64)), .second, .val (.double (FP.dmul (FP.i2d u0) (FP.l2d ((1 : Int64) <<< ((shE u2) &&& 0x3f).toInt64)))), .second, .val (.double (FP.i2d u1)), .second, .val (.long (((u0.toInt64) * ((1 : Int64) <<< ((shE u2) &&& 0x3f).toInt64)) + (u1.toInt64))), .second, .unset, .unset, .unset, .unset, .unset, .unset, .unset, .unset, .unset, .unset] [(.double (addE (FP.i2d u1) (aE u0 u2)))])) _
    refine sL X1 hx hZ hw hby hown c1 c2 c3 c4 ?_
    show Steps p.tables e below (T1.setTop (mkF m 192 #[.val (.int u0), .val (.int u1), .val (.int u2), .val (.int (u2 &&& (3 : Int32))), .val (.int (shE u2)), .val (.int (1 : Int32)), .val (.long ((1 : Int64) <<< ((shE u2) &&& 0x3f).toInt64)), .second, .val (.double (FP.dmul (FP.i2d u0) (FP.l2d ((1 : Int64) <<< ((shE u2) &&& 0x3f).toInt64)))), .second, .val (.double (FP.i2d u1)), .second, .val (.long (((u0.toInt64) * ((1 : Int64) <<< ((shE u2) &&& 0x3f).toInt64)) + (u1.toInt64))), .second, .val (.double (addE (FP.i2d u1) (aE u0 u2))), .second, .val (.long (FP.d2l (addE (FP.i2d u1) (aE u0 u2)))), .second, .val (.double (FP.l2d (((u0.toInt64) * ((1 : Int64) <<< ((shE u2) &&& 0x3f).toInt64)) + (u1.toInt64)))), .second, .val (.long (FP.d2l (FP.l2d (((u0.toInt64) * ((1 : Int64) <<< ((shE u2) &&& 0x3f).toInt64)) + (u1.toInt64))))), .second, .val (.double (FP.l2d (((FP.d2l (FP.l2d (((u0.toInt64) * ((1 : Int64) <<< ((shE u2) &&& 0x3f).toInt64)) + (u1.toInt64)))) + (FP.d2l (addE (FP.i2d u1) (aE u0 u2)))) / (2 : Int64)))), .second] [(.int (1 : Int32))])) _
    exact retN X1 hx (t := .boolean) Bd.returns (by simp) (hb hby at_192) hr
  · show Q0 n0 _ T1.heap _
    rw [K1]
    exact ⟨rfl, Fr.app N0 N1q⟩
set_option maxRecDepth 65536 in
set_option maxHeartbeats 40000000 in
theorem rm0_sM (l : Launch) (Z : State) (a0 : Array Value) (hw : ∀ d ∈ tables_1, d.before a0 Z = true) (ws : List Jvm.Cond) (u0 u1 u2 : Int32) (h0 : Heap) (n0 : Nat) (Z0 : n0 ≤ h0.size) (hsw : ¬ (u2 &&& 4 = 0)) (km : Jvm.Free.Fl.NoNaN64 (aE u0 u2)) (k1 : Jvm.Free.Fl.NoNaN64 (FP.dadd (FP.i2d u1) (aE u0 u2))) (k2 : Jvm.Free.Fl.NoNaN64 (bpE (FP.i2d u1) (aE u0 u2))) (k3 : Jvm.Free.Fl.NoNaN64 (FP.dsub (FP.dadd (FP.i2d u1) (aE u0 u2)) (bpE (FP.i2d u1) (aE u0 u2)))) (k4 : Jvm.Free.Fl.NoNaN64 (FP.dsub (FP.i2d u1) (FP.dsub (FP.dadd (FP.i2d u1) (aE u0 u2)) (bpE (FP.i2d u1) (aE u0 u2))))) (k5 : Jvm.Free.Fl.NoNaN64 (FP.dsub (aE u0 u2) (bpE (FP.i2d u1) (aE u0 u2)))) (k6 : Jvm.Free.Fl.NoNaN64 (errE (FP.i2d u1) (aE u0 u2))) (hup : 0 < cmpValue (FP.dcmp (errE (FP.i2d u1) (aE u0 u2)) FP.dconst0) .l → Jvm.Free.Fl.Fin64 (FP.dadd (FP.i2d u1) (aE u0 u2)) ∧ FP.dadd (FP.dadd (FP.i2d u1) (aE u0 u2)) FP.dconst0 = FP.dadd (FP.i2d u1) (aE u0 u2) ∧ ((OwnFp.nextE (FP.dadd (FP.i2d u1) (aE u0 u2))) &&& 0x7fffffffffffffff > 0x7ff0000000000000 && (OwnFp.nextE (FP.dadd (FP.i2d u1) (aE u0 u2))) &&& 0x0008000000000000 == 0) = false) (c1 : cmpValue (FP.dcmp (FP.l2d (FP.d2l (addE (FP.i2d u1) (aE u0 u2)))) (addE (FP.i2d u1) (aE u0 u2))) .l = 0) (c2 : lcmpW (FP.d2l (FP.l2d (sE u0 u1 u2))) (sE u0 u1 u2) < 0) (c3 : 0 < lcmpW (FP.d2l (addE (FP.i2d u1) (aE u0 u2))) (sE u0 u1 u2)) (c4 : ¬ (cmpValue (FP.dcmp (FP.l2d ((FP.d2l (FP.l2d (sE u0 u1 u2)) + FP.d2l (addE (FP.i2d u1) (aE u0 u2))) / 2)) (FP.l2d (sE u0 u1 u2))) .l = 0)) (c5 : cmpValue (FP.dcmp (FP.l2d ((FP.d2l (FP.l2d (sE u0 u1 u2)) + FP.d2l (addE (FP.i2d u1) (aE u0 u2))) / 2)) (addE (FP.i2d u1) (aE u0 u2))) .l = 0) :
    MetFree l x (head1 (Jvm.Cond.code x code maxLocals ret :: ws) room_1) (fun aa U => aa = #[(.int u0), (.int u1), (.int u2)] ∧ Z.Warmed39 U.vm ∧ U.heap = h0) (fun _ _ _ _ _ => True) (fun _ U o U' => ∃ v L, o = .returned v ∧ Q0 n0 v U'.heap L ∧ FrameEnd U o U' L 0 0) := by
  refine MetFree.of_bodySF (plainFor_of_name pn_code) hisR ?_
  intro p e s m args below meth c s₁ Bd hml0 hP hK
  obtain ⟨rfl, hZ, hh⟩ := hP
  have hx := Bd.exec
  have hby := Bd.bytes
  have hml : c.maxLocals = 24 := hml0
  have hown : s.vm.findClass "com/example/unsplit/unsplit/UpwardAddPinLaw" = some m.cls := findClass_of_methodNamed Bd.named
  have hnm := (name_of_methodNamed Bd.named Bd.method).1
  have X0 : Stand p l e room_1 s m #[(.int u0), (.int u1), (.int u2)] below meth c s₁ [] 0 0 := Stand.of_body Bd
  have e0 : s₁.heap = h0 := by rw [← hh, Bd.state]; rfl
  have N0 := Fr.nil n0
  have pre0 : ∀ t, Steps p.tables e below (s₁.setTop (mkF m 0 #[.val (.int u0), .val (.int u1), .val (.int u2), .unset, .unset, .unset, .unset, .unset, .unset, .unset, .unset, .unset, .unset, .unset, .unset, .unset, .unset, .unset, .unset, .unset, .unset, .unset, .unset, .unset] [])) t → Steps p.tables e below (s₁.setTop (entryFrame m #[(.int u0), (.int u1), (.int u2)] maxLocals)) t := fun t k => castTop (ef_code m u0 u1 u2) k
  obtain ⟨_, _, ⟨T1, L1, k1, n1⟩, -, X1, ⟨Lc1, hQ1, l1, y1, z1⟩, st1⟩ := Jvm.LawKit.callS X0 hx (y := (⟨"com/example/unsplit/unsplit/Upward", "add", "(DD)D"⟩ : MethodName)) hown (mvT hZ (hw _ (List.mem_of_getElem? (i := 0) rfl))) (mvT hZ (hw _ (List.mem_of_getElem? (i := 1) rfl))) (mvT hZ (hw _ (List.mem_of_getElem? (i := 2) rfl))) (mvT hZ (hw _ (List.mem_of_getElem? (i := 3) rfl))) (by decide) (backOf (W := 0) (rmA l Z a0 hw [] (FP.i2d u1) (aE u0 u2) h0 n0 Z0 k1 k2 k3 k4 k5 k6 hup) hZ (hw _ (List.mem_of_getElem? (i := 3) rfl)) (hw _ (List.mem_of_getElem? (i := 2) rfl)) (by decide) (by decide)) (g := (mkF m 86 #[.val (.int u0), .val (.int u1), .val (.int u2), .val (.int (u2 &&& (3 : Int32))), .val (.int (shE u2)), .val (.int (1 : Int32)), .val (.long ((1 : Int64) <<< ((shE u2) &&& 0x3f).toInt64)), .second, .val (.double (FP.dmul (FP.i2d u0) (FP.l2d ((1 : Int64) <<< ((shE u2) &&& 0x3f).toInt64)))), .second, .val (.double (FP.i2d u1)), .second, .val (.long (((u0.toInt64) * ((1 : Int64) <<< ((shE u2) &&& 0x3f).toInt64)) + (u1.toInt64))), .second, .unset, .unset, .unset, .unset, .unset, .unset, .unset, .unset, .unset, .unset] [(.double (FP.dmul (FP.i2d u0) (FP.l2d ((1 : Int64) <<< ((shE u2) &&& 0x3f).toInt64)))), (.double (FP.i2d u1))])) rfl (by rw [hml]; rfl) (argsL := [(.double (FP.i2d u1)), (.double (FP.dmul (FP.i2d u0) (FP.l2d ((1 : Int64) <<< ((shE u2) &&& 0x3f).toInt64))))]) (rest := []) (lenOf pd__DD_D rfl) rfl (by show 2 * 0 + _ ≤ _; exact Nat.le_of_eq rfl) (hb hby at_86) (fun _ _ => ⟨rfl, e0, (by decide : 0 + 0 ≤ _), (by decide : 0 + 0 ≤ _)⟩)
  dsimp only [Pt.U, Pt.locs, Pt.cells, Pt.slots] at X1 l1 y1 z1 st1 hQ1
  subst l1 y1 z1
  obtain ⟨rfl, N1q, K1⟩ := hQ1
  obtain ⟨fs, hr, hrun, hended, hW, hsame⟩ := X1.leave (v := some (.int (1 : Int32))) (fun h => by rw [Bd.returns] at h; cases h)
  refine ⟨_, _, pre0 _ ?_, hrun, hended, _, _, rfl, ?_, ⟨_, rfl⟩, hW, hsame.mono (by decide) (by decide)⟩
  · show Steps p.tables e below (s₁.setTop (mkF m 0 #[.val (.int u0), .val (.int u1), .val (.int u2), .unset, .unset, .unset, .unset, .unset, .unset, .unset, .unset, .unset, .unset, .unset, .unset, .unset, .unset, .unset, .unset, .unset, .unset, .unset, .unset, .unset] [])) _
    refine sA X0 hx hZ hw hby hown  ?_
    show Steps p.tables e below (s₁.setTop (mkF m 34 #[.val (.int u0), .val (.int u1), .val (.int u2), .val (.int (u2 &&& (3 : Int32))), .unset, .unset, .unset, .unset, .unset, .unset, .unset, .unset, .unset, .unset, .unset, .unset, .unset, .unset, .unset, .unset, .unset, .unset, .unset, .unset] [(.int (shE u2))])) _
    refine sB_f X0 hx hZ hw hby hown hsw km ?_
    show Steps p.tables e below (s₁.setTop (mkF m 77 #[.val (.int u0), .val (.int u1), .val (.int u2), .val (.int (u2 &&& (3 : Int32))), .val (.int (shE u2)), .val (.int (1 : Int32)), .val (.long ((1 : Int64) <<< ((shE u2) &&& 0x3f).toInt64)), .second, .val (.double (FP.dmul (FP.i2d u0) (FP.l2d ((1 : Int64) <<< ((shE u2) &&& 0x3f).toInt64)))), .second, .val (.double (FP.i2d u1)), .second, .val (.long (((u0.toInt64) * ((1 : Int64) <<< ((shE u2) &&& 0x3f).toInt64)) + (u1.toInt64))), .second, .unset, .unset, .unset, .unset, .unset, .unset, .unset, .unset, .unset, .unset] [])) _
    refine XS.iload X0.here hx rfl (hb hby at_77) rfl ?_
    show Steps p.tables e below (s₁.setTop (mkF m 79 #[.val (.int u0), .val (.int u1), .val (.int u2), .val (.int (u2 &&& (3 : Int32))), .val (.int (shE u2)), .val (.int (1 : Int32)), .val (.long ((1 : Int64) <<< ((shE u2) &&& 0x3f).toInt64)), .second, .val (.double (FP.dmul (FP.i2d u0) (FP.l2d ((1 : Int64) <<< ((shE u2) &&& 0x3f).toInt64)))), .second, .val (.double (FP.i2d u1)), .second, .val (.long (((u0.toInt64) * ((1 : Int64) <<< ((shE u2) &&& 0x3f).toInt64)) + (u1.toInt64))), .second, .unset, .unset, .unset, .unset, .unset, .unset, .unset, .unset, .unset, .unset] [(.int (1 : Int32))])) _
    refine XS.ifNo X0.here hx rfl (hb hby at_79) rfl ((if0 _ _).trans (feq (by decide : ¬ ((1 : Int32) = (0 : Int32)))).1) ?_
    show Steps p.tables e below (s₁.setTop (mkF m 82 #[.val (.int u0), .val (.int u1), .val (.int u2), .val (.int (u2 &&& (3 : Int32))), .val (.int (shE u2)), .val (.int (1 : Int32)), .val (.long ((1 : Int64) <<< ((shE u2) &&& 0x3f).toInt64)), .second, .val (.double (FP.dmul (FP.i2d u0) (FP.l2d ((1 : Int64) <<< ((shE u2) &&& 0x3f).toInt64)))), .second, .val (.double (FP.i2d u1)), .second, .val (.long (((u0.toInt64) * ((1 : Int64) <<< ((shE u2) &&& 0x3f).toInt64)) + (u1.toInt64))), .second, .unset, .unset, .unset, .unset, .unset, .unset, .unset, .unset, .unset, .unset] [])) _
    refine XS.dload X0.here hx rfl (hb hby at_82) rfl ?_
    show Steps p.tables e below (s₁.setTop (mkF m 84 #[.val (.int u0), .val (.int u1), .val (.int u2), .val (.int (u2 &&& (3 : Int32))), .val (.int (shE u2)), .val (.int (1 : Int32)), .val (.long ((1 : Int64) <<< ((shE u2) &&& 0x3f).toInt64)), .second, .val (.double (FP.dmul (FP.i2d u0) (FP.l2d ((1 : Int64) <<< ((shE u2) &&& 0x3f).toInt64)))), .second, .val (.double (FP.i2d u1)), .second, .val (.long (((u0.toInt64) * ((1 : Int64) <<< ((shE u2) &&& 0x3f).toInt64)) + (u1.toInt64))), .second, .unset, .unset, .unset, .unset, .unset, .unset, .unset, .unset, .unset, .unset] [(.double (FP.i2d u1))])) _
    refine XS.dload X0.here hx rfl (hb hby at_84) rfl ?_
    show Steps p.tables e below (s₁.setTop (mkF m 86 #[.val (.int u0), .val (.int u1), .val (.int u2), .val (.int (u2 &&& (3 : Int32))), .val (.int (shE u2)), .val (.int (1 : Int32)), .val (.long ((1 : Int64) <<< ((shE u2) &&& 0x3f).toInt64)), .second, .val (.double (FP.dmul (FP.i2d u0) (FP.l2d ((1 : Int64) <<< ((shE u2) &&& 0x3f).toInt64)))), .second, .val (.double (FP.i2d u1)), .second, .val (.long (((u0.toInt64) * ((1 : Int64) <<< ((shE u2) &&& 0x3f).toInt64)) + (u1.toInt64))), .second, .unset, .unset, .unset, .unset, .unset, .unset, .unset, .unset, .unset, .unset] [(.double (FP.dmul (FP.i2d u0) (FP.l2d ((1 : Int64) <<< ((shE u2) &&& 0x3f).toInt64)))), (.double (FP.i2d u1))])) _
    refine st1 _ ?_
    show Steps p.tables e below (T1.setTop (mkF m 89 #[.val (.int u0), .val (.int u1), .val (.int u2), .val (.int (u2 &&& (3 : Int32))), .val (.int (shE u2)), .val (.int (1 : Int32)), .val (.long ((1 : Int64) <<< ((shE u2) &&& 0x3f).toInt64)), .second, .val (.double (FP.dmul (FP.i2d u0) (FP.l2d ((1 : Int64) <<< ((shE u2) &&& 0x3f).toInt64)))), .second, .val (.double (FP.i2d u1)), .second, .val (.long (((u0.toInt64) * ((1 : Int64) <<< ((shE u2) &&& 0x3f).toInt64)) + (u1.toInt64))), .second, .unset, .unset, .unset, .unset, .unset, .unset, .unset, .unset, .unset, .unset] [(.double (addE (FP.i2d u1) (aE u0 u2)))])) _
    refine XS.goto X1.here hx rfl (pc0 := 89) (pc' := 99) rfl (hb hby at_89) (by decide) (by decide) ?_
    show Steps p.tables e below (T1.setTop (mkF m 99 #[.val (.int u0), .val (.int u1), .val (.int u2), .val (.int (u2 &&& (3 : Int32))), .val (.int (shE u2)), .val (.int (1 : Int32)), .val (.long ((1 : Int64) <<< ((shE u2) &&& 0x3f).toInt64)), .second, .val (.double (FP.dmul (FP.i2d u0) (FP.l2d ((1 : Int64) <<< ((shE u2) &&& 0x3f).toInt64)))), .second, .val (.double (FP.i2d u1)), .second, .val (.long (((u0.toInt64) * ((1 : Int64) <<< ((shE u2) &&& 0x3f).toInt64)) + (u1.toInt64))), .second, .unset, .unset, .unset, .unset, .unset, .unset, .unset, .unset, .unset, .unset] [(.double (addE (FP.i2d u1) (aE u0 u2)))])) _
    refine sM X1 hx hZ hw hby hown c1 c2 c3 c4 c5 ?_
    show Steps p.tables e below (T1.setTop (mkF m 192 #[.val (.int u0), .val (.int u1), .val (.int u2), .val (.int (u2 &&& (3 : Int32))), .val (.int (shE u2)), .val (.int (1 : Int32)), .val (.long ((1 : Int64) <<< ((shE u2) &&& 0x3f).toInt64)), .second, .val (.double (FP.dmul (FP.i2d u0) (FP.l2d ((1 : Int64) <<< ((shE u2) &&& 0x3f).toInt64)))), .second, .val (.double (FP.i2d u1)), .second, .val (.long (((u0.toInt64) * ((1 : Int64) <<< ((shE u2) &&& 0x3f).toInt64)) + (u1.toInt64))), .second, .val (.double (addE (FP.i2d u1) (aE u0 u2))), .second, .val (.long (FP.d2l (addE (FP.i2d u1) (aE u0 u2)))), .second, .val (.double (FP.l2d (((u0.toInt64) * ((1 : Int64) <<< ((shE u2) &&& 0x3f).toInt64)) + (u1.toInt64)))), .second, .val (.long (FP.d2l (FP.l2d (((u0.toInt64) * ((1 : Int64) <<< ((shE u2) &&& 0x3f).toInt64)) + (u1.toInt64))))), .second, .val (.double (FP.l2d (((FP.d2l (FP.l2d (((u0.toInt64) * ((1 : Int64) <<< ((shE u2) &&& 0x3f).toInt64)) + (u1.toInt64)))) + (FP.d2l (addE (FP.i2d u1) (aE u0 u2)))) / (2 : Int64)))), .second] [(.int (1 : Int32))])) _
    exact retN X1 hx (t := .boolean) Bd.returns (by simp) (hb hby at_192) hr
  · show Q0 n0 _ T1.heap _
    rw [K1]
    exact ⟨rfl, Fr.app N0 N1q⟩
set_option maxRecDepth 65536 in
set_option maxHeartbeats 4000000 in
theorem rm0 (l : Launch) (Z : State) (a0 : Array Value) (hw : ∀ d ∈ tables_1, d.before a0 Z = true) (ws : List Jvm.Cond) (u0 u1 u2 : Int32) (h0 : Heap) (n0 : Nat) (Z0 : n0 ≤ h0.size) :
    MetFree l x (head1 (Jvm.Cond.code x code maxLocals ret :: ws) room_1) (fun aa U => aa = #[(.int u0), (.int u1), (.int u2)] ∧ Z.Warmed39 U.vm ∧ U.heap = h0) (fun _ _ _ _ _ => True) (fun _ U o U' => ∃ v L, o = .returned v ∧ Q0 n0 v U'.heap L ∧ FrameEnd U o U' L 0 0) := by
  obtain ⟨i, di, dj, bi, hm, hS⟩ := own_all u0 u1 u2
  have r1 := rng32 u1
  have bj : u1.toInt.natAbs ≤ 2305843009213693952 := by omega
  by_cases q : u2 &&& 4 = 0
  · skip
    obtain ⟨k1, k2, k3, k4, k5, k6⟩ := add_nn di dj bi bj (Or.inl (by omega))
    obtain ⟨c1, c2, c3⟩ := law_ok di dj bi bj (Or.inl (by omega)) hS (by omega)
    by_cases g : lcmpW (FP.d2l (FP.l2d (sE u0 u1 u2))) (sE u0 u1 u2) < 0
    · obtain ⟨c4, c5⟩ := c3 g
      by_cases f : cmpValue (FP.dcmp (FP.l2d ((FP.d2l (FP.l2d (sE u0 u1 u2)) + FP.d2l (addE (aE u0 u2) (FP.i2d u1))) / 2)) (FP.l2d (sE u0 u1 u2))) .l = 0
      · exact rm0_nL l Z a0 hw ws u0 u1 u2 h0 n0 Z0 q (own_nn di) k1 k2 k3 k4 k5 k6 (add_up di dj bi bj (Or.inl (by omega)) (by omega)) c1 g c4 f
      · exact rm0_nM l Z a0 hw ws u0 u1 u2 h0 n0 Z0 q (own_nn di) k1 k2 k3 k4 k5 k6 (add_up di dj bi bj (Or.inl (by omega)) (by omega)) c1 g c4 f (c5.resolve_left f)
    · exact rm0_nG l Z a0 hw ws u0 u1 u2 h0 n0 Z0 q (own_nn di) k1 k2 k3 k4 k5 k6 (add_up di dj bi bj (Or.inl (by omega)) (by omega)) c1 g (c2 g)
  · skip
    obtain ⟨k1, k2, k3, k4, k5, k6⟩ := add_nn dj di bj bi (Or.inr ⟨by omega, hm⟩)
    obtain ⟨c1, c2, c3⟩ := law_ok dj di bj bi (Or.inr ⟨by omega, hm⟩) (hS.trans (Int.add_comm _ _)) (by omega)
    by_cases g : lcmpW (FP.d2l (FP.l2d (sE u0 u1 u2))) (sE u0 u1 u2) < 0
    · obtain ⟨c4, c5⟩ := c3 g
      by_cases f : cmpValue (FP.dcmp (FP.l2d ((FP.d2l (FP.l2d (sE u0 u1 u2)) + FP.d2l (addE (FP.i2d u1) (aE u0 u2))) / 2)) (FP.l2d (sE u0 u1 u2))) .l = 0
      · exact rm0_sL l Z a0 hw ws u0 u1 u2 h0 n0 Z0 q (own_nn di) k1 k2 k3 k4 k5 k6 (add_up dj di bj bi (Or.inr ⟨by omega, hm⟩) (by omega)) c1 g c4 f
      · exact rm0_sM l Z a0 hw ws u0 u1 u2 h0 n0 Z0 q (own_nn di) k1 k2 k3 k4 k5 k6 (add_up dj di bj bi (Or.inr ⟨by omega, hm⟩) (by omega)) c1 g c4 f (c5.resolve_left f)
    · exact rm0_sG l Z a0 hw ws u0 u1 u2 h0 n0 Z0 q (own_nn di) k1 k2 k3 k4 k5 k6 (add_up dj di bj bi (Or.inr ⟨by omega, hm⟩) (by omega)) c1 g (c2 g)
set_option maxRecDepth 65536 in
set_option maxHeartbeats 40000000 in
theorem comes_1 {Post : Tables → Env → Array Value → State → Outcome → State → Prop} (hpost : ∀ tb e args s v u, (limb_1_1.after args s (.returned v) u = true ∧ limb_1_2.after args s (.returned v) u = true ∧ True) → FrameEnd s (.returned v) u (Jvm.fieldLocs frame_1_writes args s ++ Jvm.arrayLocs frame_1_arrays args s ++ Jvm.staticLocs frame_1_statics s) 0 0 → Post tb e args s (.returned v) u) :
    ArmFor flags0 classFile x code maxLocals ret World_1 tables_1 room_1 Calls_1 rest_1 Pre_1 Post := by
  intro l hfl _ _ p e ha hc hk s m args below hf hA hF happ hP
  obtain ⟨hcalls, hrest, hpre⟩ := hP
  obtain ⟨-, -, -, hnamed, -, -, -, hat⟩ := (Spec.applies_iff hf).mp happ
  obtain ⟨hg, hn⟩ := and_e (Cond.before_iff.mp (show (Jvm.Cond.and given_1 narrow_1).before args s = true from hpre))
  obtain ⟨g0, gg0⟩ := and_e hg
  obtain ⟨g1, gg1⟩ := and_e gg0
  obtain ⟨g2, gg2⟩ := and_e gg1
  obtain ⟨w0, w1, w2, rfl⟩ : ∃ w0 w1 w2 : Value, args = #[w0, w1, w2] := by
    have hs : args.size = 3 := by simpa [Cond.value, given_1] using g0
    obtain ⟨L⟩ := args
    match L, hs with
    | [w0, w1, w2], _ => exact ⟨w0, w1, w2, rfl⟩
  have hw := fun d (hd : d ∈ tables_1) => atoms_spec (ws := Jvm.Cond.code x code maxLocals ret :: tables_1) hat d (List.mem_cons_of_mem _ hd)
  obtain ⟨i0, ei0⟩ := is_v g1
  obtain rfl : w0 = (.int i0) := Option.some.inj ei0
  obtain ⟨i1, ei1⟩ := is_v g2
  obtain rfl : w1 = (.int i1) := Option.some.inj ei1
  obtain ⟨i2, ei2⟩ := is_v gg2
  obtain rfl : w2 = (.int i2) := Option.some.inj ei2
  obtain ⟨n, o, h1, h2, h3, _, L, rfl, ⟨rfl, N⟩, hq⟩ := rm0 l s _ hw tables_1 i0 i1 i2 s.heap s.heap.size (Nat.le_refl _) p e ha hc hk s m _ below hf ((Spec.applies_iff_loose hf).mp happ).1 ⟨rfl, State.Warmed39.refl s, rfl⟩ trivial
  refine ⟨n, _, h1, h2, h3, hpost _ _ _ _ _ _ ⟨Cond.after_iff.mpr rfl, Cond.after_iff.mpr (eq_i res_at (Term.int_eval (1)) rfl), trivial⟩ ⟨hq.1, hq.2.1, (hq.2.2.sift fun y hy => Or.inr (N y hy)).mono (by decide) (by decide)⟩⟩
theorem main_1_1 : Claimed_1_1 := comes_1 fun _ _ _ _ _ _ h hF => ⟨h.1, hF⟩
theorem main_1_2 : Claimed_1_2 := comes_1 fun _ _ _ _ _ _ h hF => ⟨h.2.1, hF⟩
end Jvm.Pilot.@@N@@
namespace Jvm.Pilot.@@N@@
open Jvm Jvm.ClassFile Sem Op Lib Jvm.Free Jvm.Stand Jvm.Pilot.@@N@@.Jvm.D
/-! MADE BY PROGRAM (witnessworld.py) out of the Statement's table words and the real class files: 15 classes; the members and pool entries that the words name. The judged class is class 1, her method 1. -/
namespace start1
open Jvm.ClassFile
def u (s : String) : CpInfo := .utf8 (stringToUtf16 s)
/-- a pool by its gaps: so many unusable entries, then the entry; so many at the end -/
def gap : Nat → List CpInfo → List CpInfo
  | 0, r => r
  | n + 1, r => .unusable :: gap n r
def poolList (es : List (Nat × CpInfo)) (last : Nat) : List CpInfo := es.foldr (fun e r => gap e.1 (e.2 :: r)) (gap last [])
def pool (es : List (Nat × CpInfo)) (last : Nat) : Array CpInfo := ⟨poolList es last⟩
def fileOf (pool : Array CpInfo) (this : Nat) (attrs : Array Attribute := #[]) (ms : Array MethodInfo := #[]) (fl : Nat := 33) (sup : Nat := 0) (ifs : Array Nat := #[]) (fds : Array FieldInfo := #[]) : ClassFile where
  minorVersion := 0
  majorVersion := 65
  constantPool := pool
  accessFlags := fl
  thisClass := this
  superClass := sup
  interfaces := ifs
  fields := fds
  methods := ms
  attributes := attrs
def plain (name : String) (sup : Option ClassId) : Class where
  name := name
  kind := .ordinary
  loader := none
  accessFlags := 33
  super := sup
  interfaces := #[]
  cf := none
  fields := #[]
  methods := #[]
  instanceTypes := #[]
  staticTypes := #[]
  resolved := #[]
  callSites := []
  init := .initialized
  statics := none
  mirror := none

def pool0 : Array CpInfo := pool [(5, u "<init>"), (0, u "()V"), (1, .class_ 10), (1, u "java/lang/Object")] 113

def k0m0 : Method := { name := "<init>", desc := "()V", sig := { parameters := [], returnType := none }, accessFlags := 1, code := none }
/-- java/lang/Object -/
def k0 : Class := { plain "java/lang/Object" none with
  accessFlags := 33
  interfaces := #[]
  cf := some (fileOf pool0 8 #[] #[{ accessFlags := 1, nameIndex := 5, descriptorIndex := 6, attributes := #[] }] 33 0 #[] #[])
  fields := #[]
  methods := #[k0m0]
  instanceTypes := #[]
  staticTypes := #[]
  resolved := Array.replicate 124 none
  statics := none }

def pool1 : Array CpInfo := pool [(2, .class_ 4), (1, u "java/lang/Object"), (0, u "<init>"), (0, u "()V"), (0, .methodref 8 9), (0, .class_ 10), (0, .nameAndType 11 12), (0, u "com/example/unsplit/unsplit/Upward"), (0, u "add"), (0, u "(DD)D"), (0, .long 2), (1, .class_ 16), (0, u "com/example/unsplit/unsplit/UpwardAddPinLaw"), (2, u "law"), (0, u "(III)Z")] 3

def k1m0 : Method := { name := "<init>", desc := "()V", sig := { parameters := [], returnType := none }, accessFlags := 2, code := none }
def k1c1 : Code := { maxStack := 4, maxLocals := 24, code := code, exceptionTable := #[], attributes := #[] }
def k1m1 : Method := { name := "law", desc := "(III)Z", sig := { parameters := [.int, .int, .int], returnType := some .boolean }, accessFlags := 9, code := some k1c1 }
/-- com/example/unsplit/unsplit/UpwardAddPinLaw -/
def k1 : Class := { plain "com/example/unsplit/unsplit/UpwardAddPinLaw" (some 0) with
  accessFlags := 49
  interfaces := #[]
  cf := some (fileOf pool1 15 #[] #[{ accessFlags := 2, nameIndex := 5, descriptorIndex := 6, attributes := #[] }, { accessFlags := 9, nameIndex := 19, descriptorIndex := 20, attributes := #[] }] 49 2 #[] #[])
  fields := #[]
  methods := #[k1m0, k1m1]
  instanceTypes := #[]
  staticTypes := #[]
  resolved := Array.replicate 24 none
  statics := none }

def pool2 : Array CpInfo := pool [(2, .class_ 4), (1, u "java/lang/Object"), (0, u "<init>"), (0, u "()V"), (0, .methodref 8 9), (0, .class_ 10), (0, .nameAndType 11 12), (0, u "java/lang/Math"), (0, u "nextUp"), (0, u "(D)D"), (3, .class_ 17), (0, u "com/example/unsplit/unsplit/Upward"), (2, u "add"), (0, u "(DD)D")] 3

def k2m0 : Method := { name := "<init>", desc := "()V", sig := { parameters := [], returnType := none }, accessFlags := 2, code := none }
def k2c1 : Code := { maxStack := 6, maxLocals := 10, code := prog_34_method_2_code, exceptionTable := #[], attributes := #[] }
def k2m1 : Method := { name := "add", desc := "(DD)D", sig := { parameters := [.double, .double], returnType := some .double }, accessFlags := 8, code := some k2c1 }
/-- com/example/unsplit/unsplit/Upward -/
def k2 : Class := { plain "com/example/unsplit/unsplit/Upward" (some 0) with
  accessFlags := 32
  interfaces := #[]
  cf := some (fileOf pool2 16 #[] #[{ accessFlags := 2, nameIndex := 5, descriptorIndex := 6, attributes := #[] }, { accessFlags := 8, nameIndex := 20, descriptorIndex := 21, attributes := #[] }] 32 2 #[] #[])
  fields := #[]
  methods := #[k2m0, k2m1]
  instanceTypes := #[]
  staticTypes := #[]
  resolved := Array.replicate 25 none
  statics := none }

def pool3 : Array CpInfo := pool [(1, .class_ 2), (0, u "java/lang/Math"), (1, .class_ 6), (1, u "java/lang/Object"), (0, u "<init>"), (0, u "()V"), (5, u "(D)D"), (64, .methodref 80 81), (0, .class_ 82), (0, .nameAndType 83 84), (0, u "java/lang/Double"), (0, u "doubleToRawLongBits"), (0, u "(D)J"), (13, .class_ 100), (1, u "java/lang/Math$RandomNumberGeneratorHolder"), (29, .long 18446744073709551615), (35, .methodref 80 167), (0, .nameAndType 168 169), (0, u "longBitsToDouble"), (0, u "(J)D"), (2, u "negativeZeroFloatBits"), (0, u "J"), (2, u "negativeZeroDoubleBits"), (68, u "$assertionsDisabled"), (0, u "Z"), (80, .double 9218868437227405312), (10, u "twoToTheDoubleScaleDown"), (0, u "D"), (4, u "twoToTheDoubleScaleUp"), (9, u "E"), (3, u "PI"), (2, u "TAU"), (2, u "DEGREES_TO_RADIANS"), (0, u "RADIANS_TO_DEGREES"), (77, u "nextUp")] 16

def k3m0 : Method := { name := "<init>", desc := "()V", sig := { parameters := [], returnType := none }, accessFlags := 2, code := none }
def k3c1 : Code := { maxStack := 6, maxLocals := 4, code := jdk_29_method_95_code, exceptionTable := #[], attributes := #[] }
def k3m1 : Method := { name := "nextUp", desc := "(D)D", sig := { parameters := [.double], returnType := some .double }, accessFlags := 9, code := some k3c1 }
/-- java/lang/Math -/
def k3 : Class := { plain "java/lang/Math" (some 0) with
  accessFlags := 49
  interfaces := #[]
  cf := some (fileOf pool3 1 #[.nestMembers #[98]] #[{ accessFlags := 2, nameIndex := 7, descriptorIndex := 8, attributes := #[] }, { accessFlags := 9, nameIndex := 443, descriptorIndex := 14, attributes := #[] }] 49 4 #[] #[{ accessFlags := 25, nameIndex := 354, descriptorIndex := 339, attributes := #[] }, { accessFlags := 25, nameIndex := 358, descriptorIndex := 339, attributes := #[] }, { accessFlags := 25, nameIndex := 361, descriptorIndex := 339, attributes := #[] }, { accessFlags := 26, nameIndex := 364, descriptorIndex := 339, attributes := #[] }, { accessFlags := 26, nameIndex := 365, descriptorIndex := 339, attributes := #[] }, { accessFlags := 26, nameIndex := 172, descriptorIndex := 173, attributes := #[] }, { accessFlags := 26, nameIndex := 176, descriptorIndex := 173, attributes := #[] }, { accessFlags := 8, nameIndex := 344, descriptorIndex := 339, attributes := #[] }, { accessFlags := 8, nameIndex := 338, descriptorIndex := 339, attributes := #[] }, { accessFlags := 4120, nameIndex := 245, descriptorIndex := 246, attributes := #[] }])
  fields := #[{ name := "E", type := .double, accessFlags := 25, slot := 0, constantValue := 0 }, { name := "PI", type := .double, accessFlags := 25, slot := 1, constantValue := 0 }, { name := "TAU", type := .double, accessFlags := 25, slot := 2, constantValue := 0 }, { name := "DEGREES_TO_RADIANS", type := .double, accessFlags := 26, slot := 3, constantValue := 0 }, { name := "RADIANS_TO_DEGREES", type := .double, accessFlags := 26, slot := 4, constantValue := 0 }, { name := "negativeZeroFloatBits", type := .long, accessFlags := 26, slot := 5, constantValue := 0 }, { name := "negativeZeroDoubleBits", type := .long, accessFlags := 26, slot := 6, constantValue := 0 }, { name := "twoToTheDoubleScaleUp", type := .double, accessFlags := 8, slot := 7, constantValue := 0 }, { name := "twoToTheDoubleScaleDown", type := .double, accessFlags := 8, slot := 8, constantValue := 0 }, { name := "$assertionsDisabled", type := .boolean, accessFlags := 4120, slot := 9, constantValue := 0 }]
  methods := #[k3m0, k3m1]
  instanceTypes := #[]
  staticTypes := #[.double, .double, .double, .double, .double, .long, .long, .double, .double, .boolean]
  resolved := Array.replicate 460 none
  statics := none }

def pool4 : Array CpInfo := pool [(1, .class_ 2), (0, u "java/io/Serializable"), (0, .class_ 4), (0, u "java/lang/Object")] 2

/-- java/io/Serializable -/
def k4 : Class := { plain "java/io/Serializable" (some 0) with
  accessFlags := 1537
  interfaces := #[]
  cf := some (fileOf pool4 1 #[] #[] 1537 3 #[] #[])
  fields := #[]
  methods := #[]
  instanceTypes := #[]
  staticTypes := #[]
  resolved := Array.replicate 7 none
  statics := none }

def pool5 : Array CpInfo := pool [(2, .class_ 4), (1, u "java/lang/Object"), (0, u "<init>"), (0, u "()V"), (1, .class_ 10), (1, u "java/lang/Number"), (2, .class_ 14), (0, u "java/io/Serializable"), (0, u "serialVersionUID"), (0, u "J")] 20

def k5m0 : Method := { name := "<init>", desc := "()V", sig := { parameters := [], returnType := none }, accessFlags := 1, code := none }
/-- java/lang/Number -/
def k5 : Class := { plain "java/lang/Number" (some 0) with
  accessFlags := 1057
  interfaces := #[4]
  cf := some (fileOf pool5 8 #[] #[{ accessFlags := 1, nameIndex := 5, descriptorIndex := 6, attributes := #[] }] 1057 2 #[13] #[{ accessFlags := 26, nameIndex := 15, descriptorIndex := 16, attributes := #[] }])
  fields := #[{ name := "serialVersionUID", type := .long, accessFlags := 26, slot := 0, constantValue := 0 }]
  methods := #[k5m0]
  instanceTypes := #[]
  staticTypes := #[.long]
  resolved := Array.replicate 37 none
  statics := none }

def pool6 : Array CpInfo := pool [(1, .class_ 2), (0, u "java/lang/Comparable"), (0, .class_ 4), (0, u "java/lang/Object")] 7

/-- java/lang/Comparable -/
def k6 : Class := { plain "java/lang/Comparable" (some 0) with
  accessFlags := 1537
  interfaces := #[]
  cf := some (fileOf pool6 1 #[] #[] 1537 3 #[] #[])
  fields := #[]
  methods := #[]
  instanceTypes := #[]
  staticTypes := #[]
  resolved := Array.replicate 12 none
  statics := none }

def pool7 : Array CpInfo := pool [(1, .class_ 2), (0, u "java/lang/constant/Constable"), (0, .class_ 4), (0, u "java/lang/Object")] 6

/-- java/lang/constant/Constable -/
def k7 : Class := { plain "java/lang/constant/Constable" (some 0) with
  accessFlags := 1537
  interfaces := #[]
  cf := some (fileOf pool7 1 #[] #[] 1537 3 #[] #[])
  fields := #[]
  methods := #[]
  instanceTypes := #[]
  staticTypes := #[]
  resolved := Array.replicate 11 none
  statics := none }

def pool8 : Array CpInfo := pool [(1, .class_ 2), (0, u "java/lang/constant/ConstantDesc"), (0, .class_ 4), (0, u "java/lang/Object")] 32

/-- java/lang/constant/ConstantDesc -/
def k8 : Class := { plain "java/lang/constant/ConstantDesc" (some 0) with
  accessFlags := 1537
  interfaces := #[]
  cf := some (fileOf pool8 1 #[] #[] 1537 3 #[] #[])
  fields := #[]
  methods := #[]
  instanceTypes := #[]
  staticTypes := #[]
  resolved := Array.replicate 37 none
  statics := none }

def pool9 : Array CpInfo := pool [(1, .class_ 2), (0, u "java/lang/Double"), (46, u "(D)J"), (64, .class_ 116), (1, u "java/lang/Number"), (3, u "value"), (0, u "D"), (14, u "doubleToRawLongBits"), (36, u "TYPE"), (0, u "Ljava/lang/Class;"), (0, .class_ 176), (0, u "java/lang/Comparable"), (0, .class_ 178), (0, u "java/lang/constant/Constable"), (0, .class_ 180), (0, u "java/lang/constant/ConstantDesc"), (0, u "POSITIVE_INFINITY"), (3, u "NEGATIVE_INFINITY"), (2, u "NaN"), (2, u "MAX_VALUE"), (0, u "MIN_NORMAL"), (0, u "MIN_VALUE"), (2, u "SIZE"), (0, u "I"), (1, u "PRECISION"), (1, u "MAX_EXPONENT"), (1, u "MIN_EXPONENT"), (1, u "BYTES"), (3, u "serialVersionUID"), (0, u "J"), (48, u "longBitsToDouble"), (0, u "(J)D")] 29

def k9m0 : Method := { name := "doubleToRawLongBits", desc := "(D)J", sig := { parameters := [.double], returnType := some .long }, accessFlags := 265, code := none }
def k9m1 : Method := { name := "longBitsToDouble", desc := "(J)D", sig := { parameters := [.long], returnType := some .double }, accessFlags := 265, code := none }
/-- java/lang/Double -/
def k9 : Class := { plain "java/lang/Double" (some 5) with
  accessFlags := 49
  interfaces := #[6, 7, 8]
  cf := some (fileOf pool9 1 #[] #[{ accessFlags := 265, nameIndex := 136, descriptorIndex := 49, attributes := #[] }, { accessFlags := 265, nameIndex := 259, descriptorIndex := 260, attributes := #[] }] 49 114 #[175, 177, 179] #[{ accessFlags := 25, nameIndex := 181, descriptorIndex := 121, attributes := #[] }, { accessFlags := 25, nameIndex := 185, descriptorIndex := 121, attributes := #[] }, { accessFlags := 25, nameIndex := 188, descriptorIndex := 121, attributes := #[] }, { accessFlags := 25, nameIndex := 191, descriptorIndex := 121, attributes := #[] }, { accessFlags := 25, nameIndex := 192, descriptorIndex := 121, attributes := #[] }, { accessFlags := 25, nameIndex := 193, descriptorIndex := 121, attributes := #[] }, { accessFlags := 25, nameIndex := 196, descriptorIndex := 197, attributes := #[] }, { accessFlags := 25, nameIndex := 199, descriptorIndex := 197, attributes := #[] }, { accessFlags := 25, nameIndex := 201, descriptorIndex := 197, attributes := #[] }, { accessFlags := 25, nameIndex := 203, descriptorIndex := 197, attributes := #[] }, { accessFlags := 25, nameIndex := 205, descriptorIndex := 197, attributes := #[] }, { accessFlags := 25, nameIndex := 173, descriptorIndex := 174, attributes := #[] }, { accessFlags := 18, nameIndex := 120, descriptorIndex := 121, attributes := #[] }, { accessFlags := 26, nameIndex := 209, descriptorIndex := 210, attributes := #[] }])
  fields := #[{ name := "POSITIVE_INFINITY", type := .double, accessFlags := 25, slot := 0, constantValue := 0 }, { name := "NEGATIVE_INFINITY", type := .double, accessFlags := 25, slot := 1, constantValue := 0 }, { name := "NaN", type := .double, accessFlags := 25, slot := 2, constantValue := 0 }, { name := "MAX_VALUE", type := .double, accessFlags := 25, slot := 3, constantValue := 0 }, { name := "MIN_NORMAL", type := .double, accessFlags := 25, slot := 4, constantValue := 0 }, { name := "MIN_VALUE", type := .double, accessFlags := 25, slot := 5, constantValue := 0 }, { name := "SIZE", type := .int, accessFlags := 25, slot := 6, constantValue := 0 }, { name := "PRECISION", type := .int, accessFlags := 25, slot := 7, constantValue := 0 }, { name := "MAX_EXPONENT", type := .int, accessFlags := 25, slot := 8, constantValue := 0 }, { name := "MIN_EXPONENT", type := .int, accessFlags := 25, slot := 9, constantValue := 0 }, { name := "BYTES", type := .int, accessFlags := 25, slot := 10, constantValue := 0 }, { name := "TYPE", type := (.object "java/lang/Class"), accessFlags := 25, slot := 11, constantValue := 0 }, { name := "value", type := .double, accessFlags := 18, slot := 0, constantValue := 0 }, { name := "serialVersionUID", type := .long, accessFlags := 26, slot := 12, constantValue := 0 }]
  methods := #[k9m0, k9m1]
  instanceTypes := #[.double]
  staticTypes := #[.double, .double, .double, .double, .double, .double, .int, .int, .int, .int, .int, (.object "java/lang/Class"), .long]
  resolved := Array.replicate 290 none
  statics := none }

def pool10 : Array CpInfo := pool [(1, u "java/lang/Cloneable"), (0, .class_ 1), (0, u "java/lang/Object"), (0, .class_ 3)] 3

/-- java/lang/Cloneable -/
def k10 : Class := { plain "java/lang/Cloneable" (some 0) with
  accessFlags := 1537
  interfaces := #[]
  cf := some (fileOf pool10 2 #[] #[] 1537 4 #[] #[])
  fields := #[]
  methods := #[]
  instanceTypes := #[]
  staticTypes := #[]
  resolved := Array.replicate 8 none
  statics := none }

/-- the primitive byte -/
def k11 : Class := { plain "byte" none with kind := .primitive 'B', accessFlags := 0x411 }
/-- [B -/
def k12 : Class := { plain "[B" (some 0) with kind := .array 11 .byte, interfaces := #[10, 4], accessFlags := 1041 }

/-- the primitive int -/
def k13 : Class := { plain "int" none with kind := .primitive 'I', accessFlags := 0x411 }
/-- [I -/
def k14 : Class := { plain "[I" (some 0) with kind := .array 13 .int, interfaces := #[10, 4], accessFlags := 1041 }

def heap : Heap := #[]
def classes : Array Class := #[k0, k1, k2, k3, k4, k5, k6, k7, k8, k9, k10, k11, k12, k13, k14]
def interned : List (Array UInt16 × Addr) := []
def slotsUsed : Nat := 0
def theMethod : MethodId := ⟨1, 1⟩
def args0 : Array Value := #[.int 5, .int 3, .int 6]
def aboutOver (below : List Frame) : State where
  vm := { classes := classes, interned := interned.toArray }
  heap := heap
  slotsUsed := slotsUsed
  threads := #[{ frames := .invoking theMethod args0 :: below }]
def below0 : List Frame := [.native { method := ⟨0, 0⟩, args := #[] }]
def about1 : State := aboutOver below0
def p0 : Program := .bare "" "" ""
def e0 : Env := launch0.env 0 0 0
theorem w_frames : about1.frames = Frame.invoking theMethod args0 :: below0 := rfl
set_option maxRecDepth 65536 in
theorem w_args : argsFit about1.vm theMethod args0 = true := by decide +kernel
set_option maxRecDepth 65536 in
theorem w_heap : heapFits about1 = true := by decide +kernel
set_option maxRecDepth 65536 in
theorem w_runnable : about1.curStatus? = some .runnable := by decide +kernel
set_option maxRecDepth 65536 in
theorem w_alone : about1.alone = true := by decide +kernel
set_option maxRecDepth 65536 in
theorem w_named : about1.methodNamed? x = some theMethod := by decide +kernel
set_option maxRecDepth 65536 in
theorem w_hears : about1.hears theMethod below0 = true := by decide +kernel
set_option maxRecDepth 65536 in
theorem w_ripe : about1.ripe theMethod args0 below0 = true := by decide +kernel
theorem w_running : about1.status = .running := rfl
set_option maxRecDepth 65536 in
theorem w_room : about1.hasRoom e0.platform room_1 = true :=
  launch0.hasRoom_least _ room_1 (by decide +kernel) (by decide +kernel) (by decide +kernel) (by decide +kernel) (by decide +kernel) (by decide +kernel)
theorem allAtoms_all (ts : List Jvm.Cond) (a : Array Jvm.Value) (st : Jvm.State) : (allAtoms ts).before a st = ts.all (fun c => c.before a st) := by
  induction ts with
  | nil => rfl
  | cons c t ih =>
    show (Jvm.Cond.and c (allAtoms t)).before a st = _
    rw [Jvm.Cond.before_and, ih, List.all_cons]
def words1 : List Jvm.Cond := Jvm.Cond.code x code maxLocals ret :: tables_1
/-- a 'code' word, met by the world's own term for the bytes: nothing is compared byte by byte -/
theorem code_word {y : MethodName} {bytes : ByteArray} {mx : Nat} {rt : Option FieldType} {a : Array Value} {s : State} {m : MethodId} {meth : Method} {c : Code} (h1 : s.methodNamed? y = some m) (h2 : s.vm.method? m = some meth) (h3 : meth.code = some c) (h4 : c.code = bytes)
    (h5 : (c.maxLocals == mx && c.exceptionTable.isEmpty && decide (c.maxStack ≤ mostOperands) && decide (meth.sig.returnType = rt) && !meth.locks && decide (parseMethodDescriptor y.desc = some meth.sig)) = true) : (Jvm.Cond.code y bytes mx rt).before a s = true := by
  simp only [Bool.and_eq_true, beq_iff_eq, Bool.not_eq_true', decide_eq_true_eq] at h5
  obtain ⟨⟨⟨⟨⟨g1, g2⟩, g3⟩, g4⟩, g5⟩, g6⟩ := h5
  simp [Cond.before, Cond.holds, Cond.value, h1, h2, h3, h4, g1, g2, g3, g4, g5, g6]
def isCode : Jvm.Cond → Bool
  | .code _ _ _ _ => true
  | _ => false
theorem all_split {L : List Jvm.Cond} {P : Jvm.Cond → Bool} (h1 : L.all (fun c => isCode c || P c) = true) (h2 : ∀ c ∈ L.filter isCode, P c = true) : L.all P = true := by
  refine List.all_eq_true.mpr fun c hc => ?_
  have h := List.all_eq_true.mp h1 c hc
  rcases Bool.eq_false_or_eq_true (isCode c) with hi | hi
  · exact h2 c (List.mem_filter.mpr ⟨hc, hi⟩)
  · simpa [hi] using h
set_option maxRecDepth 65536 in
theorem w_c0 : (Jvm.Cond.code x code maxLocals ret).before args0 about1 = true := code_word (m := ⟨1, 1⟩) (meth := k1m1) (c := k1c1) (by decide +kernel) rfl rfl rfl (by decide +kernel)
set_option maxRecDepth 65536 in
theorem w_c1 : (Jvm.Cond.code ({ cls := "com/example/unsplit/unsplit/Upward", name := "add", desc := "(DD)D" } : Jvm.MethodName) prog_34_method_2_code (10 : Nat) (Option.some Jvm.ClassFile.FieldType.double)).before args0 about1 = true := code_word (m := ⟨2, 1⟩) (meth := k2m1) (c := k2c1) (by decide +kernel) rfl rfl rfl (by decide +kernel)
set_option maxRecDepth 65536 in
theorem w_c2 : (Jvm.Cond.code ({ cls := "java/lang/Math", name := "nextUp", desc := "(D)D" } : Jvm.MethodName) jdk_29_method_95_code (4 : Nat) (Option.some Jvm.ClassFile.FieldType.double)).before args0 about1 = true := code_word (m := ⟨3, 1⟩) (meth := k3m1) (c := k3c1) (by decide +kernel) rfl rfl rfl (by decide +kernel)
def codes1 : List Jvm.Cond := [Jvm.Cond.code x code maxLocals ret, Jvm.Cond.code ({ cls := "com/example/unsplit/unsplit/Upward", name := "add", desc := "(DD)D" } : Jvm.MethodName) prog_34_method_2_code (10 : Nat) (Option.some Jvm.ClassFile.FieldType.double), Jvm.Cond.code ({ cls := "java/lang/Math", name := "nextUp", desc := "(D)D" } : Jvm.MethodName) jdk_29_method_95_code (4 : Nat) (Option.some Jvm.ClassFile.FieldType.double)]
set_option maxRecDepth 65536 in
theorem codes_eq : words1.filter isCode = codes1 := rfl
theorem w_codes : ∀ c ∈ words1.filter isCode, c.before args0 about1 = true := by
  rw [codes_eq]
  intro c hc
  simp only [codes1, List.mem_cons, List.not_mem_nil, or_false] at hc
  rcases hc with rfl | rfl | rfl
  · exact w_c0
  · exact w_c1
  · exact w_c2
set_option maxRecDepth 65536 in
theorem w_t1 : words1.all (fun c => isCode c || c.before args0 about1) = true := by decide +kernel
theorem w_tables : (allAtoms (Jvm.Cond.code x code maxLocals ret :: tables_1)).before args0 about1 = true := by
  rw [allAtoms_all]
  show words1.all (fun c => c.before args0 about1) = true
  refine all_split ?_ w_codes
  rw [w_t1]
set_option maxRecDepth 65536 in
theorem w_case : (Jvm.Cond.and given_1 narrow_1).before args0 about1 = true := by decide +kernel
theorem w_applies : (headSpec (Jvm.Cond.code x code maxLocals ret :: tables_1) room_1).applies x e0.platform about1 = true :=
  (Spec.applies_iff w_frames).mpr ⟨w_running, w_runnable, w_alone, w_named, w_hears, w_ripe, w_room, w_tables⟩
theorem atStart : AtStart classFile x code maxLocals ret World_1 tables_1 room_1 Calls_1 rest_1 Pre_1 launch0 p0 e0 about1 theMethod args0 below0 :=
  ⟨lists_1, trivial, launch0.admits_env _ _ _, launch0.least_env, fairChoices_fair.cas, fairChoices_fair.clock, w_frames, w_args, w_heap, w_applies, trivial, trivial, w_case⟩
end start1
theorem witness_1 : WitnessClaimed_1 := ⟨start1.p0, start1.e0, start1.about1, start1.theMethod, start1.args0, start1.below0, start1.atStart⟩
end Jvm.Pilot.@@N@@
