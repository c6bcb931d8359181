import JvmDerived
import JvmDerived.Pilot.@@N@@Statement
import JvmDerived.Pilot.@@N@@Code
set_option linter.unusedVariables false
set_option linter.unusedSimpArgs false
namespace Jvm.Pilot.@@N@@
open Jvm Jvm.ClassFile Sem Op Lib Jvm.Free Jvm.Stand Jvm.LawKit Jvm.RoadKit Bundle Jvm.Pilot.@@N@@.Jvm.D
section OwnPos
open Jvm.FP Jvm.FP.Core
/-- a double that is finite and not negative, of the magnitude z in units of 2^-1074 -/
def OwnZ (a : UInt64) (z : Nat) : Prop := (∃ c q, val64 a = .fin false c q) ∧ zmag b64 (val64 a) = z
/-- a magnitude that some double has -/
def OwnRep (w : Nat) : Prop := ∃ c q, Core.fits b64 (.fin false c q) ∧ zmag b64 (.fin false c q) = w
theorem own_qmin : b64.qmin = -1074 := by decide
theorem own_qmax : b64.qmax = 971 := by decide
theorem own_zmag_fin (s : Bool) (c : Nat) (q : Int) : zmag b64 (.fin s c q) = c * 2 ^ (q - b64.qmin).toNat := rfl
theorem own_one64 : one64 = 2 ^ 1074 := rfl
theorem OwnRep.of {n k : Nat} (hn : n < 2 ^ 53) (hk : k ≤ 2045) : OwnRep (n * 2 ^ k) := by
  obtain ⟨c, q, h1, h2⟩ := round_exact (f := b64) good_b64 false (c := n) (q := (k : Int) - 1074) hn (by rw [own_qmin]; omega) (by rw [own_qmax]; omega)
  have hf := round_fits good_b64 (.fin false n ((k : Int) - 1074))
  rw [h1] at hf
  refine ⟨c, q, hf, ?_⟩
  show inUnits c q b64.qmin = _
  rw [h2]
  show n * 2 ^ ((k : Int) - 1074 - b64.qmin).toNat = _
  rw [own_qmin, show ((k : Int) - 1074 - -1074).toNat = k by omega]
theorem OwnRep.lt {w : Nat} (h : OwnRep w) : w < b64.tails * 2 ^ (b64.exps - 2) := by
  obtain ⟨c, q, h1, rfl⟩ := h
  exact zmag_lt_top good_b64 h1
theorem OwnZ.rep {a : UInt64} {z : Nat} (h : OwnZ a z) : OwnRep z := by
  obtain ⟨⟨c, q, h1⟩, h2⟩ := h
  have := val64_fits a
  rw [h1] at this h2
  exact ⟨c, q, this, h2⟩
theorem OwnZ.fin {a : UInt64} {z : Nat} (h : OwnZ a z) : DFin a := by
  obtain ⟨⟨c, q, h1⟩, h2⟩ := h
  exact ⟨_, _, _, h1⟩
theorem OwnZ.fin64 {a : UInt64} {z : Nat} (h : OwnZ a z) : Jvm.Free.Fl.Fin64 a := Jvm.Free.Fl.fin64_core.mpr h.fin
theorem OwnZ.nn {a : UInt64} {z : Nat} (h : OwnZ a z) : Jvm.Free.Fl.NoNaN64 a := h.fin64.noNaN
theorem OwnZ.zval {a : UInt64} {z : Nat} (h : OwnZ a z) : Core.zval b64 (val64 a) = (z : Int) := by
  obtain ⟨⟨c, q, h1⟩, h2⟩ := h
  rw [h1] at h2 ⊢
  show signed false _ = _
  rw [h2]
  rfl
/-- out of sign, magnitude and no NaN -/
theorem OwnZ.mk {a : UInt64} {w : Nat} (hn : val64 a ≠ .nan) (hs : sgn (val64 a) = false) (hz : zmag b64 (val64 a) = w) (hw : w < b64.tails * 2 ^ (b64.exps - 2)) : OwnZ a w := by
  refine ⟨?_, hz⟩
  cases h : val64 a with
  | nan => exact absurd h hn
  | inf s => rw [h] at hz; exact absurd hz (Nat.ne_of_gt hw)
  | fin s c q => rw [h] at hs; exact ⟨c, q, by rw [show s = false from hs]⟩
theorem OwnZ.cmp {a b : UInt64} {x y : Nat} (ha : OwnZ a x) (hb : OwnZ b y) : FP.dcmp a b = some (compare (x : Int) (y : Int)) := by
  show Core.dcmp a b = _
  rw [dcmp_zval ha.fin.ne_nan hb.fin.ne_nan, ha.zval, hb.zval]
theorem OwnZ.bits {a b : UInt64} {x : Nat} (hx : x ≠ 0) (ha : OwnZ a x) (hb : OwnZ b x) : a = b := by
  have h := ha.cmp hb
  rw [compare_self_int] at h
  refine eq_bits ?_ h
  intro hz
  have := hz.zval
  rw [hb.zval] at this
  omega
theorem own_zero : OwnZ 0 0 := by
  refine ⟨⟨0, b64.qmin, val64_zero⟩, ?_⟩
  rw [val64_zero, own_zmag_fin, Nat.zero_mul]
theorem own_oneval : val64 4607182418800017408 = .fin false (2 ^ 52) (-52) := by decide +kernel
theorem own_one : OwnZ 4607182418800017408 one64 := by
  refine ⟨⟨_, _, own_oneval⟩, ?_⟩
  rw [own_oneval, own_zmag_fin, own_qmin, show ((-52 : Int) - -1074).toNat = 1022 from rfl, ← Nat.pow_add]
  rfl
theorem own_l2d {v : Int64} (h1 : 0 ≤ v.toInt) (h2 : v.toInt ≤ 9007199254740992) : OwnZ (FP.l2d v) (v.toInt.toNat * one64) := by
  obtain ⟨c, q, hv⟩ := l2d_shape v
  rw [show decide (v.toInt < 0) = false from decide_eq_false (by omega)] at hv
  have hd : DInt v.toInt (Core.l2d v) := l2d_int (by omega)
  have hz := DInt_zval hd
  refine ⟨⟨c, q, hv⟩, ?_⟩
  have hz2 : ((zmag b64 (val64 (Core.l2d v)) : Nat) : Int) = v.toInt * (one64 : Int) := by
    rw [hv] at hz ⊢
    exact hz
  have h3 : v.toInt = ((v.toInt.toNat : Nat) : Int) := by omega
  rw [h3] at hz2
  exact_mod_cast hz2
theorem own_i2d {v : Int32} (h1 : 0 ≤ v.toInt) : OwnZ (FP.i2d v) (v.toInt.toNat * one64) := by
  have e : FP.i2d v = FP.l2d v.toInt64 := i2d_w v
  have q := v.toInt_lt
  have := own_l2d (v := v.toInt64) (by rw [c_i2l]; exact h1) (by rw [c_i2l]; omega)
  rw [c_i2l] at this
  rw [e]
  exact this
theorem own_quot2 (s t : Bool) (c d : Nat) (q r : Int) (hd : d ≠ 0) : quotient b64 (.fin s c q) (.fin t d r) = roundRatio b64 (s != t) c d (q - r) := by
  show (if d = 0 then _ else roundRatio b64 (s != t) c d (q - r)) = _
  rw [if_neg hd]
/-- the units of a quotient, against V -/
theorem own_div_core {V c d : Nat} {q r : Int} (a2 : -1074 ≤ q) (a3 : q ≤ 971) (b2 : -1074 ≤ r) (b3 : r ≤ 971) :
    (V * 2 ^ 2926 * d ≤ inUnits c (q - r) (-4000) ↔ V * (d * 2 ^ (r - -1074).toNat) ≤ c * 2 ^ (q - -1074).toNat * one64) ∧ (inUnits c (q - r) (-4000) ≤ V * 2 ^ 2926 * d ↔ c * 2 ^ (q - -1074).toNat * one64 ≤ V * (d * 2 ^ (r - -1074).toNat)) := by
  have e1 : inUnits c (q - r) (-4000) * 2 ^ (r - -1074).toNat = c * 2 ^ (q - -1074).toNat * one64 * 2 ^ 2926 := by
    show c * 2 ^ (q - r - -4000).toNat * 2 ^ (r - -1074).toNat = _
    rw [own_one64, Nat.mul_assoc, ← Nat.pow_add, Nat.mul_assoc, Nat.mul_assoc, ← Nat.pow_add, ← Nat.pow_add, show (q - r - -4000).toNat + (r - -1074).toNat = (q - -1074).toNat + (1074 + 2926) by omega]
  have e2 : V * 2 ^ 2926 * d * 2 ^ (r - -1074).toNat = V * (d * 2 ^ (r - -1074).toNat) * 2 ^ 2926 := by
    rw [Nat.mul_assoc, Nat.mul_right_comm]
  have p1 := Nat.two_pow_pos (r - -1074).toNat
  have p2 := Nat.two_pow_pos 2926
  constructor
  · constructor
    · intro h
      have := Nat.mul_le_mul_right (2 ^ (r - -1074).toNat) h
      rw [e1, e2] at this
      exact Nat.le_of_mul_le_mul_right this p2
    · intro h
      have := Nat.mul_le_mul_right (2 ^ 2926) h
      rw [← e1, ← e2] at this
      exact Nat.le_of_mul_le_mul_right this p1
  · constructor
    · intro h
      have := Nat.mul_le_mul_right (2 ^ (r - -1074).toNat) h
      rw [e1, e2] at this
      exact Nat.le_of_mul_le_mul_right this p2
    · intro h
      have := Nat.mul_le_mul_right (2 ^ 2926) h
      rw [← e1, ← e2] at this
      exact Nat.le_of_mul_le_mul_right this p1
theorem own_div_shape {a b : UInt64} {x y : Nat} (ha : OwnZ a x) (hb : OwnZ b y) (hy : y ≠ 0) : val64 (Core.ddiv a b) ≠ .nan ∧ sgn (val64 (Core.ddiv a b)) = false ∧
    (∀ V, Core.fits b64 V → zmag b64 V * y ≤ x * one64 → zmag b64 V ≤ zmag b64 (val64 (Core.ddiv a b))) ∧ (∀ V, Core.fits b64 V → V ≠ .nan → x * one64 ≤ zmag b64 V * y → zmag b64 (val64 (Core.ddiv a b)) ≤ zmag b64 V) := by
  obtain ⟨⟨c, q, ea⟩, za⟩ := ha
  obtain ⟨⟨d, r, eb⟩, zb⟩ := hb
  have fa := val64_fits a
  have fb := val64_fits b
  rw [ea] at fa za
  rw [eb] at fb zb
  rw [own_zmag_fin, own_qmin] at za zb
  obtain ⟨a1, a2, a3, -⟩ := fa
  obtain ⟨b1, b2, b3, -⟩ := fb
  rw [own_qmin] at a2 b2
  rw [own_qmax] at a3 b3
  have hd : d ≠ 0 := fun h => by rw [h, Nat.zero_mul] at zb; exact hy zb.symm
  rw [val64_ddiv, ea, eb, own_quot2 _ _ _ _ _ _ hd]
  refine ⟨roundRatio_ne_nan _ _ _ _ _, sgn_roundRatio _ _ _ _ _, fun V fV h => ?_, fun V fV nV h => ?_⟩
  · refine zmag_roundRatio_ge good_b64 (e0 := -4000) (Nat.pos_of_ne_zero hd) fV (by rw [own_qmin]; omega) (by omega) ?_
    rw [own_qmin, show ((-1074 : Int) - -4000).toNat = 2926 from rfl]
    rw [← za, ← zb] at h
    exact ((own_div_core a2 a3 b2 b3).1).mpr h
  · refine zmag_roundRatio_le good_b64 (e0 := -4000) (Nat.pos_of_ne_zero hd) fV nV (by rw [own_qmin]; omega) (by omega) ?_
    rw [own_qmin, show ((-1074 : Int) - -4000).toNat = 2926 from rfl]
    rw [← za, ← zb] at h
    exact ((own_div_core a2 a3 b2 b3).2).mpr h
/-- an exact quotient -/
theorem OwnZ.div {a b : UInt64} {x y w : Nat} (ha : OwnZ a x) (hb : OwnZ b y) (hy : y ≠ 0) (hw : OwnRep w) (h : w * y = x * one64) : OwnZ (FP.ddiv a b) w := by
  obtain ⟨h1, h2, h3, h4⟩ := own_div_shape ha hb hy
  obtain ⟨c, q, f1, f2⟩ := id hw
  refine OwnZ.mk h1 h2 (Nat.le_antisymm ?_ ?_) hw.lt
  · have := h4 _ f1 (by intro h; cases h) (by rw [f2]; omega)
    rw [f2] at this; exact this
  · have := h3 _ f1 (by rw [f2]; omega)
    rw [f2] at this; exact this
/-- a quotient up to 1 -/
theorem OwnZ.div_le {a b : UInt64} {x y : Nat} (ha : OwnZ a x) (hb : OwnZ b y) (hy : y ≠ 0) (h : x ≤ y) : ∃ w, OwnZ (FP.ddiv a b) w ∧ w ≤ one64 ∧ (x = 0 → w = 0) ∧ (x = y → w = one64) := by
  obtain ⟨h1, h2, h3, h4⟩ := own_div_shape ha hb hy
  have v1 := h4 (val64 4607182418800017408) (val64_fits _) own_one.fin.ne_nan (by rw [own_one.2, Nat.mul_comm]; exact Nat.mul_le_mul_left _ h)
  rw [own_one.2] at v1
  refine ⟨_, OwnZ.mk h1 h2 rfl (Nat.lt_of_le_of_lt v1 own_one.rep.lt), v1, fun h0 => ?_, fun h0 => ?_⟩
  · have := h4 (val64 0) (val64_fits _) own_zero.fin.ne_nan (by rw [h0, Nat.zero_mul]; exact Nat.zero_le _)
    rw [own_zero.2] at this
    exact Nat.le_zero.mp this
  · have := h3 (val64 4607182418800017408) (val64_fits _) (by rw [own_one.2, h0, Nat.mul_comm]; exact Nat.le_refl _)
    rw [own_one.2] at this
    exact Nat.le_antisymm v1 this
/-- equal ratios give equal quotients, bit for bit -/
theorem OwnZ.div_eq {a b a' b' : UInt64} {x y x' y' : Nat} (ha : OwnZ a x) (hb : OwnZ b y) (ha' : OwnZ a' x') (hb' : OwnZ b' y') (hy : y ≠ 0) (hy' : y' ≠ 0) (h : x * y' = x' * y) : FP.ddiv a b = FP.ddiv a' b' := by
  obtain ⟨⟨c, q, ea⟩, za⟩ := ha
  obtain ⟨⟨d, r, eb⟩, zb⟩ := hb
  obtain ⟨⟨c', q', ea'⟩, za'⟩ := ha'
  obtain ⟨⟨d', r', eb'⟩, zb'⟩ := hb'
  have fa := val64_fits a
  have fb := val64_fits b
  have fa' := val64_fits a'
  have fb' := val64_fits b'
  rw [ea] at fa za
  rw [eb] at fb zb
  rw [ea'] at fa' za'
  rw [eb'] at fb' zb'
  rw [own_zmag_fin, own_qmin] at za zb za' zb'
  have a2 := fa.2.1; have b2 := fb.2.1; have a2' := fa'.2.1; have b2' := fb'.2.1
  rw [own_qmin] at a2 b2 a2' b2'
  have hd : d ≠ 0 := fun h => by rw [h, Nat.zero_mul] at zb; exact hy zb.symm
  have hd' : d' ≠ 0 := fun h => by rw [h, Nat.zero_mul] at zb'; exact hy' zb'.symm
  have key : roundRatio b64 (false != false) c d (q - r) = roundRatio b64 (false != false) c' d' (q' - r') := by
    refine roundRatio_congr (Nat.pos_of_ne_zero hd) (Nat.pos_of_ne_zero hd') ?_
    obtain ⟨Q, hQ⟩ : ∃ Q : Nat, Q = (q - -1074).toNat := ⟨_, rfl⟩
    obtain ⟨R, hR⟩ : ∃ Q : Nat, Q = (r - -1074).toNat := ⟨_, rfl⟩
    obtain ⟨Q', hQ'⟩ : ∃ Q : Nat, Q = (q' - -1074).toNat := ⟨_, rfl⟩
    obtain ⟨R', hR'⟩ : ∃ Q : Nat, Q = (r' - -1074).toNat := ⟨_, rfl⟩
    rw [← za, ← zb, ← za', ← zb', ← hQ, ← hR, ← hQ', ← hR'] at h
    have e1 : c * 2 ^ Q * (d' * 2 ^ R') = c * d' * 2 ^ (Q + R') := by rw [Nat.pow_add, Nat.mul_mul_mul_comm]
    have e2 : c' * 2 ^ Q' * (d * 2 ^ R) = c' * d * 2 ^ (Q' + R) := by rw [Nat.pow_add, Nat.mul_mul_mul_comm]
    rw [e1, e2] at h
    have e3 : q - r - (q' - r') = ((Q + R' : Nat) : Int) - ((Q' + R : Nat) : Int) := by omega
    have e4 : q' - r' - (q - r) = ((Q' + R : Nat) : Int) - ((Q + R' : Nat) : Int) := by omega
    rw [e3, e4]
    rcases Nat.le_total (Q' + R) (Q + R') with g | g
    · obtain ⟨D, hD⟩ : ∃ D : Nat, Q + R' = (Q' + R) + D := ⟨_, (Nat.add_sub_of_le g).symm⟩
      rw [hD] at h ⊢
      rw [show (((Q' + R + D : Nat) : Int) - ((Q' + R : Nat) : Int)).toNat = D by omega, show (((Q' + R : Nat) : Int) - ((Q' + R + D : Nat) : Int)).toNat = 0 by omega, Nat.pow_zero, Nat.mul_one]
      rw [Nat.pow_add, Nat.mul_comm (2 ^ (Q' + R)), ← Nat.mul_assoc] at h
      exact Nat.eq_of_mul_eq_mul_right (Nat.two_pow_pos _) h
    · obtain ⟨D, hD⟩ : ∃ D : Nat, Q' + R = (Q + R') + D := ⟨_, (Nat.add_sub_of_le g).symm⟩
      rw [hD] at h ⊢
      rw [show (((Q + R' : Nat) : Int) - ((Q + R' + D : Nat) : Int)).toNat = 0 by omega, show (((Q + R' + D : Nat) : Int) - ((Q + R' : Nat) : Int)).toNat = D by omega, Nat.pow_zero, Nat.mul_one]
      rw [Nat.pow_add 2 (Q + R') D, Nat.mul_comm (2 ^ (Q + R')) (2 ^ D), ← Nat.mul_assoc] at h
      exact Nat.eq_of_mul_eq_mul_right (Nat.two_pow_pos _) h
  show Core.ddiv a b = Core.ddiv a' b'
  refine val64_inj ?_ ?_
  · rw [val64_ddiv, ea, eb, own_quot2 _ _ _ _ _ _ hd]
    exact roundRatio_ne_nan _ _ _ _ _
  · rw [val64_ddiv, ea, eb, own_quot2 _ _ _ _ _ _ hd, val64_ddiv, ea', eb', own_quot2 _ _ _ _ _ _ hd', key]
theorem own_mul_shape {a b : UInt64} {x y : Nat} (ha : OwnZ a x) (hb : OwnZ b y) : val64 (Core.dmul a b) ≠ .nan ∧ sgn (val64 (Core.dmul a b)) = false ∧
    (∀ V, Core.fits b64 V → zmag b64 V * one64 ≤ x * y → zmag b64 V ≤ zmag b64 (val64 (Core.dmul a b))) ∧ (∀ V, Core.fits b64 V → V ≠ .nan → x * y ≤ zmag b64 V * one64 → zmag b64 (val64 (Core.dmul a b)) ≤ zmag b64 V) := by
  obtain ⟨⟨c, q, ea⟩, za⟩ := ha
  obtain ⟨⟨d, r, eb⟩, zb⟩ := hb
  have fa := val64_fits a
  have fb := val64_fits b
  rw [ea] at fa za
  rw [eb] at fb zb
  obtain ⟨e1, e2, e3⟩ := product_units fa fb
  rw [za, zb] at e3
  rw [val64_dmul, ea, eb, e1]
  refine ⟨roundRatio_ne_nan _ _ _ _ _, sgn_roundRatio _ _ _ _ _, fun V fV h => ?_, fun V fV nV h => ?_⟩
  · refine zmag_roundRatio_ge good_b64 (e0 := 2 * b64.qmin) (by decide) fV (by rw [own_qmin]; omega) e2 ?_
    rw [e3, Nat.mul_one, own_qmin]
    exact h
  · refine zmag_roundRatio_le good_b64 (e0 := 2 * b64.qmin) (by decide) fV nV (by rw [own_qmin]; omega) e2 ?_
    rw [e3, Nat.mul_one, own_qmin]
    exact h
/-- an exact product -/
theorem OwnZ.mul {a b : UInt64} {x y w : Nat} (ha : OwnZ a x) (hb : OwnZ b y) (hw : OwnRep w) (h : x * y = w * one64) : OwnZ (FP.dmul a b) w := by
  obtain ⟨h1, h2, h3, h4⟩ := own_mul_shape ha hb
  obtain ⟨c, q, f1, f2⟩ := id hw
  refine OwnZ.mk h1 h2 (Nat.le_antisymm ?_ ?_) hw.lt
  · have := h4 _ f1 (by intro h; cases h) (by rw [f2]; omega)
    rw [f2] at this; exact this
  · have := h3 _ f1 (by rw [f2]; omega)
    rw [f2] at this; exact this
theorem own_sum_sgn (c d : Nat) (q r : Int) : sgn (round b64 (exactSum (.fin false c q) (.fin false d r))) = false := by
  show sgn (roundRatio b64 (sumSign false false (sumUnits false c q false d r (min q r))) _ 1 _) = false
  rw [sgn_roundRatio]
  have : ¬ sumUnits false c q false d r (min q r) < 0 := by
    show ¬ ((inUnits c q (min q r) : Nat) : Int) + ((inUnits d r (min q r) : Nat) : Int) < 0
    omega
  show (if _ = 0 then _ else decide _) = false
  split
  · rfl
  · exact decide_eq_false this
/-- an exact sum -/
theorem OwnZ.add {a b : UInt64} {x y : Nat} (ha : OwnZ a x) (hb : OwnZ b y) (hw : OwnRep (x + y)) : OwnZ (FP.dadd a b) (x + y) := by
  obtain ⟨c, q, f1, f2⟩ := id hw
  have hle := sum_le good_b64 (x := val64 a) (y := val64 b) (V := .fin false c q) ha.fin hb.fin (val64_fits a) (val64_fits b) f1 (by intro h; cases h) (by
    rw [ha.zval, hb.zval]
    show _ ≤ signed false (zmag b64 (.fin false c q))
    rw [f2]
    show _ ≤ ((x + y : Nat) : Int)
    omega)
  have hge := sum_ge good_b64 (x := val64 a) (y := val64 b) (V := .fin false c q) ha.fin hb.fin (val64_fits a) (val64_fits b) f1 (by intro h; cases h) (by
    rw [ha.zval, hb.zval]
    show signed false (zmag b64 (.fin false c q)) ≤ _
    rw [f2]
    show ((x + y : Nat) : Int) ≤ _
    omega)
  have hs : sgn (val64 (Core.dadd a b)) = false := by
    obtain ⟨⟨c1, q1, e1⟩, -⟩ := ha
    obtain ⟨⟨c2, q2, e2⟩, -⟩ := hb
    rw [val64_dadd, e1, e2]
    exact own_sum_sgn _ _ _ _
  have hn : val64 (Core.dadd a b) ≠ .nan := (notNaN_iff _).mp (Core.dadd_out ha.fin.notNaN hb.fin)
  rw [← val64_dadd] at hle hge
  have hz : Core.zval b64 (val64 (Core.dadd a b)) = ((x + y : Nat) : Int) := by
    have e : Core.zval b64 (.fin false c q) = ((x + y : Nat) : Int) := by
      show signed false (zmag b64 (.fin false c q)) = _
      rw [f2]; rfl
    rw [e] at hle hge
    omega
  refine OwnZ.mk hn hs ?_ hw.lt
  have e5 : Core.zval b64 (val64 (Core.dadd a b)) = signed (sgn (val64 (Core.dadd a b))) (zmag b64 (val64 (Core.dadd a b))) := rfl
  rw [hs] at e5
  have e6 : ((zmag b64 (val64 (Core.dadd a b)) : Nat) : Int) = ((x + y : Nat) : Int) := by rw [← hz, e5]; rfl
  exact_mod_cast e6
end OwnPos
def Q2 (Z : State) (a1 : Addr) (h0 : Heap) (n0 : Nat) (v : Option Value) (h : Heap) (L : List Loc) : Prop := v = none ∧ Fr n0 L ∧ h = h0
theorem pn0 : plainName "java/lang/Record" = true := by first | (simp [plainName, overriddenIn]; done) | decide +kernel
theorem ef2 (m : MethodId) (x0 : Addr) : entryFrame m #[(.ref x0)] 1 = mkF m 0 #[.val (.ref x0)] [] := by first | (simp [entryFrame, mkF, argsToLocals, Value.category]; done) | rfl
theorem d2_0 : decode jdk_30_method_1_code 0 = .ok (.aload_n 0, 1) := by decide +kernel
theorem d2_1 : decode jdk_30_method_1_code 1 = .ok (.invokespecial 1, 3) := by decide +kernel
theorem d2_4 : decode jdk_30_method_1_code 4 = .ok (.return_, 1) := by decide +kernel
set_option maxRecDepth 65536 in
set_option maxHeartbeats 40000000 in
theorem rm2 (l : Launch) (Z : State) (a0 : Array Value) (hw : ∀ d ∈ tables_1, d.before a0 Z = true) (ws : List Jvm.Cond) (a1 : Addr) (h0 : Heap) (n0 : Nat) (Z0 : n0 ≤ h0.size)  :
    MetFree l (⟨"java/lang/Record", "<init>", "()V"⟩ : MethodName) (head1 (Jvm.Cond.code (⟨"java/lang/Record", "<init>", "()V"⟩ : MethodName) jdk_30_method_1_code 1 none :: ws) ({ frames := 1, cells := 0, slots := 0, locals := 12 } : Room)) (fun a U => a = #[(.ref a1)] ∧ Z.Warmed39 U.vm ∧ U.heap = h0) (fun _ _ _ _ _ => True) (fun _ U o U' => ∃ v L, o = .returned v ∧ Q2 Z a1 h0 n0 v U'.heap L ∧ FrameEnd U o U' L ({ frames := 1, cells := 0, slots := 0, locals := 12 } : Room).cells ({ frames := 1, cells := 0, slots := 0, locals := 12 } : Room).slots) := by
  refine MetFree.of_bodySF (plainFor_of_name pn0) hisR ?_
  intro p e s m args below meth c s₁ Bd hml0 hP hK
  obtain ⟨rfl, hZ, hh⟩ := hP
  have hx := Bd.exec
  have hby := Bd.bytes
  have hml : c.maxLocals = 1 := hml0
  have hown : s.vm.findClass "java/lang/Record" = some m.cls := findClass_of_methodNamed Bd.named
  have hnm := (name_of_methodNamed Bd.named Bd.method).1
  have X0 : Stand p l e ({ frames := 1, cells := 0, slots := 0, locals := 12 } : Room) s m #[(.ref a1)] below meth c s₁ [] 0 0 := Stand.of_body Bd
  have e0 : s₁.heap = h0 := by rw [← hh, Bd.state]; rfl
  have N0 := Fr.nil n0
  have pre0 : ∀ t, Steps p.tables e below (s₁.setTop (mkF m 0 #[.val (.ref a1)] [])) t → Steps p.tables e below (s₁.setTop (entryFrame m #[(.ref a1)] 1)) t := fun t k => castTop (ef2 m a1) k
  have C1 : ∀ t, Steps p.tables e below (s₁.setTop (mkF m 1 #[.val (.ref a1)] [(.ref a1)])) t → Steps p.tables e below (s₁.setTop (entryFrame m #[(.ref a1)] 1)) t := by
    intro t k
    refine pre0 t ?_
    show Steps p.tables e below (s₁.setTop (mkF m 0 #[.val (.ref a1)] [])) _
    refine XS.aloadN X0.here hx rfl (hb hby d2_0) rfl rfl ?_
    exact k
  obtain ⟨T2, X2, e2, st2⟩ := initO X0 hx hZ hown (hw _ (List.mem_of_getElem? (i := 12) rfl)) (hw _ (List.mem_of_getElem? (i := 13) rfl)) (hw _ (List.mem_of_getElem? (i := 14) rfl)) e0 (g := (mkF m 1 #[.val (.ref a1)] [(.ref a1)])) rfl (by rw [hml]; rfl) rfl (hb hby d2_1) (by decide) (W := 0) (by show 2 * 0 + _ ≤ _; exact Nat.le_of_eq rfl) (by decide)
  have C2 : ∀ t, Steps p.tables e below (T2.setTop (mkF m 4 #[.val (.ref a1)] [])) t → Steps p.tables e below (s₁.setTop (entryFrame m #[(.ref a1)] 1)) t := fun t k => C1 t (st2 t k)
  obtain ⟨fs, hr, hrun, hended, hW, hsame⟩ := X2.leave (v := none) (fun _ => rfl)
  refine ⟨_, _, C2 _ ?_, hrun, hended, _, _, rfl, ?_, ⟨_, rfl⟩, hW, hsame.mono (by decide) (by decide)⟩
  · show Steps p.tables e below (T2.setTop (mkF m 4 #[.val (.ref a1)] [])) _
    exact X2.returnOut hx Bd.returns (hb hby d2_4) hr
  · show Q2 Z a1 h0 n0 _ T2.heap _
    rw [e2]
    exact ⟨rfl, N0, rfl⟩
theorem pd0 : parseMethodDescriptor "()V" = some ⟨[], none⟩ := by decide +kernel
def Q1 (Z : State) (a1 : Addr) (x2 x3 : UInt64) (h0 : Heap) (n0 : Nat) (v : Option Value) (h : Heap) (L : List Loc) : Prop := v = none ∧ Fr n0 L ∧ Keep h0 h [a1] ∧ Exa Z h a1 "com/example/fundao/fundao/Analysis$Insertion" ∧ Fld Z h a1 "com/example/fundao/fundao/Analysis$Insertion" "resetBits" "D" (.double x2) ∧ Fld Z h a1 "com/example/fundao/fundao/Analysis$Insertion" "setBits" "D" (.double x3)
theorem pn1 : plainName "com/example/fundao/fundao/Analysis$Insertion" = true := by first | (simp [plainName, overriddenIn]; done) | decide +kernel
theorem ef1 (m : MethodId) (x0 : Addr) (x1 : UInt64) (x2 : UInt64) (x3 : UInt64) : entryFrame m #[(.ref x0), (.double x1), (.double x2), (.double x3)] 7 = mkF m 0 #[.val (.ref x0), .val (.double x1), .second, .val (.double x2), .second, .val (.double x3), .second] [] := by first | (simp [entryFrame, mkF, argsToLocals, Value.category]; done) | rfl
theorem d1_0 : decode prog_2_method_1_code 0 = .ok (.aload_n 0, 1) := by decide +kernel
theorem d1_1 : decode prog_2_method_1_code 1 = .ok (.invokespecial 1, 3) := by decide +kernel
theorem d1_4 : decode prog_2_method_1_code 4 = .ok (.aload_n 0, 1) := by decide +kernel
theorem d1_5 : decode prog_2_method_1_code 5 = .ok (.dload_n 1, 1) := by decide +kernel
theorem d1_6 : decode prog_2_method_1_code 6 = .ok (.putfield 7, 3) := by decide +kernel
theorem d1_9 : decode prog_2_method_1_code 9 = .ok (.aload_n 0, 1) := by decide +kernel
theorem d1_10 : decode prog_2_method_1_code 10 = .ok (.dload_n 3, 1) := by decide +kernel
theorem d1_11 : decode prog_2_method_1_code 11 = .ok (.putfield 13, 3) := by decide +kernel
theorem d1_14 : decode prog_2_method_1_code 14 = .ok (.aload_n 0, 1) := by decide +kernel
theorem d1_15 : decode prog_2_method_1_code 15 = .ok (.dload 5, 2) := by decide +kernel
theorem d1_17 : decode prog_2_method_1_code 17 = .ok (.putfield 16, 3) := by decide +kernel
theorem d1_20 : decode prog_2_method_1_code 20 = .ok (.return_, 1) := by decide +kernel
set_option maxRecDepth 65536 in
set_option maxHeartbeats 40000000 in
theorem rm1 (l : Launch) (Z : State) (a0 : Array Value) (hw : ∀ d ∈ tables_1, d.before a0 Z = true) (ws : List Jvm.Cond) (a1 : Addr) (x1 x2 x3 : UInt64) (h0 : Heap) (n0 : Nat) (Z0 : n0 ≤ h0.size) (F1 : Fld Z h0 a1 "com/example/fundao/fundao/Analysis$Insertion" "logUntouched" "D" (.double 0)) (F2 : Fld Z h0 a1 "com/example/fundao/fundao/Analysis$Insertion" "resetBits" "D" (.double 0)) (F3 : Fld Z h0 a1 "com/example/fundao/fundao/Analysis$Insertion" "setBits" "D" (.double 0)) (E1 : Exa Z h0 a1 "com/example/fundao/fundao/Analysis$Insertion") (g1 : n0 ≤ a1) :
    MetFree l (⟨"com/example/fundao/fundao/Analysis$Insertion", "<init>", "(DDD)V"⟩ : MethodName) (head1 (Jvm.Cond.code (⟨"com/example/fundao/fundao/Analysis$Insertion", "<init>", "(DDD)V"⟩ : MethodName) prog_2_method_1_code 7 none :: ws) ({ frames := 2, cells := 0, slots := 0, locals := 24 } : Room)) (fun a U => a = #[(.ref a1), (.double x1), (.double x2), (.double x3)] ∧ Z.Warmed39 U.vm ∧ U.heap = h0) (fun _ _ _ _ _ => True) (fun _ U o U' => ∃ v L, o = .returned v ∧ Q1 Z a1 x2 x3 h0 n0 v U'.heap L ∧ FrameEnd U o U' L ({ frames := 2, cells := 0, slots := 0, locals := 24 } : Room).cells ({ frames := 2, cells := 0, slots := 0, locals := 24 } : Room).slots) := by
  refine MetFree.of_bodySF (plainFor_of_name pn1) hisR ?_
  intro p e s m args below meth c s₁ Bd hml0 hP hK
  obtain ⟨rfl, hZ, hh⟩ := hP
  have hx := Bd.exec
  have hby := Bd.bytes
  have hml : c.maxLocals = 7 := hml0
  have hown : s.vm.findClass "com/example/fundao/fundao/Analysis$Insertion" = some m.cls := findClass_of_methodNamed Bd.named
  have hnm := (name_of_methodNamed Bd.named Bd.method).1
  have X0 : Stand p l e ({ frames := 2, cells := 0, slots := 0, locals := 24 } : Room) s m #[(.ref a1), (.double x1), (.double x2), (.double x3)] below meth c s₁ [] 0 0 := Stand.of_body Bd
  have e0 : s₁.heap = h0 := by rw [← hh, Bd.state]; rfl
  have N0 := Fr.nil n0
  have pre0 : ∀ t, Steps p.tables e below (s₁.setTop (mkF m 0 #[.val (.ref a1), .val (.double x1), .second, .val (.double x2), .second, .val (.double x3), .second] [])) t → Steps p.tables e below (s₁.setTop (entryFrame m #[(.ref a1), (.double x1), (.double x2), (.double x3)] 7)) t := fun t k => castTop (ef1 m a1 x1 x2 x3) k
  have C3 : ∀ t, Steps p.tables e below (s₁.setTop (mkF m 1 #[.val (.ref a1), .val (.double x1), .second, .val (.double x2), .second, .val (.double x3), .second] [(.ref a1)])) t → Steps p.tables e below (s₁.setTop (entryFrame m #[(.ref a1), (.double x1), (.double x2), (.double x3)] 7)) t := by
    intro t k
    refine pre0 t ?_
    show Steps p.tables e below (s₁.setTop (mkF m 0 #[.val (.ref a1), .val (.double x1), .second, .val (.double x2), .second, .val (.double x3), .second] [])) _
    refine XS.aloadN X0.here hx rfl (hb hby d1_0) rfl rfl ?_
    exact k
  obtain ⟨_, _, ⟨T4, L4, k4, n4⟩, -, X4, ⟨Lc4, hQ4, l4, y4, z4⟩, st4⟩ := X0.specialBack hx (y := (⟨"java/lang/Record", "<init>", "()V"⟩ : MethodName)) rfl hown (mvT hZ (hw _ (List.mem_of_getElem? (i := 7) rfl))) (mvT hZ (hw _ (List.mem_of_getElem? (i := 8) rfl))) (mvT hZ (hw _ (List.mem_of_getElem? (i := 11) rfl))) (by decide) (backOf (W := 0) (rm2 l Z a0 hw [] a1 h0 n0 Z0) hZ (hw _ (List.mem_of_getElem? (i := 11) rfl)) (hw _ (List.mem_of_getElem? (i := 10) rfl)) (by decide) (by decide)) (g := (mkF m 1 #[.val (.ref a1), .val (.double x1), .second, .val (.double x2), .second, .val (.double x3), .second] [(.ref a1)])) rfl (by rw [hml]; rfl) (Steps.refl _) (a := a1) (argsL := []) (rest := []) (lenOf pd0 rfl) rfl (by show 2 * 0 + _ ≤ _; exact Nat.le_of_eq rfl) (hb hby d1_1) (fun _ _ => ⟨rfl, e0, (by decide : 0 + 0 ≤ _), (by decide : 0 + 0 ≤ _)⟩)
  dsimp only [Pt.U, Pt.locs, Pt.cells, Pt.slots] at X4 l4 y4 z4 st4 hQ4
  subst l4 y4 z4
  obtain ⟨rfl, N4q, q4⟩ := hQ4
  have N4 := Fr.app N0 N4q
  have C4 : ∀ t, Steps p.tables e below (T4.setTop (mkF m 4 #[.val (.ref a1), .val (.double x1), .second, .val (.double x2), .second, .val (.double x3), .second] [])) t → Steps p.tables e below (s₁.setTop (entryFrame m #[(.ref a1), (.double x1), (.double x2), (.double x3)] 7)) t := fun t k => C3 t (st4.trans k)
  have F1a : Fld Z T4.heap a1 "com/example/fundao/fundao/Analysis$Insertion" "logUntouched" "D" (.double 0) := by rw [q4]; exact F1
  have F2a : Fld Z T4.heap a1 "com/example/fundao/fundao/Analysis$Insertion" "resetBits" "D" (.double 0) := by rw [q4]; exact F2
  have F3a : Fld Z T4.heap a1 "com/example/fundao/fundao/Analysis$Insertion" "setBits" "D" (.double 0) := by rw [q4]; exact F3
  have E1a : Exa Z T4.heap a1 "com/example/fundao/fundao/Analysis$Insertion" := by rw [q4]; exact E1
  have C5 : ∀ t, Steps p.tables e below (T4.setTop (mkF m 6 #[.val (.ref a1), .val (.double x1), .second, .val (.double x2), .second, .val (.double x3), .second] [(.double x1), (.ref a1)])) t → Steps p.tables e below (s₁.setTop (entryFrame m #[(.ref a1), (.double x1), (.double x2), (.double x3)] 7)) t := by
    intro t k
    refine C4 t ?_
    show Steps p.tables e below (T4.setTop (mkF m 4 #[.val (.ref a1), .val (.double x1), .second, .val (.double x2), .second, .val (.double x3), .second] [])) _
    refine XS.aloadN X4.here hx rfl (hb hby d1_4) rfl rfl ?_
    show Steps p.tables e below (T4.setTop (mkF m 5 #[.val (.ref a1), .val (.double x1), .second, .val (.double x2), .second, .val (.double x3), .second] [(.ref a1)])) _
    refine XS.dloadN X4.here hx rfl (hb hby d1_5) rfl ?_
    exact k
  obtain ⟨T6, h6, X6, e6, W6, st6⟩ := putF X4 hx hZ hown (host := "") (Or.inl (hw _ (List.mem_of_getElem? (i := 15) rfl))) Via.refl rfl F1a E1a (Or.inr ⟨(hw _ (List.mem_of_getElem? (i := 16) rfl)), rfl, hnm⟩) (hw _ (List.mem_of_getElem? (i := 2) rfl)) (ty := .double) (by decide) rfl rfl (g := (mkF m 6 #[.val (.ref a1), .val (.double x1), .second, .val (.double x2), .second, .val (.double x3), .second] [(.double x1), (.ref a1)])) rfl rfl (hb hby d1_6)
  have N6 := Fr.snoc X6 N4 g1
  have C6 : ∀ t, Steps p.tables e below (T6.setTop (mkF m 9 #[.val (.ref a1), .val (.double x1), .second, .val (.double x2), .second, .val (.double x3), .second] [])) t → Steps p.tables e below (s₁.setTop (entryFrame m #[(.ref a1), (.double x1), (.double x2), (.double x3)] 7)) t := fun t k => C5 t (st6 t k)
  have F2b := F2a.other W6 (Or.inr (slot_ne (Or.inr (hw _ (List.mem_of_getElem? (i := 18) rfl))) (Or.inr (hw _ (List.mem_of_getElem? (i := 16) rfl))) (by decide) (t := .double) (t' := .double) (by decide) (by decide)))
  have F3b := F3a.other W6 (Or.inr (slot_ne (Or.inr (hw _ (List.mem_of_getElem? (i := 20) rfl))) (Or.inr (hw _ (List.mem_of_getElem? (i := 16) rfl))) (by decide) (t := .double) (t' := .double) (by decide) (by decide)))
  have C7 : ∀ t, Steps p.tables e below (T6.setTop (mkF m 11 #[.val (.ref a1), .val (.double x1), .second, .val (.double x2), .second, .val (.double x3), .second] [(.double x2), (.ref a1)])) t → Steps p.tables e below (s₁.setTop (entryFrame m #[(.ref a1), (.double x1), (.double x2), (.double x3)] 7)) t := by
    intro t k
    refine C6 t ?_
    show Steps p.tables e below (T6.setTop (mkF m 9 #[.val (.ref a1), .val (.double x1), .second, .val (.double x2), .second, .val (.double x3), .second] [])) _
    refine XS.aloadN X6.here hx rfl (hb hby d1_9) rfl rfl ?_
    show Steps p.tables e below (T6.setTop (mkF m 10 #[.val (.ref a1), .val (.double x1), .second, .val (.double x2), .second, .val (.double x3), .second] [(.ref a1)])) _
    refine XS.dloadN X6.here hx rfl (hb hby d1_10) rfl ?_
    exact k
  obtain ⟨T8, h8, X8, e8, W8, st8⟩ := putF X6 hx hZ hown (host := "") (Or.inl (hw _ (List.mem_of_getElem? (i := 17) rfl))) Via.refl e6 F2b (E1a.wr W6) (Or.inr ⟨(hw _ (List.mem_of_getElem? (i := 18) rfl)), rfl, hnm⟩) (hw _ (List.mem_of_getElem? (i := 2) rfl)) (ty := .double) (by decide) rfl rfl (g := (mkF m 11 #[.val (.ref a1), .val (.double x1), .second, .val (.double x2), .second, .val (.double x3), .second] [(.double x2), (.ref a1)])) rfl rfl (hb hby d1_11)
  have N8 := Fr.snoc X8 N6 g1
  have C8 : ∀ t, Steps p.tables e below (T8.setTop (mkF m 14 #[.val (.ref a1), .val (.double x1), .second, .val (.double x2), .second, .val (.double x3), .second] [])) t → Steps p.tables e below (s₁.setTop (entryFrame m #[(.ref a1), (.double x1), (.double x2), (.double x3)] 7)) t := fun t k => C7 t (st8 t k)
  have F2c := F2b.same W8
  have F3c := F3b.other W8 (Or.inr (slot_ne (Or.inr (hw _ (List.mem_of_getElem? (i := 20) rfl))) (Or.inr (hw _ (List.mem_of_getElem? (i := 18) rfl))) (by decide) (t := .double) (t' := .double) (by decide) (by decide)))
  have C9 : ∀ t, Steps p.tables e below (T8.setTop (mkF m 17 #[.val (.ref a1), .val (.double x1), .second, .val (.double x2), .second, .val (.double x3), .second] [(.double x3), (.ref a1)])) t → Steps p.tables e below (s₁.setTop (entryFrame m #[(.ref a1), (.double x1), (.double x2), (.double x3)] 7)) t := by
    intro t k
    refine C8 t ?_
    show Steps p.tables e below (T8.setTop (mkF m 14 #[.val (.ref a1), .val (.double x1), .second, .val (.double x2), .second, .val (.double x3), .second] [])) _
    refine XS.aloadN X8.here hx rfl (hb hby d1_14) rfl rfl ?_
    show Steps p.tables e below (T8.setTop (mkF m 15 #[.val (.ref a1), .val (.double x1), .second, .val (.double x2), .second, .val (.double x3), .second] [(.ref a1)])) _
    refine XS.dload X8.here hx rfl (hb hby d1_15) rfl ?_
    exact k
  obtain ⟨T10, h10, X10, e10, W10, st10⟩ := putF X8 hx hZ hown (host := "") (Or.inl (hw _ (List.mem_of_getElem? (i := 19) rfl))) Via.refl e8 F3c ((E1a.wr W6).wr W8) (Or.inr ⟨(hw _ (List.mem_of_getElem? (i := 20) rfl)), rfl, hnm⟩) (hw _ (List.mem_of_getElem? (i := 2) rfl)) (ty := .double) (by decide) rfl rfl (g := (mkF m 17 #[.val (.ref a1), .val (.double x1), .second, .val (.double x2), .second, .val (.double x3), .second] [(.double x3), (.ref a1)])) rfl rfl (hb hby d1_17)
  have N10 := Fr.snoc X10 N8 g1
  have C10 : ∀ t, Steps p.tables e below (T10.setTop (mkF m 20 #[.val (.ref a1), .val (.double x1), .second, .val (.double x2), .second, .val (.double x3), .second] [])) t → Steps p.tables e below (s₁.setTop (entryFrame m #[(.ref a1), (.double x1), (.double x2), (.double x3)] 7)) t := fun t k => C9 t (st10 t k)
  have F2d := F2c.other W10 (Or.inr (slot_ne (Or.inr (hw _ (List.mem_of_getElem? (i := 18) rfl))) (Or.inr (hw _ (List.mem_of_getElem? (i := 20) rfl))) (by decide) (t := .double) (t' := .double) (by decide) (by decide)))
  have F3d := F3c.same W10
  have K : Keep h0 h10 [a1] := by
    have k0 : Keep h0 T4.heap [a1] := by rw [q4]; exact Keep.refl _ _
    exact (((k0.wr W6 (Or.inl (List.mem_of_getElem? (i := 0) rfl))).wr W8 (Or.inl (List.mem_of_getElem? (i := 0) rfl))).wr W10 (Or.inl (List.mem_of_getElem? (i := 0) rfl)))
  obtain ⟨fs, hr, hrun, hended, hW, hsame⟩ := X10.leave (v := none) (fun _ => rfl)
  refine ⟨_, _, C10 _ ?_, hrun, hended, _, _, rfl, ?_, ⟨_, rfl⟩, hW, hsame.mono (by decide) (by decide)⟩
  · show Steps p.tables e below (T10.setTop (mkF m 20 #[.val (.ref a1), .val (.double x1), .second, .val (.double x2), .second, .val (.double x3), .second] [])) _
    exact X10.returnOut hx Bd.returns (hb hby d1_20) hr
  · show Q1 Z a1 x2 x3 h0 n0 _ T10.heap _
    rw [e10]
    exact ⟨rfl, N10, K, ((E1a.wr W6).wr W8).wr W10, F2d, F3d⟩
def Q4 (Z : State) (a1 : Addr) (x2 x3 : UInt64) (h0 : Heap) (n0 : Nat) (v : Option Value) (h : Heap) (L : List Loc) : Prop := v = some (.double (FP.ddiv x3 (FP.dadd x2 x3))) ∧ Fr n0 L ∧ h = h0
theorem ef4 (m : MethodId) (x0 : Addr) : entryFrame m #[(.ref x0)] 1 = mkF m 0 #[.val (.ref x0)] [] := by first | (simp [entryFrame, mkF, argsToLocals, Value.category]; done) | rfl
theorem d4_0 : decode prog_2_method_5_code 0 = .ok (.aload_n 0, 1) := by decide +kernel
theorem d4_1 : decode prog_2_method_5_code 1 = .ok (.getfield 16, 3) := by decide +kernel
theorem d4_4 : decode prog_2_method_5_code 4 = .ok (.aload_n 0, 1) := by decide +kernel
theorem d4_5 : decode prog_2_method_5_code 5 = .ok (.getfield 13, 3) := by decide +kernel
theorem d4_8 : decode prog_2_method_5_code 8 = .ok (.aload_n 0, 1) := by decide +kernel
theorem d4_9 : decode prog_2_method_5_code 9 = .ok (.getfield 16, 3) := by decide +kernel
theorem d4_12 : decode prog_2_method_5_code 12 = .ok (.dadd, 1) := by decide +kernel
theorem d4_13 : decode prog_2_method_5_code 13 = .ok (.ddiv, 1) := by decide +kernel
theorem d4_14 : decode prog_2_method_5_code 14 = .ok (.dreturn, 1) := by decide +kernel
set_option maxRecDepth 65536 in
set_option maxHeartbeats 40000000 in
theorem rm4 (l : Launch) (Z : State) (a0 : Array Value) (hw : ∀ d ∈ tables_1, d.before a0 Z = true) (ws : List Jvm.Cond) (a1 : Addr) (x2 x3 : UInt64) (h0 : Heap) (n0 : Nat) (Z0 : n0 ≤ h0.size) (F2 : Fld Z h0 a1 "com/example/fundao/fundao/Analysis$Insertion" "resetBits" "D" (.double x2)) (F3 : Fld Z h0 a1 "com/example/fundao/fundao/Analysis$Insertion" "setBits" "D" (.double x3)) (nn1 : Jvm.Free.Fl.NoNaN64 (FP.dadd x2 x3)) (nn2 : Jvm.Free.Fl.NoNaN64 (FP.ddiv x3 (FP.dadd x2 x3))) :
    MetFree l (⟨"com/example/fundao/fundao/Analysis$Insertion", "set", "()D"⟩ : MethodName) (head1 (Jvm.Cond.code (⟨"com/example/fundao/fundao/Analysis$Insertion", "set", "()D"⟩ : MethodName) prog_2_method_5_code 1 (some .double) :: ws) ({ frames := 0, cells := 0, slots := 0, locals := 0 } : Room)) (fun a U => a = #[(.ref a1)] ∧ Z.Warmed39 U.vm ∧ U.heap = h0) (fun _ _ _ _ _ => True) (fun _ U o U' => ∃ v L, o = .returned v ∧ Q4 Z a1 x2 x3 h0 n0 v U'.heap L ∧ FrameEnd U o U' L ({ frames := 0, cells := 0, slots := 0, locals := 0 } : Room).cells ({ frames := 0, cells := 0, slots := 0, locals := 0 } : Room).slots) := by
  refine MetFree.of_bodySF (plainFor_of_name pn1) hisR ?_
  intro p e s m args below meth c s₁ Bd hml0 hP hK
  obtain ⟨rfl, hZ, hh⟩ := hP
  have hx := Bd.exec
  have hby := Bd.bytes
  have hml : c.maxLocals = 1 := hml0
  have hown : s.vm.findClass "com/example/fundao/fundao/Analysis$Insertion" = some m.cls := findClass_of_methodNamed Bd.named
  have hnm := (name_of_methodNamed Bd.named Bd.method).1
  have X0 : Stand p l e ({ frames := 0, cells := 0, slots := 0, locals := 0 } : Room) s m #[(.ref a1)] below meth c s₁ [] 0 0 := Stand.of_body Bd
  have e0 : s₁.heap = h0 := by rw [← hh, Bd.state]; rfl
  have N0 := Fr.nil n0
  have pre0 : ∀ t, Steps p.tables e below (s₁.setTop (mkF m 0 #[.val (.ref a1)] [])) t → Steps p.tables e below (s₁.setTop (entryFrame m #[(.ref a1)] 1)) t := fun t k => castTop (ef4 m a1) k
  have C11 : ∀ t, Steps p.tables e below (s₁.setTop (mkF m 1 #[.val (.ref a1)] [(.ref a1)])) t → Steps p.tables e below (s₁.setTop (entryFrame m #[(.ref a1)] 1)) t := by
    intro t k
    refine pre0 t ?_
    show Steps p.tables e below (s₁.setTop (mkF m 0 #[.val (.ref a1)] [])) _
    refine XS.aloadN X0.here hx rfl (hb hby d4_0) rfl rfl ?_
    exact k
  obtain ⟨T12, X12, e12, st12⟩ := getF X0 hx hZ hown (host := "") (Or.inl (hw _ (List.mem_of_getElem? (i := 19) rfl))) Via.refl e0 F3 (g := (mkF m 1 #[.val (.ref a1)] [(.ref a1)])) rfl rfl (hb hby d4_1)
  have C12 : ∀ t, Steps p.tables e below (T12.setTop (mkF m 4 #[.val (.ref a1)] [(.double x3)])) t → Steps p.tables e below (s₁.setTop (entryFrame m #[(.ref a1)] 1)) t := fun t k => C11 t (st12 t k)
  have C13 : ∀ t, Steps p.tables e below (T12.setTop (mkF m 5 #[.val (.ref a1)] [(.ref a1), (.double x3)])) t → Steps p.tables e below (s₁.setTop (entryFrame m #[(.ref a1)] 1)) t := by
    intro t k
    refine C12 t ?_
    show Steps p.tables e below (T12.setTop (mkF m 4 #[.val (.ref a1)] [(.double x3)])) _
    refine XS.aloadN X12.here hx rfl (hb hby d4_4) rfl rfl ?_
    exact k
  obtain ⟨T14, X14, e14, st14⟩ := getF X12 hx hZ hown (host := "") (Or.inl (hw _ (List.mem_of_getElem? (i := 17) rfl))) Via.refl e12 F2 (g := (mkF m 5 #[.val (.ref a1)] [(.ref a1), (.double x3)])) rfl rfl (hb hby d4_5)
  have C14 : ∀ t, Steps p.tables e below (T14.setTop (mkF m 8 #[.val (.ref a1)] [(.double x2), (.double x3)])) t → Steps p.tables e below (s₁.setTop (entryFrame m #[(.ref a1)] 1)) t := fun t k => C13 t (st14 t k)
  have C15 : ∀ t, Steps p.tables e below (T14.setTop (mkF m 9 #[.val (.ref a1)] [(.ref a1), (.double x2), (.double x3)])) t → Steps p.tables e below (s₁.setTop (entryFrame m #[(.ref a1)] 1)) t := by
    intro t k
    refine C14 t ?_
    show Steps p.tables e below (T14.setTop (mkF m 8 #[.val (.ref a1)] [(.double x2), (.double x3)])) _
    refine XS.aloadN X14.here hx rfl (hb hby d4_8) rfl rfl ?_
    exact k
  obtain ⟨T16, X16, e16, st16⟩ := getF X14 hx hZ hown (host := "") (Or.inl (hw _ (List.mem_of_getElem? (i := 19) rfl))) Via.refl e14 F3 (g := (mkF m 9 #[.val (.ref a1)] [(.ref a1), (.double x2), (.double x3)])) rfl rfl (hb hby d4_9)
  have C16 : ∀ t, Steps p.tables e below (T16.setTop (mkF m 12 #[.val (.ref a1)] [(.double x3), (.double x2), (.double x3)])) t → Steps p.tables e below (s₁.setTop (entryFrame m #[(.ref a1)] 1)) t := fun t k => C15 t (st16 t k)
  have C17 : ∀ t, Steps p.tables e below (T16.setTop (mkF m 14 #[.val (.ref a1)] [(.double (FP.ddiv x3 (FP.dadd x2 x3)))])) t → Steps p.tables e below (s₁.setTop (entryFrame m #[(.ref a1)] 1)) t := by
    intro t k
    refine C16 t ?_
    show Steps p.tables e below (T16.setTop (mkF m 12 #[.val (.ref a1)] [(.double x3), (.double x2), (.double x3)])) _
    refine XS.daddS X16.here hx rfl (hb hby d4_12) rfl nn1 rfl ?_
    show Steps p.tables e below (T16.setTop (mkF m 13 #[.val (.ref a1)] [(.double (FP.dadd x2 x3)), (.double x3)])) _
    refine XS.ddivS X16.here hx rfl (hb hby d4_13) rfl nn2 rfl ?_
    exact k
  obtain ⟨fs, hr, hrun, hended, hW, hsame⟩ := X16.leave (v := some (.double (FP.ddiv x3 (FP.dadd x2 x3)))) (fun h => by rw [Bd.returns] at h; cases h)
  refine ⟨_, _, C17 _ ?_, hrun, hended, _, _, rfl, ?_, ⟨_, rfl⟩, hW, hsame.mono (by decide) (by decide)⟩
  · show Steps p.tables e below (T16.setTop (mkF m 14 #[.val (.ref a1)] [(.double (FP.ddiv x3 (FP.dadd x2 x3)))])) _
    exact retOut X16 hx Bd.returns rfl (Or.inr (Or.inr (Or.inl ⟨rfl, rfl, _, rfl⟩))) (hb hby d4_14) hr
  · show Q4 Z a1 x2 x3 h0 n0 _ T16.heap _
    rw [e16]
    exact ⟨rfl, N0, rfl⟩
def Q5 (Z : State) (a1 : Addr) (x2 x3 : UInt64) (h0 : Heap) (n0 : Nat) (v : Option Value) (h : Heap) (L : List Loc) : Prop := v = some (.double (FP.ddiv x2 (FP.dadd x2 x3))) ∧ Fr n0 L ∧ h = h0
theorem ef5 (m : MethodId) (x0 : Addr) : entryFrame m #[(.ref x0)] 1 = mkF m 0 #[.val (.ref x0)] [] := by first | (simp [entryFrame, mkF, argsToLocals, Value.category]; done) | rfl
theorem d5_0 : decode prog_2_method_4_code 0 = .ok (.aload_n 0, 1) := by decide +kernel
theorem d5_1 : decode prog_2_method_4_code 1 = .ok (.getfield 13, 3) := by decide +kernel
theorem d5_4 : decode prog_2_method_4_code 4 = .ok (.aload_n 0, 1) := by decide +kernel
theorem d5_5 : decode prog_2_method_4_code 5 = .ok (.getfield 13, 3) := by decide +kernel
theorem d5_8 : decode prog_2_method_4_code 8 = .ok (.aload_n 0, 1) := by decide +kernel
theorem d5_9 : decode prog_2_method_4_code 9 = .ok (.getfield 16, 3) := by decide +kernel
theorem d5_12 : decode prog_2_method_4_code 12 = .ok (.dadd, 1) := by decide +kernel
theorem d5_13 : decode prog_2_method_4_code 13 = .ok (.ddiv, 1) := by decide +kernel
theorem d5_14 : decode prog_2_method_4_code 14 = .ok (.dreturn, 1) := by decide +kernel
set_option maxRecDepth 65536 in
set_option maxHeartbeats 40000000 in
theorem rm5 (l : Launch) (Z : State) (a0 : Array Value) (hw : ∀ d ∈ tables_1, d.before a0 Z = true) (ws : List Jvm.Cond) (a1 : Addr) (x2 x3 : UInt64) (h0 : Heap) (n0 : Nat) (Z0 : n0 ≤ h0.size) (F2 : Fld Z h0 a1 "com/example/fundao/fundao/Analysis$Insertion" "resetBits" "D" (.double x2)) (F3 : Fld Z h0 a1 "com/example/fundao/fundao/Analysis$Insertion" "setBits" "D" (.double x3)) (nn1 : Jvm.Free.Fl.NoNaN64 (FP.dadd x2 x3)) (nn2 : Jvm.Free.Fl.NoNaN64 (FP.ddiv x2 (FP.dadd x2 x3))) :
    MetFree l (⟨"com/example/fundao/fundao/Analysis$Insertion", "reset", "()D"⟩ : MethodName) (head1 (Jvm.Cond.code (⟨"com/example/fundao/fundao/Analysis$Insertion", "reset", "()D"⟩ : MethodName) prog_2_method_4_code 1 (some .double) :: ws) ({ frames := 0, cells := 0, slots := 0, locals := 0 } : Room)) (fun a U => a = #[(.ref a1)] ∧ Z.Warmed39 U.vm ∧ U.heap = h0) (fun _ _ _ _ _ => True) (fun _ U o U' => ∃ v L, o = .returned v ∧ Q5 Z a1 x2 x3 h0 n0 v U'.heap L ∧ FrameEnd U o U' L ({ frames := 0, cells := 0, slots := 0, locals := 0 } : Room).cells ({ frames := 0, cells := 0, slots := 0, locals := 0 } : Room).slots) := by
  refine MetFree.of_bodySF (plainFor_of_name pn1) hisR ?_
  intro p e s m args below meth c s₁ Bd hml0 hP hK
  obtain ⟨rfl, hZ, hh⟩ := hP
  have hx := Bd.exec
  have hby := Bd.bytes
  have hml : c.maxLocals = 1 := hml0
  have hown : s.vm.findClass "com/example/fundao/fundao/Analysis$Insertion" = some m.cls := findClass_of_methodNamed Bd.named
  have hnm := (name_of_methodNamed Bd.named Bd.method).1
  have X0 : Stand p l e ({ frames := 0, cells := 0, slots := 0, locals := 0 } : Room) s m #[(.ref a1)] below meth c s₁ [] 0 0 := Stand.of_body Bd
  have e0 : s₁.heap = h0 := by rw [← hh, Bd.state]; rfl
  have N0 := Fr.nil n0
  have pre0 : ∀ t, Steps p.tables e below (s₁.setTop (mkF m 0 #[.val (.ref a1)] [])) t → Steps p.tables e below (s₁.setTop (entryFrame m #[(.ref a1)] 1)) t := fun t k => castTop (ef5 m a1) k
  have C18 : ∀ t, Steps p.tables e below (s₁.setTop (mkF m 1 #[.val (.ref a1)] [(.ref a1)])) t → Steps p.tables e below (s₁.setTop (entryFrame m #[(.ref a1)] 1)) t := by
    intro t k
    refine pre0 t ?_
    show Steps p.tables e below (s₁.setTop (mkF m 0 #[.val (.ref a1)] [])) _
    refine XS.aloadN X0.here hx rfl (hb hby d5_0) rfl rfl ?_
    exact k
  obtain ⟨T19, X19, e19, st19⟩ := getF X0 hx hZ hown (host := "") (Or.inl (hw _ (List.mem_of_getElem? (i := 17) rfl))) Via.refl e0 F2 (g := (mkF m 1 #[.val (.ref a1)] [(.ref a1)])) rfl rfl (hb hby d5_1)
  have C19 : ∀ t, Steps p.tables e below (T19.setTop (mkF m 4 #[.val (.ref a1)] [(.double x2)])) t → Steps p.tables e below (s₁.setTop (entryFrame m #[(.ref a1)] 1)) t := fun t k => C18 t (st19 t k)
  have C20 : ∀ t, Steps p.tables e below (T19.setTop (mkF m 5 #[.val (.ref a1)] [(.ref a1), (.double x2)])) t → Steps p.tables e below (s₁.setTop (entryFrame m #[(.ref a1)] 1)) t := by
    intro t k
    refine C19 t ?_
    show Steps p.tables e below (T19.setTop (mkF m 4 #[.val (.ref a1)] [(.double x2)])) _
    refine XS.aloadN X19.here hx rfl (hb hby d5_4) rfl rfl ?_
    exact k
  obtain ⟨T21, X21, e21, st21⟩ := getF X19 hx hZ hown (host := "") (Or.inl (hw _ (List.mem_of_getElem? (i := 17) rfl))) Via.refl e19 F2 (g := (mkF m 5 #[.val (.ref a1)] [(.ref a1), (.double x2)])) rfl rfl (hb hby d5_5)
  have C21 : ∀ t, Steps p.tables e below (T21.setTop (mkF m 8 #[.val (.ref a1)] [(.double x2), (.double x2)])) t → Steps p.tables e below (s₁.setTop (entryFrame m #[(.ref a1)] 1)) t := fun t k => C20 t (st21 t k)
  have C22 : ∀ t, Steps p.tables e below (T21.setTop (mkF m 9 #[.val (.ref a1)] [(.ref a1), (.double x2), (.double x2)])) t → Steps p.tables e below (s₁.setTop (entryFrame m #[(.ref a1)] 1)) t := by
    intro t k
    refine C21 t ?_
    show Steps p.tables e below (T21.setTop (mkF m 8 #[.val (.ref a1)] [(.double x2), (.double x2)])) _
    refine XS.aloadN X21.here hx rfl (hb hby d5_8) rfl rfl ?_
    exact k
  obtain ⟨T23, X23, e23, st23⟩ := getF X21 hx hZ hown (host := "") (Or.inl (hw _ (List.mem_of_getElem? (i := 19) rfl))) Via.refl e21 F3 (g := (mkF m 9 #[.val (.ref a1)] [(.ref a1), (.double x2), (.double x2)])) rfl rfl (hb hby d5_9)
  have C23 : ∀ t, Steps p.tables e below (T23.setTop (mkF m 12 #[.val (.ref a1)] [(.double x3), (.double x2), (.double x2)])) t → Steps p.tables e below (s₁.setTop (entryFrame m #[(.ref a1)] 1)) t := fun t k => C22 t (st23 t k)
  have C24 : ∀ t, Steps p.tables e below (T23.setTop (mkF m 14 #[.val (.ref a1)] [(.double (FP.ddiv x2 (FP.dadd x2 x3)))])) t → Steps p.tables e below (s₁.setTop (entryFrame m #[(.ref a1)] 1)) t := by
    intro t k
    refine C23 t ?_
    show Steps p.tables e below (T23.setTop (mkF m 12 #[.val (.ref a1)] [(.double x3), (.double x2), (.double x2)])) _
    refine XS.daddS X23.here hx rfl (hb hby d5_12) rfl nn1 rfl ?_
    show Steps p.tables e below (T23.setTop (mkF m 13 #[.val (.ref a1)] [(.double (FP.dadd x2 x3)), (.double x2)])) _
    refine XS.ddivS X23.here hx rfl (hb hby d5_13) rfl nn2 rfl ?_
    exact k
  obtain ⟨fs, hr, hrun, hended, hW, hsame⟩ := X23.leave (v := some (.double (FP.ddiv x2 (FP.dadd x2 x3)))) (fun h => by rw [Bd.returns] at h; cases h)
  refine ⟨_, _, C24 _ ?_, hrun, hended, _, _, rfl, ?_, ⟨_, rfl⟩, hW, hsame.mono (by decide) (by decide)⟩
  · show Steps p.tables e below (T23.setTop (mkF m 14 #[.val (.ref a1)] [(.double (FP.ddiv x2 (FP.dadd x2 x3)))])) _
    exact retOut X23 hx Bd.returns rfl (Or.inr (Or.inr (Or.inl ⟨rfl, rfl, _, rfl⟩))) (hb hby d5_14) hr
  · show Q5 Z a1 x2 x3 h0 n0 _ T23.heap _
    rw [e23]
    exact ⟨rfl, N0, rfl⟩
theorem pd1 : parseMethodDescriptor "(DDD)V" = some ⟨[.double, .double, .double], none⟩ := by decide +kernel
theorem pd2 : parseMethodDescriptor "()D" = some ⟨[], some .double⟩ := by decide +kernel
def Q0 (Z : State) (p1 p2 : Int64) (p3 p4 : Int32) (h0 : Heap) (n0 : Nat) (v : Option Value) (h : Heap) (L : List Loc) : Prop := v = some (.int 1) ∧ Fr n0 L
theorem own_m40 (x : Int64) : 0 ≤ ((x &&& (1099511627775 : Int64))).toInt ∧ ((x &&& (1099511627775 : Int64))).toInt ≤ 1099511627775 := by
  have h := c_maskL x 1099511627775 40 (by decide) (by decide)
  rw [h, show ((2 ^ 40 : Nat) : Int) = 1099511627776 from rfl]
  omega
theorem own_nz64 {x : Int64} (h : ¬ x = 0) : x.toInt ≠ 0 := fun q => h (Int64.toInt_inj.mp q)
theorem own_lne_t {x : Int64} (h : ¬ x = 0) : ifCond.holds .ne (lcmpW x (0 : Int64)) = true := by
  have h1 := c_lcmp x 0
  have h2 := own_nz64 h
  have z0 : (0 : Int64).toInt = 0 := rfl
  refine XT.i0_ne_t fun q => ?_
  rw [q, z0, show (0 : Int32).toInt = 0 from rfl] at h1
  rcases Int.lt_trichotomy x.toInt 0 with g | g | g
  · have := h1.1 g; omega
  · exact h2 g
  · have := h1.2.2 g; omega
theorem own_lne_f {x : Int64} (h : x = 0) : ifCond.holds .ne (lcmpW x (0 : Int64)) = false := by
  subst h
  decide
theorem own_shl (x : Int32) : ∃ k : Nat, k ≤ 31 ∧ (((1 : Int64) <<< ((x &&& (31 : Int32)) &&& 0x3f).toInt64)).toInt = ((2 ^ k : Nat) : Int) := by
  have hm := c_mask x 31 5 (by decide) (by decide)
  rw [show ((2 ^ 5 : Nat) : Int) = 32 from rfl] at hm
  obtain ⟨q, hq⟩ : ∃ q : Int32, q = x &&& (31 : Int32) := ⟨_, rfl⟩
  rw [← hq] at hm ⊢
  have hn : (q.toBitVec.toNat : Int) = q.toInt := by
    have h1 : q.toInt = q.toBitVec.toInt := rfl
    have h2 := q.toBitVec.isLt
    rw [h1, BitVec.toInt_eq_toNat_cond] at hm ⊢
    split <;> rename_i g
    · rfl
    · rw [if_neg g] at hm
      omega
  refine ⟨q.toBitVec.toNat, by omega, ?_⟩
  have hs := c_lshl 1 q (q.toBitVec.toNat) (by omega)
  have hp : 2 ^ q.toBitVec.toNat ≤ 2 ^ 31 := Nat.pow_le_pow_right (by decide) (by omega)
  have t1 := (1 <<< (q &&& 0x3f).toInt64 : Int64).toInt_lt
  have t2 := (1 <<< (q &&& 0x3f).toInt64 : Int64).le_toInt
  rw [show (1 : Int64).toInt = 1 from rfl] at hs
  have hp0 := Nat.two_pow_pos q.toBitVec.toNat
  generalize 2 ^ q.toBitVec.toNat = P at hs hp hp0 ⊢
  omega
theorem own_add64 {x y : Int64} (h1 : 0 ≤ x.toInt ∧ x.toInt ≤ 1099511627775) (h2 : 0 ≤ y.toInt ∧ y.toInt ≤ 1099511627775) : (x + y).toInt = x.toInt + y.toInt := by
  have h := c_ladd x y
  have t1 := (x + y).toInt_lt
  have t2 := (x + y).le_toInt
  omega
theorem own_pw {k : Nat} (hk : k ≤ 31) : 2 ^ k * 2 ^ (1074 - k) = Jvm.FP.Core.one64 := by
  rw [← Nat.pow_add, show k + (1074 - k) = 1074 by omega]
  rfl
theorem own_scaled {sh b0 b1 : Int64} {k : Nat} (hk : k ≤ 31) (hsh : sh.toInt = ((2 ^ k : Nat) : Int)) (r0 : 0 ≤ b0.toInt ∧ b0.toInt ≤ 1099511627775) (r1 : 0 ≤ b1.toInt ∧ b1.toInt ≤ 1099511627775) :
    OwnZ (FP.ddiv 4607182418800017408 (FP.l2d sh)) (2 ^ (1074 - k)) ∧ OwnZ (FP.dmul (FP.l2d b0) (FP.ddiv 4607182418800017408 (FP.l2d sh))) (b0.toInt.toNat * 2 ^ (1074 - k)) ∧ OwnZ (FP.dmul (FP.l2d b1) (FP.ddiv 4607182418800017408 (FP.l2d sh))) (b1.toInt.toNat * 2 ^ (1074 - k)) := by
  have hp : 2 ^ k ≤ 2 ^ 31 := Nat.pow_le_pow_right (by decide) hk
  have hp0 := Nat.two_pow_pos k
  have hs := own_l2d (v := sh) (by omega) (by omega)
  rw [hsh, Int.toNat_natCast] at hs
  have zs : OwnZ (FP.ddiv 4607182418800017408 (FP.l2d sh)) (2 ^ (1074 - k)) := by
    refine OwnZ.div own_one hs ?_ (by have := OwnRep.of (n := 1) (k := 1074 - k) (by decide) (by omega); rw [Nat.one_mul] at this; exact this) ?_
    · exact Nat.ne_of_gt (Nat.mul_pos hp0 Jvm.FP.Core.one64_pos)
    · rw [← Nat.mul_assoc, Nat.mul_comm (2 ^ (1074 - k)), own_pw hk]
  have hm : ∀ {b : Int64}, 0 ≤ b.toInt ∧ b.toInt ≤ 1099511627775 → OwnZ (FP.dmul (FP.l2d b) (FP.ddiv 4607182418800017408 (FP.l2d sh))) (b.toInt.toNat * 2 ^ (1074 - k)) := by
    intro b r
    refine OwnZ.mul (own_l2d (v := b) r.1 (by omega)) zs (OwnRep.of (by omega) (by omega)) ?_
    rw [Nat.mul_assoc, Nat.mul_assoc, Nat.mul_comm Jvm.FP.Core.one64]
  exact ⟨zs, hm r0, hm r1⟩
theorem own_scaled_sum {x0 x1 : UInt64} {b0 b1 : Int64} {k : Nat} (hk : k ≤ 31) (r0 : 0 ≤ b0.toInt ∧ b0.toInt ≤ 1099511627775) (r1 : 0 ≤ b1.toInt ∧ b1.toInt ≤ 1099511627775) (z0 : OwnZ x0 (b0.toInt.toNat * 2 ^ (1074 - k))) (z1 : OwnZ x1 (b1.toInt.toNat * 2 ^ (1074 - k))) :
    OwnZ (FP.dadd x0 x1) ((b0.toInt.toNat + b1.toInt.toNat) * 2 ^ (1074 - k)) := by
  have := OwnZ.add z0 z1 (by rw [← Nat.add_mul]; exact OwnRep.of (by omega) (by omega))
  rw [← Nat.add_mul] at this
  exact this
theorem own_sum_ne {b0 b1 : Int64} {k : Nat} (hk : k ≤ 31) (r0 : 0 ≤ b0.toInt ∧ b0.toInt ≤ 1099511627775) (r1 : 0 ≤ b1.toInt ∧ b1.toInt ≤ 1099511627775) (r01 : 0 < b0.toInt + b1.toInt) : (b0.toInt.toNat + b1.toInt.toNat) * 2 ^ (1074 - k) ≠ 0 :=
  Nat.ne_of_gt (Nat.mul_pos (by omega) (Nat.two_pow_pos _))
theorem own_ratio {x0 x1 : UInt64} {b0 b1 : Int64} {k : Nat} (hk : k ≤ 31) (r0 : 0 ≤ b0.toInt ∧ b0.toInt ≤ 1099511627775) (r1 : 0 ≤ b1.toInt ∧ b1.toInt ≤ 1099511627775) (r01 : 0 < b0.toInt + b1.toInt) (hs : (b0 + b1).toInt = b0.toInt + b1.toInt)
    (z1 : OwnZ x1 (b1.toInt.toNat * 2 ^ (1074 - k))) (zsum : OwnZ (FP.dadd x0 x1) ((b0.toInt.toNat + b1.toInt.toNat) * 2 ^ (1074 - k)))
    (y1 : OwnZ (FP.l2d b1) (b1.toInt.toNat * Jvm.FP.Core.one64)) (y2 : OwnZ (FP.l2d (b0 + b1)) ((b0 + b1).toInt.toNat * Jvm.FP.Core.one64)) :
    FP.ddiv x1 (FP.dadd x0 x1) = FP.ddiv (FP.l2d b1) (FP.l2d (b0 + b1)) := by
  have e : (b0 + b1).toInt.toNat = b0.toInt.toNat + b1.toInt.toNat := by omega
  rw [e] at y2
  refine OwnZ.div_eq z1 zsum y1 y2 (own_sum_ne hk r0 r1 r01) (Nat.ne_of_gt (Nat.mul_pos (by omega) Jvm.FP.Core.one64_pos)) ?_
  rw [Nat.mul_mul_mul_comm, Nat.mul_mul_mul_comm b1.toInt.toNat Jvm.FP.Core.one64, Nat.mul_comm (2 ^ (1074 - k))]
theorem own_cge {s : UInt64} {z : Nat} (h : OwnZ s z) : ifCond.holds .lt (cmpValue (FP.dcmp s 0) .l) = false := by
  rw [h.cmp own_zero]
  rcases Nat.eq_zero_or_pos z with g | g
  · subst g; rfl
  · rw [(Jvm.FP.Core.compare_gt_iff _ _).mpr (by omega)]; rfl
theorem own_cle {s : UInt64} {z : Nat} (h : OwnZ s z) (hz : z ≤ Jvm.FP.Core.one64) : ifCond.holds .gt (cmpValue (FP.dcmp s 4607182418800017408) .g) = false := by
  rw [h.cmp own_one]
  rcases Nat.lt_or_eq_of_le hz with g | g
  · rw [(Jvm.FP.Core.compare_lt_iff _ _).mpr (by omega)]; rfl
  · rw [(Jvm.FP.Core.compare_eq_iff _ _).mpr (by omega)]; rfl
theorem own_eq0 {s : UInt64} {z : Nat} (h : OwnZ s z) (hz : z = 0) : cmpValue (FP.dcmp s 0) .l = 0 := by
  rw [h.cmp own_zero, (Jvm.FP.Core.compare_eq_iff _ _).mpr (by omega)]; rfl
theorem own_eq1 {s : UInt64} {z : Nat} (h : OwnZ s z) (hz : z = Jvm.FP.Core.one64) : cmpValue (FP.dcmp s 4607182418800017408) .l = 0 := by
  rw [h.cmp own_one, (Jvm.FP.Core.compare_eq_iff _ _).mpr (by omega)]; rfl
theorem own_z0 {b : Int64} {P : Nat} (h : b = 0) : b.toInt.toNat * P = 0 := by
  subst h
  rw [show (0 : Int64).toInt = 0 from rfl, Int.toNat_zero, Nat.zero_mul]
theorem own_z1 {b0 b1 : Int64} {P : Nat} (h : b0 = 0) : b1.toInt.toNat * P = (b0.toInt.toNat + b1.toInt.toNat) * P := by
  subst h
  rw [show (0 : Int64).toInt = 0 from rfl, Int.toNat_zero, Nat.zero_add]
theorem pn2 : plainName "com/example/fundao/fundao/InsertionSetPinLaw" = true := by first | (simp [plainName, overriddenIn]; done) | decide +kernel
theorem ef0 (m : MethodId) (x0 : Int64) (x1 : Int64) (x2 : Int32) (x3 : Int32) : entryFrame m #[(.long x0), (.long x1), (.int x2), (.int x3)] maxLocals = mkF m 0 #[.val (.long x0), .second, .val (.long x1), .second, .val (.int x2), .val (.int x3), .unset, .unset, .unset, .unset, .unset, .unset, .unset, .unset, .unset, .unset, .unset, .unset, .unset, .unset, .unset, .unset, .unset, .unset, .unset, .unset, .unset, .unset] [] := by first | (simp [entryFrame, mkF, argsToLocals, Value.category, maxLocals]; done) | rfl
set_option maxRecDepth 65536 in
set_option maxHeartbeats 40000000 in
theorem rm0 (l : Launch) (Z : State) (a0 : Array Value) (hw : ∀ d ∈ tables_1, d.before a0 Z = true) (ws : List Jvm.Cond) (p1 p2 : Int64) (p3 p4 : Int32) (h0 : Heap) (n0 : Nat) (Z0 : n0 ≤ h0.size)  :
    MetFree l x (head1 (Jvm.Cond.code x code maxLocals ret :: ws) room_1) (fun a U => a = #[(.long p1), (.long p2), (.int p3), (.int p4)] ∧ Z.Warmed39 U.vm ∧ U.heap = h0) (fun _ _ _ _ _ => True) (fun _ U o U' => ∃ v L, o = .returned v ∧ Q0 Z p1 p2 p3 p4 h0 n0 v U'.heap L ∧ FrameEnd U o U' L room_1.cells room_1.slots) := by
  refine MetFree.of_bodySF (plainFor_of_name pn2) hisR ?_
  intro p e s m args below meth c s₁ Bd hml0 hP hK
  obtain ⟨rfl, hZ, hh⟩ := hP
  have hx := Bd.exec
  have hby := Bd.bytes
  have hml : c.maxLocals = 28 := hml0
  have hown : s.vm.findClass "com/example/fundao/fundao/InsertionSetPinLaw" = some m.cls := findClass_of_methodNamed Bd.named
  have hnm := (name_of_methodNamed Bd.named Bd.method).1
  have X0 : Stand p l e room_1 s m #[(.long p1), (.long p2), (.int p3), (.int p4)] below meth c s₁ [] 0 0 := Stand.of_body Bd
  have e0 : s₁.heap = h0 := by rw [← hh, Bd.state]; rfl
  have N0 := Fr.nil n0
  have pre0 : ∀ t, Steps p.tables e below (s₁.setTop (mkF m 0 #[.val (.long p1), .second, .val (.long p2), .second, .val (.int p3), .val (.int p4), .unset, .unset, .unset, .unset, .unset, .unset, .unset, .unset, .unset, .unset, .unset, .unset, .unset, .unset, .unset, .unset, .unset, .unset, .unset, .unset, .unset, .unset] [])) t → Steps p.tables e below (s₁.setTop (entryFrame m #[(.long p1), (.long p2), (.int p3), (.int p4)] maxLocals)) t := fun t k => castTop (ef0 m p1 p2 p3 p4) k
  have C25 : ∀ t, Steps p.tables e below (s₁.setTop (mkF m 14 #[.val (.long p1), .second, .val (.long p2), .second, .val (.int p3), .val (.int p4), .val (.long (p1 &&& (1099511627775 : Int64))), .second, .val (.long (p2 &&& (1099511627775 : Int64))), .second, .unset, .unset, .unset, .unset, .unset, .unset, .unset, .unset, .unset, .unset, .unset, .unset, .unset, .unset, .unset, .unset, .unset, .unset] [])) t → Steps p.tables e below (s₁.setTop (entryFrame m #[(.long p1), (.long p2), (.int p3), (.int p4)] maxLocals)) t := by
    intro t k
    refine pre0 t ?_
    show Steps p.tables e below (s₁.setTop (mkF m 0 #[.val (.long p1), .second, .val (.long p2), .second, .val (.int p3), .val (.int p4), .unset, .unset, .unset, .unset, .unset, .unset, .unset, .unset, .unset, .unset, .unset, .unset, .unset, .unset, .unset, .unset, .unset, .unset, .unset, .unset, .unset, .unset] [])) _
    refine XS.lloadN X0.here hx rfl (hb hby at_0) rfl ?_
    show Steps p.tables e below (s₁.setTop (mkF m 1 #[.val (.long p1), .second, .val (.long p2), .second, .val (.int p3), .val (.int p4), .unset, .unset, .unset, .unset, .unset, .unset, .unset, .unset, .unset, .unset, .unset, .unset, .unset, .unset, .unset, .unset, .unset, .unset, .unset, .unset, .unset, .unset] [(.long p1)])) _
    refine X0.ldc2Long hx hown (mvT hZ (hw _ (List.mem_of_getElem? (i := 0) rfl))) (g := (mkF m 1 #[.val (.long p1), .second, .val (.long p2), .second, .val (.int p3), .val (.int p4), .unset, .unset, .unset, .unset, .unset, .unset, .unset, .unset, .unset, .unset, .unset, .unset, .unset, .unset, .unset, .unset, .unset, .unset, .unset, .unset, .unset, .unset] [(.long p1)])) rfl (hb hby at_1) _ ?_
    show Steps p.tables e below (s₁.setTop (mkF m 4 #[.val (.long p1), .second, .val (.long p2), .second, .val (.int p3), .val (.int p4), .unset, .unset, .unset, .unset, .unset, .unset, .unset, .unset, .unset, .unset, .unset, .unset, .unset, .unset, .unset, .unset, .unset, .unset, .unset, .unset, .unset, .unset] [(.long (1099511627775 : Int64)), (.long p1)])) _
    refine XS.land X0.here hx rfl (hb hby at_4) rfl ?_
    show Steps p.tables e below (s₁.setTop (mkF m 5 #[.val (.long p1), .second, .val (.long p2), .second, .val (.int p3), .val (.int p4), .unset, .unset, .unset, .unset, .unset, .unset, .unset, .unset, .unset, .unset, .unset, .unset, .unset, .unset, .unset, .unset, .unset, .unset, .unset, .unset, .unset, .unset] [(.long (p1 &&& (1099511627775 : Int64)))])) _
    refine XS.lstore X0.here hx rfl (hb hby at_5) rfl (l' := #[.val (.long p1), .second, .val (.long p2), .second, .val (.int p3), .val (.int p4), .val (.long (p1 &&& (1099511627775 : Int64))), .second, .unset, .unset, .unset, .unset, .unset, .unset, .unset, .unset, .unset, .unset, .unset, .unset, .unset, .unset, .unset, .unset, .unset, .unset, .unset, .unset]) rfl ?_
    show Steps p.tables e below (s₁.setTop (mkF m 7 #[.val (.long p1), .second, .val (.long p2), .second, .val (.int p3), .val (.int p4), .val (.long (p1 &&& (1099511627775 : Int64))), .second, .unset, .unset, .unset, .unset, .unset, .unset, .unset, .unset, .unset, .unset, .unset, .unset, .unset, .unset, .unset, .unset, .unset, .unset, .unset, .unset] [])) _
    refine XS.lloadN X0.here hx rfl (hb hby at_7) rfl ?_
    show Steps p.tables e below (s₁.setTop (mkF m 8 #[.val (.long p1), .second, .val (.long p2), .second, .val (.int p3), .val (.int p4), .val (.long (p1 &&& (1099511627775 : Int64))), .second, .unset, .unset, .unset, .unset, .unset, .unset, .unset, .unset, .unset, .unset, .unset, .unset, .unset, .unset, .unset, .unset, .unset, .unset, .unset, .unset] [(.long p2)])) _
    refine X0.ldc2Long hx hown (mvT hZ (hw _ (List.mem_of_getElem? (i := 0) rfl))) (g := (mkF m 8 #[.val (.long p1), .second, .val (.long p2), .second, .val (.int p3), .val (.int p4), .val (.long (p1 &&& (1099511627775 : Int64))), .second, .unset, .unset, .unset, .unset, .unset, .unset, .unset, .unset, .unset, .unset, .unset, .unset, .unset, .unset, .unset, .unset, .unset, .unset, .unset, .unset] [(.long p2)])) rfl (hb hby at_8) _ ?_
    show Steps p.tables e below (s₁.setTop (mkF m 11 #[.val (.long p1), .second, .val (.long p2), .second, .val (.int p3), .val (.int p4), .val (.long (p1 &&& (1099511627775 : Int64))), .second, .unset, .unset, .unset, .unset, .unset, .unset, .unset, .unset, .unset, .unset, .unset, .unset, .unset, .unset, .unset, .unset, .unset, .unset, .unset, .unset] [(.long (1099511627775 : Int64)), (.long p2)])) _
    refine XS.land X0.here hx rfl (hb hby at_11) rfl ?_
    show Steps p.tables e below (s₁.setTop (mkF m 12 #[.val (.long p1), .second, .val (.long p2), .second, .val (.int p3), .val (.int p4), .val (.long (p1 &&& (1099511627775 : Int64))), .second, .unset, .unset, .unset, .unset, .unset, .unset, .unset, .unset, .unset, .unset, .unset, .unset, .unset, .unset, .unset, .unset, .unset, .unset, .unset, .unset] [(.long (p2 &&& (1099511627775 : Int64)))])) _
    refine XS.lstore X0.here hx rfl (hb hby at_12) rfl (l' := #[.val (.long p1), .second, .val (.long p2), .second, .val (.int p3), .val (.int p4), .val (.long (p1 &&& (1099511627775 : Int64))), .second, .val (.long (p2 &&& (1099511627775 : Int64))), .second, .unset, .unset, .unset, .unset, .unset, .unset, .unset, .unset, .unset, .unset, .unset, .unset, .unset, .unset, .unset, .unset, .unset, .unset]) rfl ?_
    exact k
  obtain ⟨b0, h_b0⟩ : ∃ z : Int64, z = (p1 &&& (1099511627775 : Int64)) := ⟨_, rfl⟩
  rw [← h_b0] at C25
  obtain ⟨bq, h_bq⟩ : ∃ z : Int64, z = (p2 &&& (1099511627775 : Int64)) := ⟨_, rfl⟩
  rw [← h_bq] at C25
  have r0 := own_m40 p1
  rw [← h_b0] at r0
  have rq := own_m40 p2
  rw [← h_bq] at rq
  have C26 : ∀ t, Steps p.tables e below (s₁.setTop (mkF m 18 #[.val (.long p1), .second, .val (.long p2), .second, .val (.int p3), .val (.int p4), .val (.long b0), .second, .val (.long bq), .second, .unset, .unset, .unset, .unset, .unset, .unset, .unset, .unset, .unset, .unset, .unset, .unset, .unset, .unset, .unset, .unset, .unset, .unset] [(.int (lcmpW b0 (0 : Int64)))])) t → Steps p.tables e below (s₁.setTop (entryFrame m #[(.long p1), (.long p2), (.int p3), (.int p4)] maxLocals)) t := by
    intro t k
    refine C25 t ?_
    show Steps p.tables e below (s₁.setTop (mkF m 14 #[.val (.long p1), .second, .val (.long p2), .second, .val (.int p3), .val (.int p4), .val (.long b0), .second, .val (.long bq), .second, .unset, .unset, .unset, .unset, .unset, .unset, .unset, .unset, .unset, .unset, .unset, .unset, .unset, .unset, .unset, .unset, .unset, .unset] [])) _
    refine XS.lload X0.here hx rfl (hb hby at_14) rfl ?_
    show Steps p.tables e below (s₁.setTop (mkF m 16 #[.val (.long p1), .second, .val (.long p2), .second, .val (.int p3), .val (.int p4), .val (.long b0), .second, .val (.long bq), .second, .unset, .unset, .unset, .unset, .unset, .unset, .unset, .unset, .unset, .unset, .unset, .unset, .unset, .unset, .unset, .unset, .unset, .unset] [(.long b0)])) _
    refine XS.lconst X0.here hx rfl (hb hby at_16) ?_
    show Steps p.tables e below (s₁.setTop (mkF m 17 #[.val (.long p1), .second, .val (.long p2), .second, .val (.int p3), .val (.int p4), .val (.long b0), .second, .val (.long bq), .second, .unset, .unset, .unset, .unset, .unset, .unset, .unset, .unset, .unset, .unset, .unset, .unset, .unset, .unset, .unset, .unset, .unset, .unset] [(.long (0 : Int64)), (.long b0)])) _
    refine XS.lcmp X0.here hx rfl (hb hby at_17) rfl ?_
    exact k
  obtain ⟨b1, r1, r01, C31⟩ : ∃ b1 : Int64, (0 ≤ b1.toInt ∧ b1.toInt ≤ 1099511627775) ∧ 0 < b0.toInt + b1.toInt ∧ ∀ t, Steps p.tables e below (s₁.setTop (mkF m 31 #[.val (.long p1), .second, .val (.long p2), .second, .val (.int p3), .val (.int p4), .val (.long b0), .second, .val (.long b1), .second, .unset, .unset, .unset, .unset, .unset, .unset, .unset, .unset, .unset, .unset, .unset, .unset, .unset, .unset, .unset, .unset, .unset, .unset] [])) t → Steps p.tables e below (s₁.setTop (entryFrame m #[(.long p1), (.long p2), (.int p3), (.int p4)] maxLocals)) t := by
    by_cases hm : b0 = 0
    · by_cases hm1 : bq = 0
      · refine ⟨1, by decide, by have : (1 : Int64).toInt = 1 := rfl; omega, ?_⟩
        intro t k
        refine C26 t ?_
        show Steps p.tables e below (s₁.setTop (mkF m 18 #[.val (.long p1), .second, .val (.long p2), .second, .val (.int p3), .val (.int p4), .val (.long b0), .second, .val (.long bq), .second, .unset, .unset, .unset, .unset, .unset, .unset, .unset, .unset, .unset, .unset, .unset, .unset, .unset, .unset, .unset, .unset, .unset, .unset] [(.int (lcmpW b0 (0 : Int64)))])) _
        refine XS.ifNo X0.here hx rfl (hb hby at_18) rfl (own_lne_f hm) ?_
        show Steps p.tables e below (s₁.setTop (mkF m 21 #[.val (.long p1), .second, .val (.long p2), .second, .val (.int p3), .val (.int p4), .val (.long b0), .second, .val (.long bq), .second, .unset, .unset, .unset, .unset, .unset, .unset, .unset, .unset, .unset, .unset, .unset, .unset, .unset, .unset, .unset, .unset, .unset, .unset] [])) _
        refine XS.lload X0.here hx rfl (hb hby at_21) rfl ?_
        show Steps p.tables e below (s₁.setTop (mkF m 23 #[.val (.long p1), .second, .val (.long p2), .second, .val (.int p3), .val (.int p4), .val (.long b0), .second, .val (.long bq), .second, .unset, .unset, .unset, .unset, .unset, .unset, .unset, .unset, .unset, .unset, .unset, .unset, .unset, .unset, .unset, .unset, .unset, .unset] [(.long bq)])) _
        refine XS.lconst X0.here hx rfl (hb hby at_23) ?_
        show Steps p.tables e below (s₁.setTop (mkF m 24 #[.val (.long p1), .second, .val (.long p2), .second, .val (.int p3), .val (.int p4), .val (.long b0), .second, .val (.long bq), .second, .unset, .unset, .unset, .unset, .unset, .unset, .unset, .unset, .unset, .unset, .unset, .unset, .unset, .unset, .unset, .unset, .unset, .unset] [(.long (0 : Int64)), (.long bq)])) _
        refine XS.lcmp X0.here hx rfl (hb hby at_24) rfl ?_
        show Steps p.tables e below (s₁.setTop (mkF m 25 #[.val (.long p1), .second, .val (.long p2), .second, .val (.int p3), .val (.int p4), .val (.long b0), .second, .val (.long bq), .second, .unset, .unset, .unset, .unset, .unset, .unset, .unset, .unset, .unset, .unset, .unset, .unset, .unset, .unset, .unset, .unset, .unset, .unset] [(.int (lcmpW bq (0 : Int64)))])) _
        refine XS.ifNo X0.here hx rfl (hb hby at_25) rfl (own_lne_f hm1) ?_
        show Steps p.tables e below (s₁.setTop (mkF m 28 #[.val (.long p1), .second, .val (.long p2), .second, .val (.int p3), .val (.int p4), .val (.long b0), .second, .val (.long bq), .second, .unset, .unset, .unset, .unset, .unset, .unset, .unset, .unset, .unset, .unset, .unset, .unset, .unset, .unset, .unset, .unset, .unset, .unset] [])) _
        refine XS.lconst X0.here hx rfl (hb hby at_28) ?_
        show Steps p.tables e below (s₁.setTop (mkF m 29 #[.val (.long p1), .second, .val (.long p2), .second, .val (.int p3), .val (.int p4), .val (.long b0), .second, .val (.long bq), .second, .unset, .unset, .unset, .unset, .unset, .unset, .unset, .unset, .unset, .unset, .unset, .unset, .unset, .unset, .unset, .unset, .unset, .unset] [(.long (1 : Int64))])) _
        refine XS.lstore X0.here hx rfl (hb hby at_29) rfl (l' := #[.val (.long p1), .second, .val (.long p2), .second, .val (.int p3), .val (.int p4), .val (.long b0), .second, .val (.long (1 : Int64)), .second, .unset, .unset, .unset, .unset, .unset, .unset, .unset, .unset, .unset, .unset, .unset, .unset, .unset, .unset, .unset, .unset, .unset, .unset]) rfl ?_
        exact k
      · refine ⟨bq, rq, by have := own_nz64 hm1; omega, ?_⟩
        intro t k
        refine C26 t ?_
        show Steps p.tables e below (s₁.setTop (mkF m 18 #[.val (.long p1), .second, .val (.long p2), .second, .val (.int p3), .val (.int p4), .val (.long b0), .second, .val (.long bq), .second, .unset, .unset, .unset, .unset, .unset, .unset, .unset, .unset, .unset, .unset, .unset, .unset, .unset, .unset, .unset, .unset, .unset, .unset] [(.int (lcmpW b0 (0 : Int64)))])) _
        refine XS.ifNo X0.here hx rfl (hb hby at_18) rfl (own_lne_f hm) ?_
        show Steps p.tables e below (s₁.setTop (mkF m 21 #[.val (.long p1), .second, .val (.long p2), .second, .val (.int p3), .val (.int p4), .val (.long b0), .second, .val (.long bq), .second, .unset, .unset, .unset, .unset, .unset, .unset, .unset, .unset, .unset, .unset, .unset, .unset, .unset, .unset, .unset, .unset, .unset, .unset] [])) _
        refine XS.lload X0.here hx rfl (hb hby at_21) rfl ?_
        show Steps p.tables e below (s₁.setTop (mkF m 23 #[.val (.long p1), .second, .val (.long p2), .second, .val (.int p3), .val (.int p4), .val (.long b0), .second, .val (.long bq), .second, .unset, .unset, .unset, .unset, .unset, .unset, .unset, .unset, .unset, .unset, .unset, .unset, .unset, .unset, .unset, .unset, .unset, .unset] [(.long bq)])) _
        refine XS.lconst X0.here hx rfl (hb hby at_23) ?_
        show Steps p.tables e below (s₁.setTop (mkF m 24 #[.val (.long p1), .second, .val (.long p2), .second, .val (.int p3), .val (.int p4), .val (.long b0), .second, .val (.long bq), .second, .unset, .unset, .unset, .unset, .unset, .unset, .unset, .unset, .unset, .unset, .unset, .unset, .unset, .unset, .unset, .unset, .unset, .unset] [(.long (0 : Int64)), (.long bq)])) _
        refine XS.lcmp X0.here hx rfl (hb hby at_24) rfl ?_
        show Steps p.tables e below (s₁.setTop (mkF m 25 #[.val (.long p1), .second, .val (.long p2), .second, .val (.int p3), .val (.int p4), .val (.long b0), .second, .val (.long bq), .second, .unset, .unset, .unset, .unset, .unset, .unset, .unset, .unset, .unset, .unset, .unset, .unset, .unset, .unset, .unset, .unset, .unset, .unset] [(.int (lcmpW bq (0 : Int64)))])) _
        refine XS.ifYes X0.here hx rfl (pc0 := 25) (pc' := 31) rfl (hb hby at_25) rfl (own_lne_t hm1) (by decide) (by decide) ?_
        exact k
    · refine ⟨bq, rq, by have := own_nz64 hm; omega, ?_⟩
      intro t k
      refine C26 t ?_
      show Steps p.tables e below (s₁.setTop (mkF m 18 #[.val (.long p1), .second, .val (.long p2), .second, .val (.int p3), .val (.int p4), .val (.long b0), .second, .val (.long bq), .second, .unset, .unset, .unset, .unset, .unset, .unset, .unset, .unset, .unset, .unset, .unset, .unset, .unset, .unset, .unset, .unset, .unset, .unset] [(.int (lcmpW b0 (0 : Int64)))])) _
      refine XS.ifYes X0.here hx rfl (pc0 := 18) (pc' := 31) rfl (hb hby at_18) rfl (own_lne_t hm) (by decide) (by decide) ?_
      exact k
  have C27 : ∀ t, Steps p.tables e below (s₁.setTop (mkF m 39 #[.val (.long p1), .second, .val (.long p2), .second, .val (.int p3), .val (.int p4), .val (.long b0), .second, .val (.long b1), .second, .unset, .unset, .unset, .unset, .unset, .unset, .unset, .unset, .unset, .unset, .unset, .unset, .unset, .unset, .unset, .unset, .unset, .unset] [(.long ((1 : Int64) <<< ((p3 &&& (31 : Int32)) &&& 0x3f).toInt64)), (.double 4607182418800017408)])) t → Steps p.tables e below (s₁.setTop (entryFrame m #[(.long p1), (.long p2), (.int p3), (.int p4)] maxLocals)) t := by
    intro t k
    refine C31 t ?_
    show Steps p.tables e below (s₁.setTop (mkF m 31 #[.val (.long p1), .second, .val (.long p2), .second, .val (.int p3), .val (.int p4), .val (.long b0), .second, .val (.long b1), .second, .unset, .unset, .unset, .unset, .unset, .unset, .unset, .unset, .unset, .unset, .unset, .unset, .unset, .unset, .unset, .unset, .unset, .unset] [])) _
    refine XS.dconst1 X0.here hx rfl (hb hby at_31) (v := 4607182418800017408) rfl ?_
    show Steps p.tables e below (s₁.setTop (mkF m 32 #[.val (.long p1), .second, .val (.long p2), .second, .val (.int p3), .val (.int p4), .val (.long b0), .second, .val (.long b1), .second, .unset, .unset, .unset, .unset, .unset, .unset, .unset, .unset, .unset, .unset, .unset, .unset, .unset, .unset, .unset, .unset, .unset, .unset] [(.double 4607182418800017408)])) _
    refine XS.lconst X0.here hx rfl (hb hby at_32) ?_
    show Steps p.tables e below (s₁.setTop (mkF m 33 #[.val (.long p1), .second, .val (.long p2), .second, .val (.int p3), .val (.int p4), .val (.long b0), .second, .val (.long b1), .second, .unset, .unset, .unset, .unset, .unset, .unset, .unset, .unset, .unset, .unset, .unset, .unset, .unset, .unset, .unset, .unset, .unset, .unset] [(.long (1 : Int64)), (.double 4607182418800017408)])) _
    refine XS.iload X0.here hx rfl (hb hby at_33) rfl ?_
    show Steps p.tables e below (s₁.setTop (mkF m 35 #[.val (.long p1), .second, .val (.long p2), .second, .val (.int p3), .val (.int p4), .val (.long b0), .second, .val (.long b1), .second, .unset, .unset, .unset, .unset, .unset, .unset, .unset, .unset, .unset, .unset, .unset, .unset, .unset, .unset, .unset, .unset, .unset, .unset] [(.int p3), (.long (1 : Int64)), (.double 4607182418800017408)])) _
    refine XS.bipush X0.here hx rfl (hb hby at_35) ?_
    show Steps p.tables e below (s₁.setTop (mkF m 37 #[.val (.long p1), .second, .val (.long p2), .second, .val (.int p3), .val (.int p4), .val (.long b0), .second, .val (.long b1), .second, .unset, .unset, .unset, .unset, .unset, .unset, .unset, .unset, .unset, .unset, .unset, .unset, .unset, .unset, .unset, .unset, .unset, .unset] [(.int (31 : Int32)), (.int p3), (.long (1 : Int64)), (.double 4607182418800017408)])) _
    refine XS.iand X0.here hx rfl (hb hby at_37) rfl ?_
    show Steps p.tables e below (s₁.setTop (mkF m 38 #[.val (.long p1), .second, .val (.long p2), .second, .val (.int p3), .val (.int p4), .val (.long b0), .second, .val (.long b1), .second, .unset, .unset, .unset, .unset, .unset, .unset, .unset, .unset, .unset, .unset, .unset, .unset, .unset, .unset, .unset, .unset, .unset, .unset] [(.int (p3 &&& (31 : Int32))), (.long (1 : Int64)), (.double 4607182418800017408)])) _
    refine XS.lshl X0.here hx rfl (hb hby at_38) rfl ?_
    exact k
  obtain ⟨sh, h_sh⟩ : ∃ z : Int64, z = ((1 : Int64) <<< ((p3 &&& (31 : Int32)) &&& 0x3f).toInt64) := ⟨_, rfl⟩
  rw [← h_sh] at C27
  obtain ⟨k, hk, hsh⟩ : ∃ k : Nat, k ≤ 31 ∧ sh.toInt = ((2 ^ k : Nat) : Int) := by rw [h_sh]; exact own_shl p3
  obtain ⟨zs, z0, z1⟩ := own_scaled hk hsh r0 r1
  have C28 : ∀ t, Steps p.tables e below (s₁.setTop (mkF m 43 #[.val (.long p1), .second, .val (.long p2), .second, .val (.int p3), .val (.int p4), .val (.long b0), .second, .val (.long b1), .second, .val (.double (FP.ddiv 4607182418800017408 (FP.l2d sh))), .second, .unset, .unset, .unset, .unset, .unset, .unset, .unset, .unset, .unset, .unset, .unset, .unset, .unset, .unset, .unset, .unset] [])) t → Steps p.tables e below (s₁.setTop (entryFrame m #[(.long p1), (.long p2), (.int p3), (.int p4)] maxLocals)) t := by
    intro t k
    refine C27 t ?_
    show Steps p.tables e below (s₁.setTop (mkF m 39 #[.val (.long p1), .second, .val (.long p2), .second, .val (.int p3), .val (.int p4), .val (.long b0), .second, .val (.long b1), .second, .unset, .unset, .unset, .unset, .unset, .unset, .unset, .unset, .unset, .unset, .unset, .unset, .unset, .unset, .unset, .unset, .unset, .unset] [(.long sh), (.double 4607182418800017408)])) _
    refine XS.l2dS X0.here hx rfl (hb hby at_39) rfl rfl ?_
    show Steps p.tables e below (s₁.setTop (mkF m 40 #[.val (.long p1), .second, .val (.long p2), .second, .val (.int p3), .val (.int p4), .val (.long b0), .second, .val (.long b1), .second, .unset, .unset, .unset, .unset, .unset, .unset, .unset, .unset, .unset, .unset, .unset, .unset, .unset, .unset, .unset, .unset, .unset, .unset] [(.double (FP.l2d sh)), (.double 4607182418800017408)])) _
    refine XS.ddivS X0.here hx rfl (hb hby at_40) rfl zs.nn rfl ?_
    show Steps p.tables e below (s₁.setTop (mkF m 41 #[.val (.long p1), .second, .val (.long p2), .second, .val (.int p3), .val (.int p4), .val (.long b0), .second, .val (.long b1), .second, .unset, .unset, .unset, .unset, .unset, .unset, .unset, .unset, .unset, .unset, .unset, .unset, .unset, .unset, .unset, .unset, .unset, .unset] [(.double (FP.ddiv 4607182418800017408 (FP.l2d sh)))])) _
    refine XS.dstore X0.here hx rfl (hb hby at_41) rfl (l' := #[.val (.long p1), .second, .val (.long p2), .second, .val (.int p3), .val (.int p4), .val (.long b0), .second, .val (.long b1), .second, .val (.double (FP.ddiv 4607182418800017408 (FP.l2d sh))), .second, .unset, .unset, .unset, .unset, .unset, .unset, .unset, .unset, .unset, .unset, .unset, .unset, .unset, .unset, .unset, .unset]) rfl ?_
    exact k
  obtain ⟨sc, h_sc⟩ : ∃ z : UInt64, z = (FP.ddiv 4607182418800017408 (FP.l2d sh)) := ⟨_, rfl⟩
  rw [← h_sc] at C28
  rw [← h_sc] at zs z0 z1
  have C29 : ∀ t, Steps p.tables e below (s₁.setTop (mkF m 51 #[.val (.long p1), .second, .val (.long p2), .second, .val (.int p3), .val (.int p4), .val (.long b0), .second, .val (.long b1), .second, .val (.double sc), .second, .val (.double (FP.dmul (FP.l2d b0) sc)), .second, .unset, .unset, .unset, .unset, .unset, .unset, .unset, .unset, .unset, .unset, .unset, .unset, .unset, .unset] [])) t → Steps p.tables e below (s₁.setTop (entryFrame m #[(.long p1), (.long p2), (.int p3), (.int p4)] maxLocals)) t := by
    intro t k
    refine C28 t ?_
    show Steps p.tables e below (s₁.setTop (mkF m 43 #[.val (.long p1), .second, .val (.long p2), .second, .val (.int p3), .val (.int p4), .val (.long b0), .second, .val (.long b1), .second, .val (.double sc), .second, .unset, .unset, .unset, .unset, .unset, .unset, .unset, .unset, .unset, .unset, .unset, .unset, .unset, .unset, .unset, .unset] [])) _
    refine XS.lload X0.here hx rfl (hb hby at_43) rfl ?_
    show Steps p.tables e below (s₁.setTop (mkF m 45 #[.val (.long p1), .second, .val (.long p2), .second, .val (.int p3), .val (.int p4), .val (.long b0), .second, .val (.long b1), .second, .val (.double sc), .second, .unset, .unset, .unset, .unset, .unset, .unset, .unset, .unset, .unset, .unset, .unset, .unset, .unset, .unset, .unset, .unset] [(.long b0)])) _
    refine XS.l2dS X0.here hx rfl (hb hby at_45) rfl rfl ?_
    show Steps p.tables e below (s₁.setTop (mkF m 46 #[.val (.long p1), .second, .val (.long p2), .second, .val (.int p3), .val (.int p4), .val (.long b0), .second, .val (.long b1), .second, .val (.double sc), .second, .unset, .unset, .unset, .unset, .unset, .unset, .unset, .unset, .unset, .unset, .unset, .unset, .unset, .unset, .unset, .unset] [(.double (FP.l2d b0))])) _
    refine XS.dload X0.here hx rfl (hb hby at_46) rfl ?_
    show Steps p.tables e below (s₁.setTop (mkF m 48 #[.val (.long p1), .second, .val (.long p2), .second, .val (.int p3), .val (.int p4), .val (.long b0), .second, .val (.long b1), .second, .val (.double sc), .second, .unset, .unset, .unset, .unset, .unset, .unset, .unset, .unset, .unset, .unset, .unset, .unset, .unset, .unset, .unset, .unset] [(.double sc), (.double (FP.l2d b0))])) _
    refine XS.dmulS X0.here hx rfl (hb hby at_48) rfl z0.nn rfl ?_
    show Steps p.tables e below (s₁.setTop (mkF m 49 #[.val (.long p1), .second, .val (.long p2), .second, .val (.int p3), .val (.int p4), .val (.long b0), .second, .val (.long b1), .second, .val (.double sc), .second, .unset, .unset, .unset, .unset, .unset, .unset, .unset, .unset, .unset, .unset, .unset, .unset, .unset, .unset, .unset, .unset] [(.double (FP.dmul (FP.l2d b0) sc))])) _
    refine XS.dstore X0.here hx rfl (hb hby at_49) rfl (l' := #[.val (.long p1), .second, .val (.long p2), .second, .val (.int p3), .val (.int p4), .val (.long b0), .second, .val (.long b1), .second, .val (.double sc), .second, .val (.double (FP.dmul (FP.l2d b0) sc)), .second, .unset, .unset, .unset, .unset, .unset, .unset, .unset, .unset, .unset, .unset, .unset, .unset, .unset, .unset]) rfl ?_
    exact k
  obtain ⟨x0, h_x0⟩ : ∃ z : UInt64, z = (FP.dmul (FP.l2d b0) sc) := ⟨_, rfl⟩
  rw [← h_x0] at C29
  rw [← h_x0] at z0
  have C30 : ∀ t, Steps p.tables e below (s₁.setTop (mkF m 59 #[.val (.long p1), .second, .val (.long p2), .second, .val (.int p3), .val (.int p4), .val (.long b0), .second, .val (.long b1), .second, .val (.double sc), .second, .val (.double x0), .second, .val (.double (FP.dmul (FP.l2d b1) sc)), .second, .unset, .unset, .unset, .unset, .unset, .unset, .unset, .unset, .unset, .unset, .unset, .unset] [])) t → Steps p.tables e below (s₁.setTop (entryFrame m #[(.long p1), (.long p2), (.int p3), (.int p4)] maxLocals)) t := by
    intro t k
    refine C29 t ?_
    show Steps p.tables e below (s₁.setTop (mkF m 51 #[.val (.long p1), .second, .val (.long p2), .second, .val (.int p3), .val (.int p4), .val (.long b0), .second, .val (.long b1), .second, .val (.double sc), .second, .val (.double x0), .second, .unset, .unset, .unset, .unset, .unset, .unset, .unset, .unset, .unset, .unset, .unset, .unset, .unset, .unset] [])) _
    refine XS.lload X0.here hx rfl (hb hby at_51) rfl ?_
    show Steps p.tables e below (s₁.setTop (mkF m 53 #[.val (.long p1), .second, .val (.long p2), .second, .val (.int p3), .val (.int p4), .val (.long b0), .second, .val (.long b1), .second, .val (.double sc), .second, .val (.double x0), .second, .unset, .unset, .unset, .unset, .unset, .unset, .unset, .unset, .unset, .unset, .unset, .unset, .unset, .unset] [(.long b1)])) _
    refine XS.l2dS X0.here hx rfl (hb hby at_53) rfl rfl ?_
    show Steps p.tables e below (s₁.setTop (mkF m 54 #[.val (.long p1), .second, .val (.long p2), .second, .val (.int p3), .val (.int p4), .val (.long b0), .second, .val (.long b1), .second, .val (.double sc), .second, .val (.double x0), .second, .unset, .unset, .unset, .unset, .unset, .unset, .unset, .unset, .unset, .unset, .unset, .unset, .unset, .unset] [(.double (FP.l2d b1))])) _
    refine XS.dload X0.here hx rfl (hb hby at_54) rfl ?_
    show Steps p.tables e below (s₁.setTop (mkF m 56 #[.val (.long p1), .second, .val (.long p2), .second, .val (.int p3), .val (.int p4), .val (.long b0), .second, .val (.long b1), .second, .val (.double sc), .second, .val (.double x0), .second, .unset, .unset, .unset, .unset, .unset, .unset, .unset, .unset, .unset, .unset, .unset, .unset, .unset, .unset] [(.double sc), (.double (FP.l2d b1))])) _
    refine XS.dmulS X0.here hx rfl (hb hby at_56) rfl z1.nn rfl ?_
    show Steps p.tables e below (s₁.setTop (mkF m 57 #[.val (.long p1), .second, .val (.long p2), .second, .val (.int p3), .val (.int p4), .val (.long b0), .second, .val (.long b1), .second, .val (.double sc), .second, .val (.double x0), .second, .unset, .unset, .unset, .unset, .unset, .unset, .unset, .unset, .unset, .unset, .unset, .unset, .unset, .unset] [(.double (FP.dmul (FP.l2d b1) sc))])) _
    refine XS.dstore X0.here hx rfl (hb hby at_57) rfl (l' := #[.val (.long p1), .second, .val (.long p2), .second, .val (.int p3), .val (.int p4), .val (.long b0), .second, .val (.long b1), .second, .val (.double sc), .second, .val (.double x0), .second, .val (.double (FP.dmul (FP.l2d b1) sc)), .second, .unset, .unset, .unset, .unset, .unset, .unset, .unset, .unset, .unset, .unset, .unset, .unset]) rfl ?_
    exact k
  obtain ⟨x1, h_x1⟩ : ∃ z : UInt64, z = (FP.dmul (FP.l2d b1) sc) := ⟨_, rfl⟩
  rw [← h_x1] at C30
  rw [← h_x1] at z1
  have C31 : ∀ t, Steps p.tables e below (s₁.setTop (mkF m 64 #[.val (.long p1), .second, .val (.long p2), .second, .val (.int p3), .val (.int p4), .val (.long b0), .second, .val (.long b1), .second, .val (.double sc), .second, .val (.double x0), .second, .val (.double x1), .second, .val (.double (FP.i2d p4)), .second, .unset, .unset, .unset, .unset, .unset, .unset, .unset, .unset, .unset, .unset] [])) t → Steps p.tables e below (s₁.setTop (entryFrame m #[(.long p1), (.long p2), (.int p3), (.int p4)] maxLocals)) t := by
    intro t k
    refine C30 t ?_
    show Steps p.tables e below (s₁.setTop (mkF m 59 #[.val (.long p1), .second, .val (.long p2), .second, .val (.int p3), .val (.int p4), .val (.long b0), .second, .val (.long b1), .second, .val (.double sc), .second, .val (.double x0), .second, .val (.double x1), .second, .unset, .unset, .unset, .unset, .unset, .unset, .unset, .unset, .unset, .unset, .unset, .unset] [])) _
    refine XS.iload X0.here hx rfl (hb hby at_59) rfl ?_
    show Steps p.tables e below (s₁.setTop (mkF m 61 #[.val (.long p1), .second, .val (.long p2), .second, .val (.int p3), .val (.int p4), .val (.long b0), .second, .val (.long b1), .second, .val (.double sc), .second, .val (.double x0), .second, .val (.double x1), .second, .unset, .unset, .unset, .unset, .unset, .unset, .unset, .unset, .unset, .unset, .unset, .unset] [(.int p4)])) _
    refine XS.i2dS X0.here hx rfl (hb hby at_61) rfl rfl ?_
    show Steps p.tables e below (s₁.setTop (mkF m 62 #[.val (.long p1), .second, .val (.long p2), .second, .val (.int p3), .val (.int p4), .val (.long b0), .second, .val (.long b1), .second, .val (.double sc), .second, .val (.double x0), .second, .val (.double x1), .second, .unset, .unset, .unset, .unset, .unset, .unset, .unset, .unset, .unset, .unset, .unset, .unset] [(.double (FP.i2d p4))])) _
    refine XS.dstore X0.here hx rfl (hb hby at_62) rfl (l' := #[.val (.long p1), .second, .val (.long p2), .second, .val (.int p3), .val (.int p4), .val (.long b0), .second, .val (.long b1), .second, .val (.double sc), .second, .val (.double x0), .second, .val (.double x1), .second, .val (.double (FP.i2d p4)), .second, .unset, .unset, .unset, .unset, .unset, .unset, .unset, .unset, .unset, .unset]) rfl ?_
    exact k
  obtain ⟨lu, h_lu⟩ : ∃ z : UInt64, z = (FP.i2d p4) := ⟨_, rfl⟩
  rw [← h_lu] at C31
  have zsum := own_scaled_sum hk r0 r1 z0 z1
  have y1 := own_l2d (v := b1) r1.1 (by omega)
  have hs2 : (b0 + b1).toInt = b0.toInt + b1.toInt := own_add64 r0 r1
  have y2 := own_l2d (v := b0 + b1) (by omega) (by omega)
  have hq : FP.ddiv x1 (FP.dadd x0 x1) = FP.ddiv (FP.l2d b1) (FP.l2d (b0 + b1)) := own_ratio hk r0 r1 r01 hs2 z1 zsum y1 y2
  obtain ⟨ws, zw, hw1, hw2, hw3⟩ := OwnZ.div_le z1 zsum (own_sum_ne hk r0 r1 r01) (Nat.mul_le_mul_right _ (Nat.le_add_left _ _))
  have hcomm : FP.dadd x1 x0 = FP.dadd x0 x1 := Jvm.FP.Core.dadd_comm x1 x0
  obtain ⟨T32, h32, X32, e32, E32, A32, D32, -, st32⟩ := newO X0 hx hZ hown (hw _ (List.mem_of_getElem? (i := 1) rfl)) (hw _ (List.mem_of_getElem? (i := 2) rfl)) (hw _ (List.mem_of_getElem? (i := 3) rfl)) e0 (g := (mkF m 64 #[.val (.long p1), .second, .val (.long p2), .second, .val (.int p3), .val (.int p4), .val (.long b0), .second, .val (.long b1), .second, .val (.double sc), .second, .val (.double x0), .second, .val (.double x1), .second, .val (.double lu), .second, .unset, .unset, .unset, .unset, .unset, .unset, .unset, .unset, .unset, .unset] [])) rfl (hb hby at_64) (by decide) (by decide)
  obtain ⟨b32, g32⟩ : ∃ z, z = h0.size := ⟨_, rfl⟩
  rw [← g32] at A32 D32 st32
  have C32 : ∀ t, Steps p.tables e below (T32.setTop (mkF m 67 #[.val (.long p1), .second, .val (.long p2), .second, .val (.int p3), .val (.int p4), .val (.long b0), .second, .val (.long b1), .second, .val (.double sc), .second, .val (.double x0), .second, .val (.double x1), .second, .val (.double lu), .second, .unset, .unset, .unset, .unset, .unset, .unset, .unset, .unset, .unset, .unset] [(.ref b32)])) t → Steps p.tables e below (s₁.setTop (entryFrame m #[(.long p1), (.long p2), (.int p3), (.int p4)] maxLocals)) t := fun t k => C31 t (st32 t k)
  have F1 : Fld Z h32 b32 "com/example/fundao/fundao/Analysis$Insertion" "logUntouched" "D" (.double 0) := D32 (Or.inr (hw _ (List.mem_of_getElem? (i := 16) rfl))) (ty := .double) (by decide)
  have F2 : Fld Z h32 b32 "com/example/fundao/fundao/Analysis$Insertion" "resetBits" "D" (.double 0) := D32 (Or.inr (hw _ (List.mem_of_getElem? (i := 18) rfl))) (ty := .double) (by decide)
  have F3 : Fld Z h32 b32 "com/example/fundao/fundao/Analysis$Insertion" "setBits" "D" (.double 0) := D32 (Or.inr (hw _ (List.mem_of_getElem? (i := 20) rfl))) (ty := .double) (by decide)
  have Z1 : n0 ≤ h32.size := Nat.le_trans Z0 E32.1
  have C33 : ∀ t, Steps p.tables e below (T32.setTop (mkF m 74 #[.val (.long p1), .second, .val (.long p2), .second, .val (.int p3), .val (.int p4), .val (.long b0), .second, .val (.long b1), .second, .val (.double sc), .second, .val (.double x0), .second, .val (.double x1), .second, .val (.double lu), .second, .unset, .unset, .unset, .unset, .unset, .unset, .unset, .unset, .unset, .unset] [(.double x1), (.double x0), (.double lu), (.ref b32), (.ref b32)])) t → Steps p.tables e below (s₁.setTop (entryFrame m #[(.long p1), (.long p2), (.int p3), (.int p4)] maxLocals)) t := by
    intro t k
    refine C32 t ?_
    show Steps p.tables e below (T32.setTop (mkF m 67 #[.val (.long p1), .second, .val (.long p2), .second, .val (.int p3), .val (.int p4), .val (.long b0), .second, .val (.long b1), .second, .val (.double sc), .second, .val (.double x0), .second, .val (.double x1), .second, .val (.double lu), .second, .unset, .unset, .unset, .unset, .unset, .unset, .unset, .unset, .unset, .unset] [(.ref b32)])) _
    refine XS.dup X32.here hx rfl (hb hby at_67) rfl rfl ?_
    show Steps p.tables e below (T32.setTop (mkF m 68 #[.val (.long p1), .second, .val (.long p2), .second, .val (.int p3), .val (.int p4), .val (.long b0), .second, .val (.long b1), .second, .val (.double sc), .second, .val (.double x0), .second, .val (.double x1), .second, .val (.double lu), .second, .unset, .unset, .unset, .unset, .unset, .unset, .unset, .unset, .unset, .unset] [(.ref b32), (.ref b32)])) _
    refine XS.dload X32.here hx rfl (hb hby at_68) rfl ?_
    show Steps p.tables e below (T32.setTop (mkF m 70 #[.val (.long p1), .second, .val (.long p2), .second, .val (.int p3), .val (.int p4), .val (.long b0), .second, .val (.long b1), .second, .val (.double sc), .second, .val (.double x0), .second, .val (.double x1), .second, .val (.double lu), .second, .unset, .unset, .unset, .unset, .unset, .unset, .unset, .unset, .unset, .unset] [(.double lu), (.ref b32), (.ref b32)])) _
    refine XS.dload X32.here hx rfl (hb hby at_70) rfl ?_
    show Steps p.tables e below (T32.setTop (mkF m 72 #[.val (.long p1), .second, .val (.long p2), .second, .val (.int p3), .val (.int p4), .val (.long b0), .second, .val (.long b1), .second, .val (.double sc), .second, .val (.double x0), .second, .val (.double x1), .second, .val (.double lu), .second, .unset, .unset, .unset, .unset, .unset, .unset, .unset, .unset, .unset, .unset] [(.double x0), (.double lu), (.ref b32), (.ref b32)])) _
    refine XS.dload X32.here hx rfl (hb hby at_72) rfl ?_
    exact k
  obtain ⟨_, _, ⟨T34, L34, k34, n34⟩, -, X34, ⟨Lc34, hQ34, l34, y34, z34⟩, st34⟩ := X32.specialBack hx (y := (⟨"com/example/fundao/fundao/Analysis$Insertion", "<init>", "(DDD)V"⟩ : MethodName)) rfl hown (mvT hZ (hw _ (List.mem_of_getElem? (i := 4) rfl))) (mvT hZ (hw _ (List.mem_of_getElem? (i := 5) rfl))) (mvT hZ (hw _ (List.mem_of_getElem? (i := 6) rfl))) (by decide) (backOf (W := 1) (rm1 l Z a0 hw [] b32 lu x0 x1 h32 n0 Z1 F1 F2 F3 A32 (Nat.le_trans Z0 (Nat.le_of_eq g32.symm))) hZ (hw _ (List.mem_of_getElem? (i := 6) rfl)) (hw _ (List.mem_of_getElem? (i := 3) rfl)) (by decide) (by decide)) (g := (mkF m 74 #[.val (.long p1), .second, .val (.long p2), .second, .val (.int p3), .val (.int p4), .val (.long b0), .second, .val (.long b1), .second, .val (.double sc), .second, .val (.double x0), .second, .val (.double x1), .second, .val (.double lu), .second, .unset, .unset, .unset, .unset, .unset, .unset, .unset, .unset, .unset, .unset] [(.double x1), (.double x0), (.double lu), (.ref b32), (.ref b32)])) rfl (by rw [hml]; rfl) (Steps.refl _) (a := b32) (argsL := [(.double lu), (.double x0), (.double x1)]) (rest := [(.ref b32)]) (lenOf pd1 rfl) rfl (by show 2 * 0 + _ ≤ _; exact Nat.le_of_eq rfl) (hb hby at_74) (fun _ _ => ⟨rfl, e32, (by decide : 1 + 0 ≤ _), (by decide : 3 + 0 ≤ _)⟩)
  dsimp only [Pt.U, Pt.locs, Pt.cells, Pt.slots] at X34 l34 y34 z34 st34 hQ34
  subst l34 y34 z34
  obtain ⟨rfl, N34q, K34, X34a, G34r, G34s⟩ := hQ34
  have N34 := Fr.app N0 N34q
  have C34 : ∀ t, Steps p.tables e below (T34.setTop (mkF m 77 #[.val (.long p1), .second, .val (.long p2), .second, .val (.int p3), .val (.int p4), .val (.long b0), .second, .val (.long b1), .second, .val (.double sc), .second, .val (.double x0), .second, .val (.double x1), .second, .val (.double lu), .second, .unset, .unset, .unset, .unset, .unset, .unset, .unset, .unset, .unset, .unset] [(.ref b32)])) t → Steps p.tables e below (s₁.setTop (entryFrame m #[(.long p1), (.long p2), (.int p3), (.int p4)] maxLocals)) t := fun t k => C33 t (st34.trans k)
  have Z2 : n0 ≤ T34.heap.size := Nat.le_trans Z1 K34.1
  have C35 : ∀ t, Steps p.tables e below (T34.setTop (mkF m 81 #[.val (.long p1), .second, .val (.long p2), .second, .val (.int p3), .val (.int p4), .val (.long b0), .second, .val (.long b1), .second, .val (.double sc), .second, .val (.double x0), .second, .val (.double x1), .second, .val (.double lu), .second, .val (.ref b32), .unset, .unset, .unset, .unset, .unset, .unset, .unset, .unset, .unset] [(.ref b32)])) t → Steps p.tables e below (s₁.setTop (entryFrame m #[(.long p1), (.long p2), (.int p3), (.int p4)] maxLocals)) t := by
    intro t k
    refine C34 t ?_
    show Steps p.tables e below (T34.setTop (mkF m 77 #[.val (.long p1), .second, .val (.long p2), .second, .val (.int p3), .val (.int p4), .val (.long b0), .second, .val (.long b1), .second, .val (.double sc), .second, .val (.double x0), .second, .val (.double x1), .second, .val (.double lu), .second, .unset, .unset, .unset, .unset, .unset, .unset, .unset, .unset, .unset, .unset] [(.ref b32)])) _
    refine XS.astore X34.here hx rfl (hb hby at_77) rfl rfl (l' := #[.val (.long p1), .second, .val (.long p2), .second, .val (.int p3), .val (.int p4), .val (.long b0), .second, .val (.long b1), .second, .val (.double sc), .second, .val (.double x0), .second, .val (.double x1), .second, .val (.double lu), .second, .val (.ref b32), .unset, .unset, .unset, .unset, .unset, .unset, .unset, .unset, .unset]) rfl ?_
    show Steps p.tables e below (T34.setTop (mkF m 79 #[.val (.long p1), .second, .val (.long p2), .second, .val (.int p3), .val (.int p4), .val (.long b0), .second, .val (.long b1), .second, .val (.double sc), .second, .val (.double x0), .second, .val (.double x1), .second, .val (.double lu), .second, .val (.ref b32), .unset, .unset, .unset, .unset, .unset, .unset, .unset, .unset, .unset] [])) _
    refine XS.aload X34.here hx rfl (hb hby at_79) rfl rfl ?_
    exact k
  obtain ⟨cq36, kq36, q36a, q36b, q36c⟩ := isOf hZ rfl X34a
  obtain ⟨_, _, ⟨T36, L36, k36, n36⟩, -, X36, ⟨Lc36, hQ36, l36, y36, z36⟩, st36⟩ := X34.virtualBack hx (y := (⟨"com/example/fundao/fundao/Analysis$Insertion", "set", "()D"⟩ : MethodName)) (z := (⟨"com/example/fundao/fundao/Analysis$Insertion", "set", "()D"⟩ : MethodName)) hown (mvT hZ (hw _ (List.mem_of_getElem? (i := 21) rfl))) (mvT hZ (hw _ (List.mem_of_getElem? (i := 22) rfl))) (notFace_of_selects (args := #[]) (mvT hZ (hw _ (List.mem_of_getElem? (i := 24) rfl)))) (mvT hZ (hw _ (List.mem_of_getElem? (i := 24) rfl))) (mvT hZ (hw _ (List.mem_of_getElem? (i := 23) rfl))) (by decide) (backOf (W := 0) (rm4 l Z a0 hw [] b32 x0 x1 T34.heap n0 Z2 G34r G34s zsum.nn zw.nn) hZ (hw _ (List.mem_of_getElem? (i := 25) rfl)) (hw _ (List.mem_of_getElem? (i := 3) rfl)) (by decide) (by decide)) q36a q36c (g := (mkF m 81 #[.val (.long p1), .second, .val (.long p2), .second, .val (.int p3), .val (.int p4), .val (.long b0), .second, .val (.long b1), .second, .val (.double sc), .second, .val (.double x0), .second, .val (.double x1), .second, .val (.double lu), .second, .val (.ref b32), .unset, .unset, .unset, .unset, .unset, .unset, .unset, .unset, .unset] [(.ref b32)])) rfl (by rw [hml]; rfl) (Steps.refl _) (argsL := []) (rest := []) (lenOf pd2 rfl) rfl (by show 2 * 0 + _ ≤ _; exact Nat.le_of_eq rfl) (hb hby at_81) (fun _ _ => ⟨rfl, rfl, (by decide : 1 + 0 ≤ _), (by decide : 3 + 0 ≤ _)⟩)
  dsimp only [Pt.U, Pt.locs, Pt.cells, Pt.slots] at X36 l36 y36 z36 st36 hQ36
  subst l36 y36 z36
  obtain ⟨rfl, N36q, e36⟩ := hQ36
  have N36 := Fr.app N34 N36q
  have C36 : ∀ t, Steps p.tables e below (T36.setTop (mkF m 84 #[.val (.long p1), .second, .val (.long p2), .second, .val (.int p3), .val (.int p4), .val (.long b0), .second, .val (.long b1), .second, .val (.double sc), .second, .val (.double x0), .second, .val (.double x1), .second, .val (.double lu), .second, .val (.ref b32), .unset, .unset, .unset, .unset, .unset, .unset, .unset, .unset, .unset] [(.double (FP.ddiv x1 (FP.dadd x0 x1)))])) t → Steps p.tables e below (s₁.setTop (entryFrame m #[(.long p1), (.long p2), (.int p3), (.int p4)] maxLocals)) t := fun t k => C35 t (st36.trans k)
  have Z3 : n0 ≤ T36.heap.size := by rw [e36]; exact Z2
  obtain ⟨sv, h_sv⟩ : ∃ z : UInt64, z = (FP.ddiv x1 (FP.dadd x0 x1)) := ⟨_, rfl⟩
  rw [← h_sv] at C36
  rw [← h_sv] at zw hq
  have C37 : ∀ t, Steps p.tables e below (T36.setTop (mkF m 98 #[.val (.long p1), .second, .val (.long p2), .second, .val (.int p3), .val (.int p4), .val (.long b0), .second, .val (.long b1), .second, .val (.double sc), .second, .val (.double x0), .second, .val (.double x1), .second, .val (.double lu), .second, .val (.ref b32), .val (.double sv), .second, .val (.double sv), .second, .unset, .unset, .unset, .unset, .unset] [])) t → Steps p.tables e below (s₁.setTop (entryFrame m #[(.long p1), (.long p2), (.int p3), (.int p4)] maxLocals)) t := by
    intro t k
    refine C36 t ?_
    show Steps p.tables e below (T36.setTop (mkF m 84 #[.val (.long p1), .second, .val (.long p2), .second, .val (.int p3), .val (.int p4), .val (.long b0), .second, .val (.long b1), .second, .val (.double sc), .second, .val (.double x0), .second, .val (.double x1), .second, .val (.double lu), .second, .val (.ref b32), .unset, .unset, .unset, .unset, .unset, .unset, .unset, .unset, .unset] [(.double sv)])) _
    refine XS.dstore X36.here hx rfl (hb hby at_84) rfl (l' := #[.val (.long p1), .second, .val (.long p2), .second, .val (.int p3), .val (.int p4), .val (.long b0), .second, .val (.long b1), .second, .val (.double sc), .second, .val (.double x0), .second, .val (.double x1), .second, .val (.double lu), .second, .val (.ref b32), .val (.double sv), .second, .unset, .unset, .unset, .unset, .unset, .unset, .unset]) rfl ?_
    show Steps p.tables e below (T36.setTop (mkF m 86 #[.val (.long p1), .second, .val (.long p2), .second, .val (.int p3), .val (.int p4), .val (.long b0), .second, .val (.long b1), .second, .val (.double sc), .second, .val (.double x0), .second, .val (.double x1), .second, .val (.double lu), .second, .val (.ref b32), .val (.double sv), .second, .unset, .unset, .unset, .unset, .unset, .unset, .unset] [])) _
    refine XS.lload X36.here hx rfl (hb hby at_86) rfl ?_
    show Steps p.tables e below (T36.setTop (mkF m 88 #[.val (.long p1), .second, .val (.long p2), .second, .val (.int p3), .val (.int p4), .val (.long b0), .second, .val (.long b1), .second, .val (.double sc), .second, .val (.double x0), .second, .val (.double x1), .second, .val (.double lu), .second, .val (.ref b32), .val (.double sv), .second, .unset, .unset, .unset, .unset, .unset, .unset, .unset] [(.long b1)])) _
    refine XS.l2dS X36.here hx rfl (hb hby at_88) rfl rfl ?_
    show Steps p.tables e below (T36.setTop (mkF m 89 #[.val (.long p1), .second, .val (.long p2), .second, .val (.int p3), .val (.int p4), .val (.long b0), .second, .val (.long b1), .second, .val (.double sc), .second, .val (.double x0), .second, .val (.double x1), .second, .val (.double lu), .second, .val (.ref b32), .val (.double sv), .second, .unset, .unset, .unset, .unset, .unset, .unset, .unset] [(.double (FP.l2d b1))])) _
    refine XS.lload X36.here hx rfl (hb hby at_89) rfl ?_
    show Steps p.tables e below (T36.setTop (mkF m 91 #[.val (.long p1), .second, .val (.long p2), .second, .val (.int p3), .val (.int p4), .val (.long b0), .second, .val (.long b1), .second, .val (.double sc), .second, .val (.double x0), .second, .val (.double x1), .second, .val (.double lu), .second, .val (.ref b32), .val (.double sv), .second, .unset, .unset, .unset, .unset, .unset, .unset, .unset] [(.long b0), (.double (FP.l2d b1))])) _
    refine XS.lload X36.here hx rfl (hb hby at_91) rfl ?_
    show Steps p.tables e below (T36.setTop (mkF m 93 #[.val (.long p1), .second, .val (.long p2), .second, .val (.int p3), .val (.int p4), .val (.long b0), .second, .val (.long b1), .second, .val (.double sc), .second, .val (.double x0), .second, .val (.double x1), .second, .val (.double lu), .second, .val (.ref b32), .val (.double sv), .second, .unset, .unset, .unset, .unset, .unset, .unset, .unset] [(.long b1), (.long b0), (.double (FP.l2d b1))])) _
    refine XS.ladd X36.here hx rfl (hb hby at_93) rfl ?_
    show Steps p.tables e below (T36.setTop (mkF m 94 #[.val (.long p1), .second, .val (.long p2), .second, .val (.int p3), .val (.int p4), .val (.long b0), .second, .val (.long b1), .second, .val (.double sc), .second, .val (.double x0), .second, .val (.double x1), .second, .val (.double lu), .second, .val (.ref b32), .val (.double sv), .second, .unset, .unset, .unset, .unset, .unset, .unset, .unset] [(.long (b0 + b1)), (.double (FP.l2d b1))])) _
    refine XS.l2dS X36.here hx rfl (hb hby at_94) rfl rfl ?_
    show Steps p.tables e below (T36.setTop (mkF m 95 #[.val (.long p1), .second, .val (.long p2), .second, .val (.int p3), .val (.int p4), .val (.long b0), .second, .val (.long b1), .second, .val (.double sc), .second, .val (.double x0), .second, .val (.double x1), .second, .val (.double lu), .second, .val (.ref b32), .val (.double sv), .second, .unset, .unset, .unset, .unset, .unset, .unset, .unset] [(.double (FP.l2d (b0 + b1))), (.double (FP.l2d b1))])) _
    refine XS.ddivS X36.here hx rfl (hb hby at_95) rfl (by rw [← hq]; exact zw.nn) hq.symm ?_
    show Steps p.tables e below (T36.setTop (mkF m 96 #[.val (.long p1), .second, .val (.long p2), .second, .val (.int p3), .val (.int p4), .val (.long b0), .second, .val (.long b1), .second, .val (.double sc), .second, .val (.double x0), .second, .val (.double x1), .second, .val (.double lu), .second, .val (.ref b32), .val (.double sv), .second, .unset, .unset, .unset, .unset, .unset, .unset, .unset] [(.double sv)])) _
    refine XS.dstore X36.here hx rfl (hb hby at_96) rfl (l' := #[.val (.long p1), .second, .val (.long p2), .second, .val (.int p3), .val (.int p4), .val (.long b0), .second, .val (.long b1), .second, .val (.double sc), .second, .val (.double x0), .second, .val (.double x1), .second, .val (.double lu), .second, .val (.ref b32), .val (.double sv), .second, .val (.double sv), .second, .unset, .unset, .unset, .unset, .unset]) rfl ?_
    exact k
  obtain ⟨T38, h38, X38, e38, E38, A38, D38, -, st38⟩ := newO X36 hx hZ hown (hw _ (List.mem_of_getElem? (i := 1) rfl)) (hw _ (List.mem_of_getElem? (i := 2) rfl)) (hw _ (List.mem_of_getElem? (i := 3) rfl)) rfl (g := (mkF m 98 #[.val (.long p1), .second, .val (.long p2), .second, .val (.int p3), .val (.int p4), .val (.long b0), .second, .val (.long b1), .second, .val (.double sc), .second, .val (.double x0), .second, .val (.double x1), .second, .val (.double lu), .second, .val (.ref b32), .val (.double sv), .second, .val (.double sv), .second, .unset, .unset, .unset, .unset, .unset] [])) rfl (hb hby at_98) (by decide) (by decide)
  obtain ⟨b38, g38⟩ : ∃ z, z = T36.heap.size := ⟨_, rfl⟩
  rw [← g38] at A38 D38 st38
  have C38 : ∀ t, Steps p.tables e below (T38.setTop (mkF m 101 #[.val (.long p1), .second, .val (.long p2), .second, .val (.int p3), .val (.int p4), .val (.long b0), .second, .val (.long b1), .second, .val (.double sc), .second, .val (.double x0), .second, .val (.double x1), .second, .val (.double lu), .second, .val (.ref b32), .val (.double sv), .second, .val (.double sv), .second, .unset, .unset, .unset, .unset, .unset] [(.ref b38)])) t → Steps p.tables e below (s₁.setTop (entryFrame m #[(.long p1), (.long p2), (.int p3), (.int p4)] maxLocals)) t := fun t k => C37 t (st38 t k)
  have H1 : Fld Z h38 b38 "com/example/fundao/fundao/Analysis$Insertion" "logUntouched" "D" (.double 0) := D38 (Or.inr (hw _ (List.mem_of_getElem? (i := 16) rfl))) (ty := .double) (by decide)
  have H2 : Fld Z h38 b38 "com/example/fundao/fundao/Analysis$Insertion" "resetBits" "D" (.double 0) := D38 (Or.inr (hw _ (List.mem_of_getElem? (i := 18) rfl))) (ty := .double) (by decide)
  have H3 : Fld Z h38 b38 "com/example/fundao/fundao/Analysis$Insertion" "setBits" "D" (.double 0) := D38 (Or.inr (hw _ (List.mem_of_getElem? (i := 20) rfl))) (ty := .double) (by decide)
  have Z4 : n0 ≤ h38.size := Nat.le_trans Z3 E38.1
  have C39 : ∀ t, Steps p.tables e below (T38.setTop (mkF m 108 #[.val (.long p1), .second, .val (.long p2), .second, .val (.int p3), .val (.int p4), .val (.long b0), .second, .val (.long b1), .second, .val (.double sc), .second, .val (.double x0), .second, .val (.double x1), .second, .val (.double lu), .second, .val (.ref b32), .val (.double sv), .second, .val (.double sv), .second, .unset, .unset, .unset, .unset, .unset] [(.double x0), (.double x1), (.double lu), (.ref b38), (.ref b38)])) t → Steps p.tables e below (s₁.setTop (entryFrame m #[(.long p1), (.long p2), (.int p3), (.int p4)] maxLocals)) t := by
    intro t k
    refine C38 t ?_
    show Steps p.tables e below (T38.setTop (mkF m 101 #[.val (.long p1), .second, .val (.long p2), .second, .val (.int p3), .val (.int p4), .val (.long b0), .second, .val (.long b1), .second, .val (.double sc), .second, .val (.double x0), .second, .val (.double x1), .second, .val (.double lu), .second, .val (.ref b32), .val (.double sv), .second, .val (.double sv), .second, .unset, .unset, .unset, .unset, .unset] [(.ref b38)])) _
    refine XS.dup X38.here hx rfl (hb hby at_101) rfl rfl ?_
    show Steps p.tables e below (T38.setTop (mkF m 102 #[.val (.long p1), .second, .val (.long p2), .second, .val (.int p3), .val (.int p4), .val (.long b0), .second, .val (.long b1), .second, .val (.double sc), .second, .val (.double x0), .second, .val (.double x1), .second, .val (.double lu), .second, .val (.ref b32), .val (.double sv), .second, .val (.double sv), .second, .unset, .unset, .unset, .unset, .unset] [(.ref b38), (.ref b38)])) _
    refine XS.dload X38.here hx rfl (hb hby at_102) rfl ?_
    show Steps p.tables e below (T38.setTop (mkF m 104 #[.val (.long p1), .second, .val (.long p2), .second, .val (.int p3), .val (.int p4), .val (.long b0), .second, .val (.long b1), .second, .val (.double sc), .second, .val (.double x0), .second, .val (.double x1), .second, .val (.double lu), .second, .val (.ref b32), .val (.double sv), .second, .val (.double sv), .second, .unset, .unset, .unset, .unset, .unset] [(.double lu), (.ref b38), (.ref b38)])) _
    refine XS.dload X38.here hx rfl (hb hby at_104) rfl ?_
    show Steps p.tables e below (T38.setTop (mkF m 106 #[.val (.long p1), .second, .val (.long p2), .second, .val (.int p3), .val (.int p4), .val (.long b0), .second, .val (.long b1), .second, .val (.double sc), .second, .val (.double x0), .second, .val (.double x1), .second, .val (.double lu), .second, .val (.ref b32), .val (.double sv), .second, .val (.double sv), .second, .unset, .unset, .unset, .unset, .unset] [(.double x1), (.double lu), (.ref b38), (.ref b38)])) _
    refine XS.dload X38.here hx rfl (hb hby at_106) rfl ?_
    exact k
  obtain ⟨_, _, ⟨T40, L40, k40, n40⟩, -, X40, ⟨Lc40, hQ40, l40, y40, z40⟩, st40⟩ := X38.specialBack hx (y := (⟨"com/example/fundao/fundao/Analysis$Insertion", "<init>", "(DDD)V"⟩ : MethodName)) rfl hown (mvT hZ (hw _ (List.mem_of_getElem? (i := 4) rfl))) (mvT hZ (hw _ (List.mem_of_getElem? (i := 5) rfl))) (mvT hZ (hw _ (List.mem_of_getElem? (i := 6) rfl))) (by decide) (backOf (W := 1) (rm1 l Z a0 hw [] b38 lu x1 x0 h38 n0 Z4 H1 H2 H3 A38 (Nat.le_trans Z3 (Nat.le_of_eq g38.symm))) hZ (hw _ (List.mem_of_getElem? (i := 6) rfl)) (hw _ (List.mem_of_getElem? (i := 3) rfl)) (by decide) (by decide)) (g := (mkF m 108 #[.val (.long p1), .second, .val (.long p2), .second, .val (.int p3), .val (.int p4), .val (.long b0), .second, .val (.long b1), .second, .val (.double sc), .second, .val (.double x0), .second, .val (.double x1), .second, .val (.double lu), .second, .val (.ref b32), .val (.double sv), .second, .val (.double sv), .second, .unset, .unset, .unset, .unset, .unset] [(.double x0), (.double x1), (.double lu), (.ref b38), (.ref b38)])) rfl (by rw [hml]; rfl) (Steps.refl _) (a := b38) (argsL := [(.double lu), (.double x1), (.double x0)]) (rest := [(.ref b38)]) (lenOf pd1 rfl) rfl (by show 2 * 0 + _ ≤ _; exact Nat.le_of_eq rfl) (hb hby at_108) (fun _ _ => ⟨rfl, e38, (by decide : 2 + 0 ≤ _), (by decide : 6 + 0 ≤ _)⟩)
  dsimp only [Pt.U, Pt.locs, Pt.cells, Pt.slots] at X40 l40 y40 z40 st40 hQ40
  subst l40 y40 z40
  obtain ⟨rfl, N40q, K40, X40a, G40r, G40s⟩ := hQ40
  have N40 := Fr.app N36 N40q
  have C40 : ∀ t, Steps p.tables e below (T40.setTop (mkF m 111 #[.val (.long p1), .second, .val (.long p2), .second, .val (.int p3), .val (.int p4), .val (.long b0), .second, .val (.long b1), .second, .val (.double sc), .second, .val (.double x0), .second, .val (.double x1), .second, .val (.double lu), .second, .val (.ref b32), .val (.double sv), .second, .val (.double sv), .second, .unset, .unset, .unset, .unset, .unset] [(.ref b38)])) t → Steps p.tables e below (s₁.setTop (entryFrame m #[(.long p1), (.long p2), (.int p3), (.int p4)] maxLocals)) t := fun t k => C39 t (st40.trans k)
  have Z5 : n0 ≤ T40.heap.size := Nat.le_trans Z4 K40.1
  have nn1 : Jvm.Free.Fl.NoNaN64 (FP.dadd x1 x0) := by rw [hcomm]; exact zsum.nn
  have hsv : FP.ddiv x1 (FP.dadd x1 x0) = sv := by rw [hcomm]; exact h_sv.symm
  have nn2 : Jvm.Free.Fl.NoNaN64 (FP.ddiv x1 (FP.dadd x1 x0)) := by rw [hsv]; exact zw.nn
  have C41 : ∀ t, Steps p.tables e below (T40.setTop (mkF m 115 #[.val (.long p1), .second, .val (.long p2), .second, .val (.int p3), .val (.int p4), .val (.long b0), .second, .val (.long b1), .second, .val (.double sc), .second, .val (.double x0), .second, .val (.double x1), .second, .val (.double lu), .second, .val (.ref b32), .val (.double sv), .second, .val (.double sv), .second, .val (.ref b38), .unset, .unset, .unset, .unset] [(.ref b38)])) t → Steps p.tables e below (s₁.setTop (entryFrame m #[(.long p1), (.long p2), (.int p3), (.int p4)] maxLocals)) t := by
    intro t k
    refine C40 t ?_
    show Steps p.tables e below (T40.setTop (mkF m 111 #[.val (.long p1), .second, .val (.long p2), .second, .val (.int p3), .val (.int p4), .val (.long b0), .second, .val (.long b1), .second, .val (.double sc), .second, .val (.double x0), .second, .val (.double x1), .second, .val (.double lu), .second, .val (.ref b32), .val (.double sv), .second, .val (.double sv), .second, .unset, .unset, .unset, .unset, .unset] [(.ref b38)])) _
    refine XS.astore X40.here hx rfl (hb hby at_111) rfl rfl (l' := #[.val (.long p1), .second, .val (.long p2), .second, .val (.int p3), .val (.int p4), .val (.long b0), .second, .val (.long b1), .second, .val (.double sc), .second, .val (.double x0), .second, .val (.double x1), .second, .val (.double lu), .second, .val (.ref b32), .val (.double sv), .second, .val (.double sv), .second, .val (.ref b38), .unset, .unset, .unset, .unset]) rfl ?_
    show Steps p.tables e below (T40.setTop (mkF m 113 #[.val (.long p1), .second, .val (.long p2), .second, .val (.int p3), .val (.int p4), .val (.long b0), .second, .val (.long b1), .second, .val (.double sc), .second, .val (.double x0), .second, .val (.double x1), .second, .val (.double lu), .second, .val (.ref b32), .val (.double sv), .second, .val (.double sv), .second, .val (.ref b38), .unset, .unset, .unset, .unset] [])) _
    refine XS.aload X40.here hx rfl (hb hby at_113) rfl rfl ?_
    exact k
  obtain ⟨cq42, kq42, q42a, q42b, q42c⟩ := isOf hZ rfl X40a
  obtain ⟨_, _, ⟨T42, L42, k42, n42⟩, -, X42, ⟨Lc42, hQ42, l42, y42, z42⟩, st42⟩ := X40.virtualBack hx (y := (⟨"com/example/fundao/fundao/Analysis$Insertion", "reset", "()D"⟩ : MethodName)) (z := (⟨"com/example/fundao/fundao/Analysis$Insertion", "reset", "()D"⟩ : MethodName)) hown (mvT hZ (hw _ (List.mem_of_getElem? (i := 26) rfl))) (mvT hZ (hw _ (List.mem_of_getElem? (i := 27) rfl))) (notFace_of_selects (args := #[]) (mvT hZ (hw _ (List.mem_of_getElem? (i := 29) rfl)))) (mvT hZ (hw _ (List.mem_of_getElem? (i := 29) rfl))) (mvT hZ (hw _ (List.mem_of_getElem? (i := 28) rfl))) (by decide) (backOf (W := 0) (rm5 l Z a0 hw [] b38 x1 x0 T40.heap n0 Z5 G40r G40s nn1 nn2) hZ (hw _ (List.mem_of_getElem? (i := 30) rfl)) (hw _ (List.mem_of_getElem? (i := 3) rfl)) (by decide) (by decide)) q42a q42c (g := (mkF m 115 #[.val (.long p1), .second, .val (.long p2), .second, .val (.int p3), .val (.int p4), .val (.long b0), .second, .val (.long b1), .second, .val (.double sc), .second, .val (.double x0), .second, .val (.double x1), .second, .val (.double lu), .second, .val (.ref b32), .val (.double sv), .second, .val (.double sv), .second, .val (.ref b38), .unset, .unset, .unset, .unset] [(.ref b38)])) rfl (by rw [hml]; rfl) (Steps.refl _) (argsL := []) (rest := []) (lenOf pd2 rfl) rfl (by show 2 * 0 + _ ≤ _; exact Nat.le_of_eq rfl) (hb hby at_115) (fun _ _ => ⟨rfl, rfl, (by decide : 2 + 0 ≤ _), (by decide : 6 + 0 ≤ _)⟩)
  dsimp only [Pt.U, Pt.locs, Pt.cells, Pt.slots] at X42 l42 y42 z42 st42 hQ42
  subst l42 y42 z42
  obtain ⟨rfl, N42q, e42⟩ := hQ42
  have N42 := Fr.app N40 N42q
  have C42 : ∀ t, Steps p.tables e below (T42.setTop (mkF m 118 #[.val (.long p1), .second, .val (.long p2), .second, .val (.int p3), .val (.int p4), .val (.long b0), .second, .val (.long b1), .second, .val (.double sc), .second, .val (.double x0), .second, .val (.double x1), .second, .val (.double lu), .second, .val (.ref b32), .val (.double sv), .second, .val (.double sv), .second, .val (.ref b38), .unset, .unset, .unset, .unset] [(.double (FP.ddiv x1 (FP.dadd x1 x0)))])) t → Steps p.tables e below (s₁.setTop (entryFrame m #[(.long p1), (.long p2), (.int p3), (.int p4)] maxLocals)) t := fun t k => C41 t (st42.trans k)
  rw [hsv] at C42
  have C43 : ∀ t, Steps p.tables e below (T42.setTop (mkF m 156 #[.val (.long p1), .second, .val (.long p2), .second, .val (.int p3), .val (.int p4), .val (.long b0), .second, .val (.long b1), .second, .val (.double sc), .second, .val (.double x0), .second, .val (.double x1), .second, .val (.double lu), .second, .val (.ref b32), .val (.double sv), .second, .val (.double sv), .second, .val (.ref b38), .val (.int (1 : Int32)), .val (.int (1 : Int32)), .unset, .unset] [(.int (lcmpW b1 (0 : Int64)))])) t → Steps p.tables e below (s₁.setTop (entryFrame m #[(.long p1), (.long p2), (.int p3), (.int p4)] maxLocals)) t := by
    intro t k
    refine C42 t ?_
    show Steps p.tables e below (T42.setTop (mkF m 118 #[.val (.long p1), .second, .val (.long p2), .second, .val (.int p3), .val (.int p4), .val (.long b0), .second, .val (.long b1), .second, .val (.double sc), .second, .val (.double x0), .second, .val (.double x1), .second, .val (.double lu), .second, .val (.ref b32), .val (.double sv), .second, .val (.double sv), .second, .val (.ref b38), .unset, .unset, .unset, .unset] [(.double sv)])) _
    refine XS.dload X42.here hx rfl (hb hby at_118) rfl ?_
    show Steps p.tables e below (T42.setTop (mkF m 120 #[.val (.long p1), .second, .val (.long p2), .second, .val (.int p3), .val (.int p4), .val (.long b0), .second, .val (.long b1), .second, .val (.double sc), .second, .val (.double x0), .second, .val (.double x1), .second, .val (.double lu), .second, .val (.ref b32), .val (.double sv), .second, .val (.double sv), .second, .val (.ref b38), .unset, .unset, .unset, .unset] [(.double sv), (.double sv)])) _
    refine XS.dcmpS X42.here hx rfl (hb hby at_120) rfl (dcmpV_self zw.nn .l) ?_
    show Steps p.tables e below (T42.setTop (mkF m 121 #[.val (.long p1), .second, .val (.long p2), .second, .val (.int p3), .val (.int p4), .val (.long b0), .second, .val (.long b1), .second, .val (.double sc), .second, .val (.double x0), .second, .val (.double x1), .second, .val (.double lu), .second, .val (.ref b32), .val (.double sv), .second, .val (.double sv), .second, .val (.ref b38), .unset, .unset, .unset, .unset] [(.int (0 : Int32))])) _
    refine XS.ifNo X42.here hx rfl (hb hby at_121) rfl (XT.i0_ne_f rfl) ?_
    show Steps p.tables e below (T42.setTop (mkF m 124 #[.val (.long p1), .second, .val (.long p2), .second, .val (.int p3), .val (.int p4), .val (.long b0), .second, .val (.long b1), .second, .val (.double sc), .second, .val (.double x0), .second, .val (.double x1), .second, .val (.double lu), .second, .val (.ref b32), .val (.double sv), .second, .val (.double sv), .second, .val (.ref b38), .unset, .unset, .unset, .unset] [])) _
    refine XS.iconst X42.here hx rfl (hb hby at_124) ?_
    show Steps p.tables e below (T42.setTop (mkF m 125 #[.val (.long p1), .second, .val (.long p2), .second, .val (.int p3), .val (.int p4), .val (.long b0), .second, .val (.long b1), .second, .val (.double sc), .second, .val (.double x0), .second, .val (.double x1), .second, .val (.double lu), .second, .val (.ref b32), .val (.double sv), .second, .val (.double sv), .second, .val (.ref b38), .unset, .unset, .unset, .unset] [(.int (1 : Int32))])) _
    refine XS.goto X42.here hx rfl (pc0 := 125) (pc' := 129) rfl (hb hby at_125) (by decide) (by decide) ?_
    show Steps p.tables e below (T42.setTop (mkF m 129 #[.val (.long p1), .second, .val (.long p2), .second, .val (.int p3), .val (.int p4), .val (.long b0), .second, .val (.long b1), .second, .val (.double sc), .second, .val (.double x0), .second, .val (.double x1), .second, .val (.double lu), .second, .val (.ref b32), .val (.double sv), .second, .val (.double sv), .second, .val (.ref b38), .unset, .unset, .unset, .unset] [(.int (1 : Int32))])) _
    refine XS.istore X42.here hx rfl (hb hby at_129) rfl (l' := #[.val (.long p1), .second, .val (.long p2), .second, .val (.int p3), .val (.int p4), .val (.long b0), .second, .val (.long b1), .second, .val (.double sc), .second, .val (.double x0), .second, .val (.double x1), .second, .val (.double lu), .second, .val (.ref b32), .val (.double sv), .second, .val (.double sv), .second, .val (.ref b38), .val (.int (1 : Int32)), .unset, .unset, .unset]) rfl ?_
    show Steps p.tables e below (T42.setTop (mkF m 131 #[.val (.long p1), .second, .val (.long p2), .second, .val (.int p3), .val (.int p4), .val (.long b0), .second, .val (.long b1), .second, .val (.double sc), .second, .val (.double x0), .second, .val (.double x1), .second, .val (.double lu), .second, .val (.ref b32), .val (.double sv), .second, .val (.double sv), .second, .val (.ref b38), .val (.int (1 : Int32)), .unset, .unset, .unset] [])) _
    refine XS.dload X42.here hx rfl (hb hby at_131) rfl ?_
    show Steps p.tables e below (T42.setTop (mkF m 133 #[.val (.long p1), .second, .val (.long p2), .second, .val (.int p3), .val (.int p4), .val (.long b0), .second, .val (.long b1), .second, .val (.double sc), .second, .val (.double x0), .second, .val (.double x1), .second, .val (.double lu), .second, .val (.ref b32), .val (.double sv), .second, .val (.double sv), .second, .val (.ref b38), .val (.int (1 : Int32)), .unset, .unset, .unset] [(.double sv)])) _
    refine XS.dconst0 X42.here hx rfl (hb hby at_133) (v := 0) rfl ?_
    show Steps p.tables e below (T42.setTop (mkF m 134 #[.val (.long p1), .second, .val (.long p2), .second, .val (.int p3), .val (.int p4), .val (.long b0), .second, .val (.long b1), .second, .val (.double sc), .second, .val (.double x0), .second, .val (.double x1), .second, .val (.double lu), .second, .val (.ref b32), .val (.double sv), .second, .val (.double sv), .second, .val (.ref b38), .val (.int (1 : Int32)), .unset, .unset, .unset] [(.double 0), (.double sv)])) _
    refine XS.dcmpS X42.here hx rfl (hb hby at_134) rfl rfl ?_
    show Steps p.tables e below (T42.setTop (mkF m 135 #[.val (.long p1), .second, .val (.long p2), .second, .val (.int p3), .val (.int p4), .val (.long b0), .second, .val (.long b1), .second, .val (.double sc), .second, .val (.double x0), .second, .val (.double x1), .second, .val (.double lu), .second, .val (.ref b32), .val (.double sv), .second, .val (.double sv), .second, .val (.ref b38), .val (.int (1 : Int32)), .unset, .unset, .unset] [(.int (cmpValue (FP.dcmp sv 0) .l))])) _
    refine XS.ifNo X42.here hx rfl (hb hby at_135) rfl (own_cge zw) ?_
    show Steps p.tables e below (T42.setTop (mkF m 138 #[.val (.long p1), .second, .val (.long p2), .second, .val (.int p3), .val (.int p4), .val (.long b0), .second, .val (.long b1), .second, .val (.double sc), .second, .val (.double x0), .second, .val (.double x1), .second, .val (.double lu), .second, .val (.ref b32), .val (.double sv), .second, .val (.double sv), .second, .val (.ref b38), .val (.int (1 : Int32)), .unset, .unset, .unset] [])) _
    refine XS.dload X42.here hx rfl (hb hby at_138) rfl ?_
    show Steps p.tables e below (T42.setTop (mkF m 140 #[.val (.long p1), .second, .val (.long p2), .second, .val (.int p3), .val (.int p4), .val (.long b0), .second, .val (.long b1), .second, .val (.double sc), .second, .val (.double x0), .second, .val (.double x1), .second, .val (.double lu), .second, .val (.ref b32), .val (.double sv), .second, .val (.double sv), .second, .val (.ref b38), .val (.int (1 : Int32)), .unset, .unset, .unset] [(.double sv)])) _
    refine XS.dconst1 X42.here hx rfl (hb hby at_140) (v := 4607182418800017408) rfl ?_
    show Steps p.tables e below (T42.setTop (mkF m 141 #[.val (.long p1), .second, .val (.long p2), .second, .val (.int p3), .val (.int p4), .val (.long b0), .second, .val (.long b1), .second, .val (.double sc), .second, .val (.double x0), .second, .val (.double x1), .second, .val (.double lu), .second, .val (.ref b32), .val (.double sv), .second, .val (.double sv), .second, .val (.ref b38), .val (.int (1 : Int32)), .unset, .unset, .unset] [(.double 4607182418800017408), (.double sv)])) _
    refine XS.dcmpS X42.here hx rfl (hb hby at_141) rfl rfl ?_
    show Steps p.tables e below (T42.setTop (mkF m 142 #[.val (.long p1), .second, .val (.long p2), .second, .val (.int p3), .val (.int p4), .val (.long b0), .second, .val (.long b1), .second, .val (.double sc), .second, .val (.double x0), .second, .val (.double x1), .second, .val (.double lu), .second, .val (.ref b32), .val (.double sv), .second, .val (.double sv), .second, .val (.ref b38), .val (.int (1 : Int32)), .unset, .unset, .unset] [(.int (cmpValue (FP.dcmp sv 4607182418800017408) .g))])) _
    refine XS.ifNo X42.here hx rfl (hb hby at_142) rfl (own_cle zw hw1) ?_
    show Steps p.tables e below (T42.setTop (mkF m 145 #[.val (.long p1), .second, .val (.long p2), .second, .val (.int p3), .val (.int p4), .val (.long b0), .second, .val (.long b1), .second, .val (.double sc), .second, .val (.double x0), .second, .val (.double x1), .second, .val (.double lu), .second, .val (.ref b32), .val (.double sv), .second, .val (.double sv), .second, .val (.ref b38), .val (.int (1 : Int32)), .unset, .unset, .unset] [])) _
    refine XS.iconst X42.here hx rfl (hb hby at_145) ?_
    show Steps p.tables e below (T42.setTop (mkF m 146 #[.val (.long p1), .second, .val (.long p2), .second, .val (.int p3), .val (.int p4), .val (.long b0), .second, .val (.long b1), .second, .val (.double sc), .second, .val (.double x0), .second, .val (.double x1), .second, .val (.double lu), .second, .val (.ref b32), .val (.double sv), .second, .val (.double sv), .second, .val (.ref b38), .val (.int (1 : Int32)), .unset, .unset, .unset] [(.int (1 : Int32))])) _
    refine XS.goto X42.here hx rfl (pc0 := 146) (pc' := 150) rfl (hb hby at_146) (by decide) (by decide) ?_
    show Steps p.tables e below (T42.setTop (mkF m 150 #[.val (.long p1), .second, .val (.long p2), .second, .val (.int p3), .val (.int p4), .val (.long b0), .second, .val (.long b1), .second, .val (.double sc), .second, .val (.double x0), .second, .val (.double x1), .second, .val (.double lu), .second, .val (.ref b32), .val (.double sv), .second, .val (.double sv), .second, .val (.ref b38), .val (.int (1 : Int32)), .unset, .unset, .unset] [(.int (1 : Int32))])) _
    refine XS.istore X42.here hx rfl (hb hby at_150) rfl (l' := #[.val (.long p1), .second, .val (.long p2), .second, .val (.int p3), .val (.int p4), .val (.long b0), .second, .val (.long b1), .second, .val (.double sc), .second, .val (.double x0), .second, .val (.double x1), .second, .val (.double lu), .second, .val (.ref b32), .val (.double sv), .second, .val (.double sv), .second, .val (.ref b38), .val (.int (1 : Int32)), .val (.int (1 : Int32)), .unset, .unset]) rfl ?_
    show Steps p.tables e below (T42.setTop (mkF m 152 #[.val (.long p1), .second, .val (.long p2), .second, .val (.int p3), .val (.int p4), .val (.long b0), .second, .val (.long b1), .second, .val (.double sc), .second, .val (.double x0), .second, .val (.double x1), .second, .val (.double lu), .second, .val (.ref b32), .val (.double sv), .second, .val (.double sv), .second, .val (.ref b38), .val (.int (1 : Int32)), .val (.int (1 : Int32)), .unset, .unset] [])) _
    refine XS.lload X42.here hx rfl (hb hby at_152) rfl ?_
    show Steps p.tables e below (T42.setTop (mkF m 154 #[.val (.long p1), .second, .val (.long p2), .second, .val (.int p3), .val (.int p4), .val (.long b0), .second, .val (.long b1), .second, .val (.double sc), .second, .val (.double x0), .second, .val (.double x1), .second, .val (.double lu), .second, .val (.ref b32), .val (.double sv), .second, .val (.double sv), .second, .val (.ref b38), .val (.int (1 : Int32)), .val (.int (1 : Int32)), .unset, .unset] [(.long b1)])) _
    refine XS.lconst X42.here hx rfl (hb hby at_154) ?_
    show Steps p.tables e below (T42.setTop (mkF m 155 #[.val (.long p1), .second, .val (.long p2), .second, .val (.int p3), .val (.int p4), .val (.long b0), .second, .val (.long b1), .second, .val (.double sc), .second, .val (.double x0), .second, .val (.double x1), .second, .val (.double lu), .second, .val (.ref b32), .val (.double sv), .second, .val (.double sv), .second, .val (.ref b38), .val (.int (1 : Int32)), .val (.int (1 : Int32)), .unset, .unset] [(.long (0 : Int64)), (.long b1)])) _
    refine XS.lcmp X42.here hx rfl (hb hby at_155) rfl ?_
    exact k
  have C171 : ∀ t, Steps p.tables e below (T42.setTop (mkF m 171 #[.val (.long p1), .second, .val (.long p2), .second, .val (.int p3), .val (.int p4), .val (.long b0), .second, .val (.long b1), .second, .val (.double sc), .second, .val (.double x0), .second, .val (.double x1), .second, .val (.double lu), .second, .val (.ref b32), .val (.double sv), .second, .val (.double sv), .second, .val (.ref b38), .val (.int (1 : Int32)), .val (.int (1 : Int32)), .unset, .unset] [(.int (1 : Int32))])) t → Steps p.tables e below (s₁.setTop (entryFrame m #[(.long p1), (.long p2), (.int p3), (.int p4)] maxLocals)) t := by
    by_cases hm : b1 = 0
    · intro t k
      refine C43 t ?_
      show Steps p.tables e below (T42.setTop (mkF m 156 #[.val (.long p1), .second, .val (.long p2), .second, .val (.int p3), .val (.int p4), .val (.long b0), .second, .val (.long b1), .second, .val (.double sc), .second, .val (.double x0), .second, .val (.double x1), .second, .val (.double lu), .second, .val (.ref b32), .val (.double sv), .second, .val (.double sv), .second, .val (.ref b38), .val (.int (1 : Int32)), .val (.int (1 : Int32)), .unset, .unset] [(.int (lcmpW b1 (0 : Int64)))])) _
      refine XS.ifNo X42.here hx rfl (hb hby at_156) rfl (own_lne_f hm) ?_
      show Steps p.tables e below (T42.setTop (mkF m 159 #[.val (.long p1), .second, .val (.long p2), .second, .val (.int p3), .val (.int p4), .val (.long b0), .second, .val (.long b1), .second, .val (.double sc), .second, .val (.double x0), .second, .val (.double x1), .second, .val (.double lu), .second, .val (.ref b32), .val (.double sv), .second, .val (.double sv), .second, .val (.ref b38), .val (.int (1 : Int32)), .val (.int (1 : Int32)), .unset, .unset] [])) _
      refine XS.dload X42.here hx rfl (hb hby at_159) rfl ?_
      show Steps p.tables e below (T42.setTop (mkF m 161 #[.val (.long p1), .second, .val (.long p2), .second, .val (.int p3), .val (.int p4), .val (.long b0), .second, .val (.long b1), .second, .val (.double sc), .second, .val (.double x0), .second, .val (.double x1), .second, .val (.double lu), .second, .val (.ref b32), .val (.double sv), .second, .val (.double sv), .second, .val (.ref b38), .val (.int (1 : Int32)), .val (.int (1 : Int32)), .unset, .unset] [(.double sv)])) _
      refine XS.dconst0 X42.here hx rfl (hb hby at_161) (v := 0) rfl ?_
      show Steps p.tables e below (T42.setTop (mkF m 162 #[.val (.long p1), .second, .val (.long p2), .second, .val (.int p3), .val (.int p4), .val (.long b0), .second, .val (.long b1), .second, .val (.double sc), .second, .val (.double x0), .second, .val (.double x1), .second, .val (.double lu), .second, .val (.ref b32), .val (.double sv), .second, .val (.double sv), .second, .val (.ref b38), .val (.int (1 : Int32)), .val (.int (1 : Int32)), .unset, .unset] [(.double 0), (.double sv)])) _
      refine XS.dcmpS X42.here hx rfl (hb hby at_162) rfl (own_eq0 zw (hw2 (own_z0 hm))) ?_
      show Steps p.tables e below (T42.setTop (mkF m 163 #[.val (.long p1), .second, .val (.long p2), .second, .val (.int p3), .val (.int p4), .val (.long b0), .second, .val (.long b1), .second, .val (.double sc), .second, .val (.double x0), .second, .val (.double x1), .second, .val (.double lu), .second, .val (.ref b32), .val (.double sv), .second, .val (.double sv), .second, .val (.ref b38), .val (.int (1 : Int32)), .val (.int (1 : Int32)), .unset, .unset] [(.int (0 : Int32))])) _
      refine XS.ifNo X42.here hx rfl (hb hby at_163) rfl (XT.i0_ne_f rfl) ?_
      show Steps p.tables e below (T42.setTop (mkF m 166 #[.val (.long p1), .second, .val (.long p2), .second, .val (.int p3), .val (.int p4), .val (.long b0), .second, .val (.long b1), .second, .val (.double sc), .second, .val (.double x0), .second, .val (.double x1), .second, .val (.double lu), .second, .val (.ref b32), .val (.double sv), .second, .val (.double sv), .second, .val (.ref b38), .val (.int (1 : Int32)), .val (.int (1 : Int32)), .unset, .unset] [])) _
      refine XS.iconst X42.here hx rfl (hb hby at_166) ?_
      show Steps p.tables e below (T42.setTop (mkF m 167 #[.val (.long p1), .second, .val (.long p2), .second, .val (.int p3), .val (.int p4), .val (.long b0), .second, .val (.long b1), .second, .val (.double sc), .second, .val (.double x0), .second, .val (.double x1), .second, .val (.double lu), .second, .val (.ref b32), .val (.double sv), .second, .val (.double sv), .second, .val (.ref b38), .val (.int (1 : Int32)), .val (.int (1 : Int32)), .unset, .unset] [(.int (1 : Int32))])) _
      refine XS.goto X42.here hx rfl (pc0 := 167) (pc' := 171) rfl (hb hby at_167) (by decide) (by decide) ?_
      exact k
    · intro t k
      refine C43 t ?_
      show Steps p.tables e below (T42.setTop (mkF m 156 #[.val (.long p1), .second, .val (.long p2), .second, .val (.int p3), .val (.int p4), .val (.long b0), .second, .val (.long b1), .second, .val (.double sc), .second, .val (.double x0), .second, .val (.double x1), .second, .val (.double lu), .second, .val (.ref b32), .val (.double sv), .second, .val (.double sv), .second, .val (.ref b38), .val (.int (1 : Int32)), .val (.int (1 : Int32)), .unset, .unset] [(.int (lcmpW b1 (0 : Int64)))])) _
      refine XS.ifYes X42.here hx rfl (pc0 := 156) (pc' := 166) rfl (hb hby at_156) rfl (own_lne_t hm) (by decide) (by decide) ?_
      show Steps p.tables e below (T42.setTop (mkF m 166 #[.val (.long p1), .second, .val (.long p2), .second, .val (.int p3), .val (.int p4), .val (.long b0), .second, .val (.long b1), .second, .val (.double sc), .second, .val (.double x0), .second, .val (.double x1), .second, .val (.double lu), .second, .val (.ref b32), .val (.double sv), .second, .val (.double sv), .second, .val (.ref b38), .val (.int (1 : Int32)), .val (.int (1 : Int32)), .unset, .unset] [])) _
      refine XS.iconst X42.here hx rfl (hb hby at_166) ?_
      show Steps p.tables e below (T42.setTop (mkF m 167 #[.val (.long p1), .second, .val (.long p2), .second, .val (.int p3), .val (.int p4), .val (.long b0), .second, .val (.long b1), .second, .val (.double sc), .second, .val (.double x0), .second, .val (.double x1), .second, .val (.double lu), .second, .val (.ref b32), .val (.double sv), .second, .val (.double sv), .second, .val (.ref b38), .val (.int (1 : Int32)), .val (.int (1 : Int32)), .unset, .unset] [(.int (1 : Int32))])) _
      refine XS.goto X42.here hx rfl (pc0 := 167) (pc' := 171) rfl (hb hby at_167) (by decide) (by decide) ?_
      exact k
  have C44 : ∀ t, Steps p.tables e below (T42.setTop (mkF m 177 #[.val (.long p1), .second, .val (.long p2), .second, .val (.int p3), .val (.int p4), .val (.long b0), .second, .val (.long b1), .second, .val (.double sc), .second, .val (.double x0), .second, .val (.double x1), .second, .val (.double lu), .second, .val (.ref b32), .val (.double sv), .second, .val (.double sv), .second, .val (.ref b38), .val (.int (1 : Int32)), .val (.int (1 : Int32)), .val (.int (1 : Int32)), .unset] [(.int (lcmpW b0 (0 : Int64)))])) t → Steps p.tables e below (s₁.setTop (entryFrame m #[(.long p1), (.long p2), (.int p3), (.int p4)] maxLocals)) t := by
    intro t k
    refine C171 t ?_
    show Steps p.tables e below (T42.setTop (mkF m 171 #[.val (.long p1), .second, .val (.long p2), .second, .val (.int p3), .val (.int p4), .val (.long b0), .second, .val (.long b1), .second, .val (.double sc), .second, .val (.double x0), .second, .val (.double x1), .second, .val (.double lu), .second, .val (.ref b32), .val (.double sv), .second, .val (.double sv), .second, .val (.ref b38), .val (.int (1 : Int32)), .val (.int (1 : Int32)), .unset, .unset] [(.int (1 : Int32))])) _
    refine XS.istore X42.here hx rfl (hb hby at_171) rfl (l' := #[.val (.long p1), .second, .val (.long p2), .second, .val (.int p3), .val (.int p4), .val (.long b0), .second, .val (.long b1), .second, .val (.double sc), .second, .val (.double x0), .second, .val (.double x1), .second, .val (.double lu), .second, .val (.ref b32), .val (.double sv), .second, .val (.double sv), .second, .val (.ref b38), .val (.int (1 : Int32)), .val (.int (1 : Int32)), .val (.int (1 : Int32)), .unset]) rfl ?_
    show Steps p.tables e below (T42.setTop (mkF m 173 #[.val (.long p1), .second, .val (.long p2), .second, .val (.int p3), .val (.int p4), .val (.long b0), .second, .val (.long b1), .second, .val (.double sc), .second, .val (.double x0), .second, .val (.double x1), .second, .val (.double lu), .second, .val (.ref b32), .val (.double sv), .second, .val (.double sv), .second, .val (.ref b38), .val (.int (1 : Int32)), .val (.int (1 : Int32)), .val (.int (1 : Int32)), .unset] [])) _
    refine XS.lload X42.here hx rfl (hb hby at_173) rfl ?_
    show Steps p.tables e below (T42.setTop (mkF m 175 #[.val (.long p1), .second, .val (.long p2), .second, .val (.int p3), .val (.int p4), .val (.long b0), .second, .val (.long b1), .second, .val (.double sc), .second, .val (.double x0), .second, .val (.double x1), .second, .val (.double lu), .second, .val (.ref b32), .val (.double sv), .second, .val (.double sv), .second, .val (.ref b38), .val (.int (1 : Int32)), .val (.int (1 : Int32)), .val (.int (1 : Int32)), .unset] [(.long b0)])) _
    refine XS.lconst X42.here hx rfl (hb hby at_175) ?_
    show Steps p.tables e below (T42.setTop (mkF m 176 #[.val (.long p1), .second, .val (.long p2), .second, .val (.int p3), .val (.int p4), .val (.long b0), .second, .val (.long b1), .second, .val (.double sc), .second, .val (.double x0), .second, .val (.double x1), .second, .val (.double lu), .second, .val (.ref b32), .val (.double sv), .second, .val (.double sv), .second, .val (.ref b38), .val (.int (1 : Int32)), .val (.int (1 : Int32)), .val (.int (1 : Int32)), .unset] [(.long (0 : Int64)), (.long b0)])) _
    refine XS.lcmp X42.here hx rfl (hb hby at_176) rfl ?_
    exact k
  have C192 : ∀ t, Steps p.tables e below (T42.setTop (mkF m 192 #[.val (.long p1), .second, .val (.long p2), .second, .val (.int p3), .val (.int p4), .val (.long b0), .second, .val (.long b1), .second, .val (.double sc), .second, .val (.double x0), .second, .val (.double x1), .second, .val (.double lu), .second, .val (.ref b32), .val (.double sv), .second, .val (.double sv), .second, .val (.ref b38), .val (.int (1 : Int32)), .val (.int (1 : Int32)), .val (.int (1 : Int32)), .unset] [(.int (1 : Int32))])) t → Steps p.tables e below (s₁.setTop (entryFrame m #[(.long p1), (.long p2), (.int p3), (.int p4)] maxLocals)) t := by
    by_cases hm : b0 = 0
    · intro t k
      refine C44 t ?_
      show Steps p.tables e below (T42.setTop (mkF m 177 #[.val (.long p1), .second, .val (.long p2), .second, .val (.int p3), .val (.int p4), .val (.long b0), .second, .val (.long b1), .second, .val (.double sc), .second, .val (.double x0), .second, .val (.double x1), .second, .val (.double lu), .second, .val (.ref b32), .val (.double sv), .second, .val (.double sv), .second, .val (.ref b38), .val (.int (1 : Int32)), .val (.int (1 : Int32)), .val (.int (1 : Int32)), .unset] [(.int (lcmpW b0 (0 : Int64)))])) _
      refine XS.ifNo X42.here hx rfl (hb hby at_177) rfl (own_lne_f hm) ?_
      show Steps p.tables e below (T42.setTop (mkF m 180 #[.val (.long p1), .second, .val (.long p2), .second, .val (.int p3), .val (.int p4), .val (.long b0), .second, .val (.long b1), .second, .val (.double sc), .second, .val (.double x0), .second, .val (.double x1), .second, .val (.double lu), .second, .val (.ref b32), .val (.double sv), .second, .val (.double sv), .second, .val (.ref b38), .val (.int (1 : Int32)), .val (.int (1 : Int32)), .val (.int (1 : Int32)), .unset] [])) _
      refine XS.dload X42.here hx rfl (hb hby at_180) rfl ?_
      show Steps p.tables e below (T42.setTop (mkF m 182 #[.val (.long p1), .second, .val (.long p2), .second, .val (.int p3), .val (.int p4), .val (.long b0), .second, .val (.long b1), .second, .val (.double sc), .second, .val (.double x0), .second, .val (.double x1), .second, .val (.double lu), .second, .val (.ref b32), .val (.double sv), .second, .val (.double sv), .second, .val (.ref b38), .val (.int (1 : Int32)), .val (.int (1 : Int32)), .val (.int (1 : Int32)), .unset] [(.double sv)])) _
      refine XS.dconst1 X42.here hx rfl (hb hby at_182) (v := 4607182418800017408) rfl ?_
      show Steps p.tables e below (T42.setTop (mkF m 183 #[.val (.long p1), .second, .val (.long p2), .second, .val (.int p3), .val (.int p4), .val (.long b0), .second, .val (.long b1), .second, .val (.double sc), .second, .val (.double x0), .second, .val (.double x1), .second, .val (.double lu), .second, .val (.ref b32), .val (.double sv), .second, .val (.double sv), .second, .val (.ref b38), .val (.int (1 : Int32)), .val (.int (1 : Int32)), .val (.int (1 : Int32)), .unset] [(.double 4607182418800017408), (.double sv)])) _
      refine XS.dcmpS X42.here hx rfl (hb hby at_183) rfl (own_eq1 zw (hw3 (own_z1 hm))) ?_
      show Steps p.tables e below (T42.setTop (mkF m 184 #[.val (.long p1), .second, .val (.long p2), .second, .val (.int p3), .val (.int p4), .val (.long b0), .second, .val (.long b1), .second, .val (.double sc), .second, .val (.double x0), .second, .val (.double x1), .second, .val (.double lu), .second, .val (.ref b32), .val (.double sv), .second, .val (.double sv), .second, .val (.ref b38), .val (.int (1 : Int32)), .val (.int (1 : Int32)), .val (.int (1 : Int32)), .unset] [(.int (0 : Int32))])) _
      refine XS.ifNo X42.here hx rfl (hb hby at_184) rfl (XT.i0_ne_f rfl) ?_
      show Steps p.tables e below (T42.setTop (mkF m 187 #[.val (.long p1), .second, .val (.long p2), .second, .val (.int p3), .val (.int p4), .val (.long b0), .second, .val (.long b1), .second, .val (.double sc), .second, .val (.double x0), .second, .val (.double x1), .second, .val (.double lu), .second, .val (.ref b32), .val (.double sv), .second, .val (.double sv), .second, .val (.ref b38), .val (.int (1 : Int32)), .val (.int (1 : Int32)), .val (.int (1 : Int32)), .unset] [])) _
      refine XS.iconst X42.here hx rfl (hb hby at_187) ?_
      show Steps p.tables e below (T42.setTop (mkF m 188 #[.val (.long p1), .second, .val (.long p2), .second, .val (.int p3), .val (.int p4), .val (.long b0), .second, .val (.long b1), .second, .val (.double sc), .second, .val (.double x0), .second, .val (.double x1), .second, .val (.double lu), .second, .val (.ref b32), .val (.double sv), .second, .val (.double sv), .second, .val (.ref b38), .val (.int (1 : Int32)), .val (.int (1 : Int32)), .val (.int (1 : Int32)), .unset] [(.int (1 : Int32))])) _
      refine XS.goto X42.here hx rfl (pc0 := 188) (pc' := 192) rfl (hb hby at_188) (by decide) (by decide) ?_
      exact k
    · intro t k
      refine C44 t ?_
      show Steps p.tables e below (T42.setTop (mkF m 177 #[.val (.long p1), .second, .val (.long p2), .second, .val (.int p3), .val (.int p4), .val (.long b0), .second, .val (.long b1), .second, .val (.double sc), .second, .val (.double x0), .second, .val (.double x1), .second, .val (.double lu), .second, .val (.ref b32), .val (.double sv), .second, .val (.double sv), .second, .val (.ref b38), .val (.int (1 : Int32)), .val (.int (1 : Int32)), .val (.int (1 : Int32)), .unset] [(.int (lcmpW b0 (0 : Int64)))])) _
      refine XS.ifYes X42.here hx rfl (pc0 := 177) (pc' := 187) rfl (hb hby at_177) rfl (own_lne_t hm) (by decide) (by decide) ?_
      show Steps p.tables e below (T42.setTop (mkF m 187 #[.val (.long p1), .second, .val (.long p2), .second, .val (.int p3), .val (.int p4), .val (.long b0), .second, .val (.long b1), .second, .val (.double sc), .second, .val (.double x0), .second, .val (.double x1), .second, .val (.double lu), .second, .val (.ref b32), .val (.double sv), .second, .val (.double sv), .second, .val (.ref b38), .val (.int (1 : Int32)), .val (.int (1 : Int32)), .val (.int (1 : Int32)), .unset] [])) _
      refine XS.iconst X42.here hx rfl (hb hby at_187) ?_
      show Steps p.tables e below (T42.setTop (mkF m 188 #[.val (.long p1), .second, .val (.long p2), .second, .val (.int p3), .val (.int p4), .val (.long b0), .second, .val (.long b1), .second, .val (.double sc), .second, .val (.double x0), .second, .val (.double x1), .second, .val (.double lu), .second, .val (.ref b32), .val (.double sv), .second, .val (.double sv), .second, .val (.ref b38), .val (.int (1 : Int32)), .val (.int (1 : Int32)), .val (.int (1 : Int32)), .unset] [(.int (1 : Int32))])) _
      refine XS.goto X42.here hx rfl (pc0 := 188) (pc' := 192) rfl (hb hby at_188) (by decide) (by decide) ?_
      exact k
  have C45 : ∀ t, Steps p.tables e below (T42.setTop (mkF m 227 #[.val (.long p1), .second, .val (.long p2), .second, .val (.int p3), .val (.int p4), .val (.long b0), .second, .val (.long b1), .second, .val (.double sc), .second, .val (.double x0), .second, .val (.double x1), .second, .val (.double lu), .second, .val (.ref b32), .val (.double sv), .second, .val (.double sv), .second, .val (.ref b38), .val (.int (1 : Int32)), .val (.int (1 : Int32)), .val (.int (1 : Int32)), .val (.int (1 : Int32))] [(.int (1 : Int32))])) t → Steps p.tables e below (s₁.setTop (entryFrame m #[(.long p1), (.long p2), (.int p3), (.int p4)] maxLocals)) t := by
    intro t k
    refine C192 t ?_
    show Steps p.tables e below (T42.setTop (mkF m 192 #[.val (.long p1), .second, .val (.long p2), .second, .val (.int p3), .val (.int p4), .val (.long b0), .second, .val (.long b1), .second, .val (.double sc), .second, .val (.double x0), .second, .val (.double x1), .second, .val (.double lu), .second, .val (.ref b32), .val (.double sv), .second, .val (.double sv), .second, .val (.ref b38), .val (.int (1 : Int32)), .val (.int (1 : Int32)), .val (.int (1 : Int32)), .unset] [(.int (1 : Int32))])) _
    refine XS.istore X42.here hx rfl (hb hby at_192) rfl (l' := #[.val (.long p1), .second, .val (.long p2), .second, .val (.int p3), .val (.int p4), .val (.long b0), .second, .val (.long b1), .second, .val (.double sc), .second, .val (.double x0), .second, .val (.double x1), .second, .val (.double lu), .second, .val (.ref b32), .val (.double sv), .second, .val (.double sv), .second, .val (.ref b38), .val (.int (1 : Int32)), .val (.int (1 : Int32)), .val (.int (1 : Int32)), .val (.int (1 : Int32))]) rfl ?_
    show Steps p.tables e below (T42.setTop (mkF m 194 #[.val (.long p1), .second, .val (.long p2), .second, .val (.int p3), .val (.int p4), .val (.long b0), .second, .val (.long b1), .second, .val (.double sc), .second, .val (.double x0), .second, .val (.double x1), .second, .val (.double lu), .second, .val (.ref b32), .val (.double sv), .second, .val (.double sv), .second, .val (.ref b38), .val (.int (1 : Int32)), .val (.int (1 : Int32)), .val (.int (1 : Int32)), .val (.int (1 : Int32))] [])) _
    refine XS.dload X42.here hx rfl (hb hby at_194) rfl ?_
    show Steps p.tables e below (T42.setTop (mkF m 196 #[.val (.long p1), .second, .val (.long p2), .second, .val (.int p3), .val (.int p4), .val (.long b0), .second, .val (.long b1), .second, .val (.double sc), .second, .val (.double x0), .second, .val (.double x1), .second, .val (.double lu), .second, .val (.ref b32), .val (.double sv), .second, .val (.double sv), .second, .val (.ref b38), .val (.int (1 : Int32)), .val (.int (1 : Int32)), .val (.int (1 : Int32)), .val (.int (1 : Int32))] [(.double sv)])) _
    refine XS.dload X42.here hx rfl (hb hby at_196) rfl ?_
    show Steps p.tables e below (T42.setTop (mkF m 198 #[.val (.long p1), .second, .val (.long p2), .second, .val (.int p3), .val (.int p4), .val (.long b0), .second, .val (.long b1), .second, .val (.double sc), .second, .val (.double x0), .second, .val (.double x1), .second, .val (.double lu), .second, .val (.ref b32), .val (.double sv), .second, .val (.double sv), .second, .val (.ref b38), .val (.int (1 : Int32)), .val (.int (1 : Int32)), .val (.int (1 : Int32)), .val (.int (1 : Int32))] [(.double sv), (.double sv)])) _
    refine XS.dcmpS X42.here hx rfl (hb hby at_198) rfl (dcmpV_self zw.nn .l) ?_
    show Steps p.tables e below (T42.setTop (mkF m 199 #[.val (.long p1), .second, .val (.long p2), .second, .val (.int p3), .val (.int p4), .val (.long b0), .second, .val (.long b1), .second, .val (.double sc), .second, .val (.double x0), .second, .val (.double x1), .second, .val (.double lu), .second, .val (.ref b32), .val (.double sv), .second, .val (.double sv), .second, .val (.ref b38), .val (.int (1 : Int32)), .val (.int (1 : Int32)), .val (.int (1 : Int32)), .val (.int (1 : Int32))] [(.int (0 : Int32))])) _
    refine XS.ifNo X42.here hx rfl (hb hby at_199) rfl (XT.i0_ne_f rfl) ?_
    show Steps p.tables e below (T42.setTop (mkF m 202 #[.val (.long p1), .second, .val (.long p2), .second, .val (.int p3), .val (.int p4), .val (.long b0), .second, .val (.long b1), .second, .val (.double sc), .second, .val (.double x0), .second, .val (.double x1), .second, .val (.double lu), .second, .val (.ref b32), .val (.double sv), .second, .val (.double sv), .second, .val (.ref b38), .val (.int (1 : Int32)), .val (.int (1 : Int32)), .val (.int (1 : Int32)), .val (.int (1 : Int32))] [])) _
    refine XS.iload X42.here hx rfl (hb hby at_202) rfl ?_
    show Steps p.tables e below (T42.setTop (mkF m 204 #[.val (.long p1), .second, .val (.long p2), .second, .val (.int p3), .val (.int p4), .val (.long b0), .second, .val (.long b1), .second, .val (.double sc), .second, .val (.double x0), .second, .val (.double x1), .second, .val (.double lu), .second, .val (.ref b32), .val (.double sv), .second, .val (.double sv), .second, .val (.ref b38), .val (.int (1 : Int32)), .val (.int (1 : Int32)), .val (.int (1 : Int32)), .val (.int (1 : Int32))] [(.int (1 : Int32))])) _
    refine XS.ifNo X42.here hx rfl (hb hby at_204) rfl (XT.i0_eq_f (by decide)) ?_
    show Steps p.tables e below (T42.setTop (mkF m 207 #[.val (.long p1), .second, .val (.long p2), .second, .val (.int p3), .val (.int p4), .val (.long b0), .second, .val (.long b1), .second, .val (.double sc), .second, .val (.double x0), .second, .val (.double x1), .second, .val (.double lu), .second, .val (.ref b32), .val (.double sv), .second, .val (.double sv), .second, .val (.ref b38), .val (.int (1 : Int32)), .val (.int (1 : Int32)), .val (.int (1 : Int32)), .val (.int (1 : Int32))] [])) _
    refine XS.iload X42.here hx rfl (hb hby at_207) rfl ?_
    show Steps p.tables e below (T42.setTop (mkF m 209 #[.val (.long p1), .second, .val (.long p2), .second, .val (.int p3), .val (.int p4), .val (.long b0), .second, .val (.long b1), .second, .val (.double sc), .second, .val (.double x0), .second, .val (.double x1), .second, .val (.double lu), .second, .val (.ref b32), .val (.double sv), .second, .val (.double sv), .second, .val (.ref b38), .val (.int (1 : Int32)), .val (.int (1 : Int32)), .val (.int (1 : Int32)), .val (.int (1 : Int32))] [(.int (1 : Int32))])) _
    refine XS.ifNo X42.here hx rfl (hb hby at_209) rfl (XT.i0_eq_f (by decide)) ?_
    show Steps p.tables e below (T42.setTop (mkF m 212 #[.val (.long p1), .second, .val (.long p2), .second, .val (.int p3), .val (.int p4), .val (.long b0), .second, .val (.long b1), .second, .val (.double sc), .second, .val (.double x0), .second, .val (.double x1), .second, .val (.double lu), .second, .val (.ref b32), .val (.double sv), .second, .val (.double sv), .second, .val (.ref b38), .val (.int (1 : Int32)), .val (.int (1 : Int32)), .val (.int (1 : Int32)), .val (.int (1 : Int32))] [])) _
    refine XS.iload X42.here hx rfl (hb hby at_212) rfl ?_
    show Steps p.tables e below (T42.setTop (mkF m 214 #[.val (.long p1), .second, .val (.long p2), .second, .val (.int p3), .val (.int p4), .val (.long b0), .second, .val (.long b1), .second, .val (.double sc), .second, .val (.double x0), .second, .val (.double x1), .second, .val (.double lu), .second, .val (.ref b32), .val (.double sv), .second, .val (.double sv), .second, .val (.ref b38), .val (.int (1 : Int32)), .val (.int (1 : Int32)), .val (.int (1 : Int32)), .val (.int (1 : Int32))] [(.int (1 : Int32))])) _
    refine XS.ifNo X42.here hx rfl (hb hby at_214) rfl (XT.i0_eq_f (by decide)) ?_
    show Steps p.tables e below (T42.setTop (mkF m 217 #[.val (.long p1), .second, .val (.long p2), .second, .val (.int p3), .val (.int p4), .val (.long b0), .second, .val (.long b1), .second, .val (.double sc), .second, .val (.double x0), .second, .val (.double x1), .second, .val (.double lu), .second, .val (.ref b32), .val (.double sv), .second, .val (.double sv), .second, .val (.ref b38), .val (.int (1 : Int32)), .val (.int (1 : Int32)), .val (.int (1 : Int32)), .val (.int (1 : Int32))] [])) _
    refine XS.iload X42.here hx rfl (hb hby at_217) rfl ?_
    show Steps p.tables e below (T42.setTop (mkF m 219 #[.val (.long p1), .second, .val (.long p2), .second, .val (.int p3), .val (.int p4), .val (.long b0), .second, .val (.long b1), .second, .val (.double sc), .second, .val (.double x0), .second, .val (.double x1), .second, .val (.double lu), .second, .val (.ref b32), .val (.double sv), .second, .val (.double sv), .second, .val (.ref b38), .val (.int (1 : Int32)), .val (.int (1 : Int32)), .val (.int (1 : Int32)), .val (.int (1 : Int32))] [(.int (1 : Int32))])) _
    refine XS.ifNo X42.here hx rfl (hb hby at_219) rfl (XT.i0_eq_f (by decide)) ?_
    show Steps p.tables e below (T42.setTop (mkF m 222 #[.val (.long p1), .second, .val (.long p2), .second, .val (.int p3), .val (.int p4), .val (.long b0), .second, .val (.long b1), .second, .val (.double sc), .second, .val (.double x0), .second, .val (.double x1), .second, .val (.double lu), .second, .val (.ref b32), .val (.double sv), .second, .val (.double sv), .second, .val (.ref b38), .val (.int (1 : Int32)), .val (.int (1 : Int32)), .val (.int (1 : Int32)), .val (.int (1 : Int32))] [])) _
    refine XS.iconst X42.here hx rfl (hb hby at_222) ?_
    show Steps p.tables e below (T42.setTop (mkF m 223 #[.val (.long p1), .second, .val (.long p2), .second, .val (.int p3), .val (.int p4), .val (.long b0), .second, .val (.long b1), .second, .val (.double sc), .second, .val (.double x0), .second, .val (.double x1), .second, .val (.double lu), .second, .val (.ref b32), .val (.double sv), .second, .val (.double sv), .second, .val (.ref b38), .val (.int (1 : Int32)), .val (.int (1 : Int32)), .val (.int (1 : Int32)), .val (.int (1 : Int32))] [(.int (1 : Int32))])) _
    refine XS.goto X42.here hx rfl (pc0 := 223) (pc' := 227) rfl (hb hby at_223) (by decide) (by decide) ?_
    exact k
  obtain ⟨fs, hr, hrun, hended, hW, hsame⟩ := X42.leave (v := some (.int (1 : Int32))) (fun h => by rw [Bd.returns] at h; cases h)
  refine ⟨_, _, C45 _ ?_, hrun, hended, _, _, rfl, ?_, ⟨_, rfl⟩, hW, hsame.mono (by decide) (by decide)⟩
  · show Steps p.tables e below (T42.setTop (mkF m 227 #[.val (.long p1), .second, .val (.long p2), .second, .val (.int p3), .val (.int p4), .val (.long b0), .second, .val (.long b1), .second, .val (.double sc), .second, .val (.double x0), .second, .val (.double x1), .second, .val (.double lu), .second, .val (.ref b32), .val (.double sv), .second, .val (.double sv), .second, .val (.ref b38), .val (.int (1 : Int32)), .val (.int (1 : Int32)), .val (.int (1 : Int32)), .val (.int (1 : Int32))] [(.int (1 : Int32))])) _
    exact retN X42 hx (t := .boolean) Bd.returns (by simp) (hb hby at_227) hr
  · show Q0 Z p1 p2 p3 p4 h0 n0 _ T42.heap _
    exact ⟨rfl, N42⟩
set_option maxRecDepth 65536 in
set_option maxHeartbeats 40000000 in
theorem comes_1 {Post : Tables → Env → Array Value → State → Outcome → State → Prop} (hpost : ∀ tb e args s v u, (limb_1_1.after args s (.returned v) u = true ∧ limb_1_2.after args s (.returned v) u = true ∧ True) → FrameEnd s (.returned v) u (Jvm.fieldLocs frame_1_writes args s ++ Jvm.arrayLocs frame_1_arrays args s ++ Jvm.staticLocs frame_1_statics s) 16 128 → Post tb e args s (.returned v) u) :
    ArmFor flags0 classFile x code maxLocals ret World_1 tables_1 room_1 Calls_1 rest_1 Pre_1 Post := by
  intro l hfl _ _ p e ha hc hk s m args below hf hA hF happ hP
  obtain ⟨hcalls, hrest, hpre⟩ := hP
  obtain ⟨-, -, -, hnamed, -, -, -, hat⟩ := (Spec.applies_iff hf).mp happ
  obtain ⟨hg, hn⟩ := and_e (Cond.before_iff.mp (show (Jvm.Cond.and given_1 narrow_1).before args s = true from hpre))
  obtain ⟨hcount, r0⟩ := and_e hg
  obtain ⟨q0, r1⟩ := and_e r0
  obtain ⟨q1, r2⟩ := and_e r1
  obtain ⟨q2, r3⟩ := and_e r2
  have q3 := r3
  obtain ⟨w0, w1, w2, w3, rfl⟩ : ∃ w0 w1 w2 w3 : Value, args = #[w0, w1, w2, w3] := by
    have hs : args.size = 4 := by simpa [Cond.value, given_1] using hcount
    obtain ⟨L⟩ := args
    match L, hs with
    | [w0, w1, w2, w3], _ => exact ⟨w0, w1, w2, w3, rfl⟩
  have hw := fun d (hd : d ∈ tables_1) => atoms_spec (ws := Jvm.Cond.code x code maxLocals ret :: tables_1) hat d (List.mem_cons_of_mem _ hd)
  obtain ⟨i0, ei0⟩ := isL_v q0
  obtain rfl : w0 = (.long i0) := Option.some.inj ei0
  obtain ⟨i1, ei1⟩ := isL_v q1
  obtain rfl : w1 = (.long i1) := Option.some.inj ei1
  obtain ⟨i2, ei2⟩ := is_v q2
  obtain rfl : w2 = (.int i2) := Option.some.inj ei2
  obtain ⟨i3, ei3⟩ := is_v q3
  obtain rfl : w3 = (.int i3) := Option.some.inj ei3
  obtain ⟨n, o, h1, h2, h3, _, L, rfl, ⟨rfl, N⟩, hq⟩ := rm0 l s _ hw tables_1 i0 i1 i2 i3 s.heap s.heap.size (Nat.le_refl _)  p e ha hc hk s m _ below hf ((Spec.applies_iff_loose hf).mp happ).1 ⟨rfl, State.Warmed39.refl s, rfl⟩ trivial
  refine ⟨n, _, h1, h2, h3, hpost _ _ _ _ _ _ ⟨Cond.after_iff.mpr rfl, Cond.after_iff.mpr (eq_i res_at (Term.int_eval (1)) rfl), trivial⟩ ⟨hq.1, hq.2.1, (hq.2.2.sift fun y hy => Or.inr (N y hy)).mono (by decide) (by decide)⟩⟩
theorem main_1_1 : Claimed_1_1 := comes_1 fun _ _ _ _ _ _ h hF => ⟨h.1, hF⟩
theorem main_1_2 : Claimed_1_2 := comes_1 fun _ _ _ _ _ _ h hF => ⟨h.2.1, hF⟩
end Jvm.Pilot.@@N@@
namespace Jvm.Pilot.@@N@@
open Jvm Jvm.ClassFile Sem Op Lib Jvm.Free Jvm.Stand Jvm.Pilot.@@N@@.Jvm.D
/-! MADE BY PROGRAM (witnessworld.py) out of the Statement's table words and the real class files: 10 classes; the members and pool entries that the words name. The judged class is class 1, her method 1. -/
namespace start1
open Jvm.ClassFile
def u (s : String) : CpInfo := .utf8 (stringToUtf16 s)
/-- a pool by its gaps: so many unusable entries, then the entry; so many at the end -/
def gap : Nat → List CpInfo → List CpInfo
  | 0, r => r
  | n + 1, r => .unusable :: gap n r
def poolList (es : List (Nat × CpInfo)) (last : Nat) : List CpInfo := es.foldr (fun e r => gap e.1 (e.2 :: r)) (gap last [])
def pool (es : List (Nat × CpInfo)) (last : Nat) : Array CpInfo := ⟨poolList es last⟩
def fileOf (pool : Array CpInfo) (this : Nat) (attrs : Array Attribute := #[]) (ms : Array MethodInfo := #[]) (fl : Nat := 33) (sup : Nat := 0) (ifs : Array Nat := #[]) (fds : Array FieldInfo := #[]) : ClassFile where
  minorVersion := 0
  majorVersion := 65
  constantPool := pool
  accessFlags := fl
  thisClass := this
  superClass := sup
  interfaces := ifs
  fields := fds
  methods := ms
  attributes := attrs
def plain (name : String) (sup : Option ClassId) : Class where
  name := name
  kind := .ordinary
  loader := none
  accessFlags := 33
  super := sup
  interfaces := #[]
  cf := none
  fields := #[]
  methods := #[]
  instanceTypes := #[]
  staticTypes := #[]
  resolved := #[]
  callSites := []
  init := .initialized
  statics := none
  mirror := none

def pool0 : Array CpInfo := pool [(5, u "<init>"), (0, u "()V"), (1, .class_ 10), (1, u "java/lang/Object")] 113

def k0c0 : Code := { maxStack := 0, maxLocals := 1, code := object_method_1_code, exceptionTable := #[], attributes := #[] }
def k0m0 : Method := { name := "<init>", desc := "()V", sig := { parameters := [], returnType := none }, accessFlags := 1, code := some k0c0 }
/-- java/lang/Object -/
def k0 : Class := { plain "java/lang/Object" none with
  accessFlags := 33
  interfaces := #[]
  cf := some (fileOf pool0 8 #[] #[{ accessFlags := 1, nameIndex := 5, descriptorIndex := 6, attributes := #[] }] 33 0 #[] #[])
  fields := #[]
  methods := #[k0m0]
  instanceTypes := #[]
  staticTypes := #[]
  resolved := Array.replicate 124 none
  statics := none }

def pool1 : Array CpInfo := pool [(2, .class_ 4), (1, u "java/lang/Object"), (0, u "<init>"), (0, u "()V"), (0, .long 1099511627775), (1, .class_ 10), (0, u "com/example/fundao/fundao/Analysis$Insertion"), (0, .methodref 9 12), (0, .nameAndType 5 13), (0, u "(DDD)V"), (0, .methodref 9 15), (0, .nameAndType 16 17), (0, u "set"), (0, u "()D"), (0, .methodref 9 19), (0, .nameAndType 20 17), (0, u "reset"), (0, .class_ 22), (0, u "com/example/fundao/fundao/InsertionSetPinLaw"), (2, u "law"), (0, u "(JJII)Z")] 7

def k1m0 : Method := { name := "<init>", desc := "()V", sig := { parameters := [], returnType := none }, accessFlags := 1, code := none }
def k1c1 : Code := { maxStack := 8, maxLocals := 28, code := code, exceptionTable := #[], attributes := #[] }
def k1m1 : Method := { name := "law", desc := "(JJII)Z", sig := { parameters := [.long, .long, .int, .int], returnType := some .boolean }, accessFlags := 9, code := some k1c1 }
/-- com/example/fundao/fundao/InsertionSetPinLaw -/
def k1 : Class := { plain "com/example/fundao/fundao/InsertionSetPinLaw" (some 0) with
  accessFlags := 49
  interfaces := #[]
  cf := some (fileOf pool1 21 #[] #[{ accessFlags := 1, nameIndex := 5, descriptorIndex := 6, attributes := #[] }, { accessFlags := 9, nameIndex := 25, descriptorIndex := 26, attributes := #[] }] 49 2 #[] #[])
  fields := #[]
  methods := #[k1m0, k1m1]
  instanceTypes := #[]
  staticTypes := #[]
  resolved := Array.replicate 34 none
  statics := none }

def pool2 : Array CpInfo := pool [(1, .methodref 2 3), (0, .class_ 4), (0, .nameAndType 5 6), (0, u "java/lang/Object"), (0, u "<init>"), (0, u "()V"), (0, .class_ 8), (0, u "java/lang/Record")] 13

def k2c0 : Code := { maxStack := 1, maxLocals := 1, code := jdk_30_method_1_code, exceptionTable := #[], attributes := #[] }
def k2m0 : Method := { name := "<init>", desc := "()V", sig := { parameters := [], returnType := none }, accessFlags := 4, code := some k2c0 }
/-- java/lang/Record -/
def k2 : Class := { plain "java/lang/Record" (some 0) with
  accessFlags := 1057
  interfaces := #[]
  cf := some (fileOf pool2 7 #[] #[{ accessFlags := 4, nameIndex := 5, descriptorIndex := 6, attributes := #[] }] 1057 2 #[] #[])
  fields := #[]
  methods := #[k2m0]
  instanceTypes := #[]
  staticTypes := #[]
  resolved := Array.replicate 22 none
  statics := none }

def pool3 : Array CpInfo := pool [(1, .methodref 2 3), (0, .class_ 4), (0, .nameAndType 5 6), (0, u "java/lang/Record"), (0, u "<init>"), (0, u "()V"), (0, .fieldref 8 9), (0, .class_ 10), (0, .nameAndType 11 12), (0, u "com/example/fundao/fundao/Analysis$Insertion"), (0, u "logUntouched"), (0, u "D"), (0, .fieldref 8 14), (0, .nameAndType 15 12), (0, u "resetBits"), (0, .fieldref 8 17), (0, .nameAndType 18 12), (0, u "setBits"), (17, u "(DDD)V"), (14, u "set"), (0, u "()D"), (2, u "reset"), (14, .class_ 72), (1, u "com/example/fundao/fundao/Analysis")] 54

def k3c0 : Code := { maxStack := 3, maxLocals := 7, code := prog_2_method_1_code, exceptionTable := #[], attributes := #[] }
def k3m0 : Method := { name := "<init>", desc := "(DDD)V", sig := { parameters := [.double, .double, .double], returnType := none }, accessFlags := 0, code := some k3c0 }
def k3c1 : Code := { maxStack := 6, maxLocals := 1, code := prog_2_method_4_code, exceptionTable := #[], attributes := #[] }
def k3m1 : Method := { name := "reset", desc := "()D", sig := { parameters := [], returnType := some .double }, accessFlags := 0, code := some k3c1 }
def k3c2 : Code := { maxStack := 6, maxLocals := 1, code := prog_2_method_5_code, exceptionTable := #[], attributes := #[] }
def k3m2 : Method := { name := "set", desc := "()D", sig := { parameters := [], returnType := some .double }, accessFlags := 0, code := some k3c2 }
/-- com/example/fundao/fundao/Analysis$Insertion -/
def k3 : Class := { plain "com/example/fundao/fundao/Analysis$Insertion" (some 2) with
  accessFlags := 48
  interfaces := #[]
  cf := some (fileOf pool3 8 #[.nestHost 70] #[{ accessFlags := 0, nameIndex := 5, descriptorIndex := 36, attributes := #[] }, { accessFlags := 0, nameIndex := 55, descriptorIndex := 52, attributes := #[] }, { accessFlags := 0, nameIndex := 51, descriptorIndex := 52, attributes := #[] }] 48 2 #[] #[{ accessFlags := 18, nameIndex := 11, descriptorIndex := 12, attributes := #[] }, { accessFlags := 18, nameIndex := 15, descriptorIndex := 12, attributes := #[] }, { accessFlags := 18, nameIndex := 18, descriptorIndex := 12, attributes := #[] }])
  fields := #[{ name := "logUntouched", type := .double, accessFlags := 18, slot := 0, constantValue := 0 }, { name := "resetBits", type := .double, accessFlags := 18, slot := 1, constantValue := 0 }, { name := "setBits", type := .double, accessFlags := 18, slot := 2, constantValue := 0 }]
  methods := #[k3m0, k3m1, k3m2]
  instanceTypes := #[.double, .double, .double]
  staticTypes := #[]
  resolved := Array.replicate 127 none
  statics := none }

def pool4 : Array CpInfo := pool [(1, u "java/lang/Cloneable"), (0, .class_ 1), (0, u "java/lang/Object"), (0, .class_ 3)] 3

/-- java/lang/Cloneable -/
def k4 : Class := { plain "java/lang/Cloneable" (some 0) with
  accessFlags := 1537
  interfaces := #[]
  cf := some (fileOf pool4 2 #[] #[] 1537 4 #[] #[])
  fields := #[]
  methods := #[]
  instanceTypes := #[]
  staticTypes := #[]
  resolved := Array.replicate 8 none
  statics := none }

def pool5 : Array CpInfo := pool [(1, u "java/io/Serializable"), (0, .class_ 1), (0, u "java/lang/Object"), (0, .class_ 3)] 3

/-- java/io/Serializable -/
def k5 : Class := { plain "java/io/Serializable" (some 0) with
  accessFlags := 1537
  interfaces := #[]
  cf := some (fileOf pool5 2 #[] #[] 1537 4 #[] #[])
  fields := #[]
  methods := #[]
  instanceTypes := #[]
  staticTypes := #[]
  resolved := Array.replicate 8 none
  statics := none }

/-- the primitive byte -/
def k6 : Class := { plain "byte" none with kind := .primitive 'B', accessFlags := 0x411 }
/-- [B -/
def k7 : Class := { plain "[B" (some 0) with kind := .array 6 .byte, interfaces := #[4, 5], accessFlags := 1041 }

/-- the primitive int -/
def k8 : Class := { plain "int" none with kind := .primitive 'I', accessFlags := 0x411 }
/-- [I -/
def k9 : Class := { plain "[I" (some 0) with kind := .array 8 .int, interfaces := #[4, 5], accessFlags := 1041 }

def heap : Heap := #[]
def classes : Array Class := #[k0, k1, k2, k3, k4, k5, k6, k7, k8, k9]
def interned : List (Array UInt16 × Addr) := []
def slotsUsed : Nat := 0
def theMethod : MethodId := ⟨1, 1⟩
def args0 : Array Value := #[.long 5, .long 7, .int 3, .int 2]
def aboutOver (below : List Frame) : State where
  vm := { classes := classes, interned := interned.toArray }
  heap := heap
  slotsUsed := slotsUsed
  threads := #[{ frames := .invoking theMethod args0 :: below }]
def below0 : List Frame := [.native { method := ⟨0, 0⟩, args := #[] }]
def about1 : State := aboutOver below0
def p0 : Program := .bare "" "" ""
def e0 : Env := launch0.env 0 0 0
theorem w_frames : about1.frames = Frame.invoking theMethod args0 :: below0 := rfl
set_option maxRecDepth 65536 in
theorem w_args : argsFit about1.vm theMethod args0 = true := by decide +kernel
set_option maxRecDepth 65536 in
theorem w_heap : heapFits about1 = true := by decide +kernel
set_option maxRecDepth 65536 in
theorem w_runnable : about1.curStatus? = some .runnable := by decide +kernel
set_option maxRecDepth 65536 in
theorem w_alone : about1.alone = true := by decide +kernel
set_option maxRecDepth 65536 in
theorem w_named : about1.methodNamed? x = some theMethod := by decide +kernel
set_option maxRecDepth 65536 in
theorem w_hears : about1.hears theMethod below0 = true := by decide +kernel
set_option maxRecDepth 65536 in
theorem w_ripe : about1.ripe theMethod args0 below0 = true := by decide +kernel
theorem w_running : about1.status = .running := rfl
set_option maxRecDepth 65536 in
theorem w_room : about1.hasRoom e0.platform room_1 = true :=
  launch0.hasRoom_least _ room_1 (by decide +kernel) (by decide +kernel) (by decide +kernel) (by decide +kernel) (by decide +kernel) (by decide +kernel)
theorem allAtoms_all (ts : List Jvm.Cond) (a : Array Jvm.Value) (st : Jvm.State) : (allAtoms ts).before a st = ts.all (fun c => c.before a st) := by
  induction ts with
  | nil => rfl
  | cons c t ih =>
    show (Jvm.Cond.and c (allAtoms t)).before a st = _
    rw [Jvm.Cond.before_and, ih, List.all_cons]
def words1 : List Jvm.Cond := Jvm.Cond.code x code maxLocals ret :: tables_1
/-- a 'code' word, met by the world's own term for the bytes: nothing is compared byte by byte -/
theorem code_word {y : MethodName} {bytes : ByteArray} {mx : Nat} {rt : Option FieldType} {a : Array Value} {s : State} {m : MethodId} {meth : Method} {c : Code} (h1 : s.methodNamed? y = some m) (h2 : s.vm.method? m = some meth) (h3 : meth.code = some c) (h4 : c.code = bytes)
    (h5 : (c.maxLocals == mx && c.exceptionTable.isEmpty && decide (c.maxStack ≤ mostOperands) && decide (meth.sig.returnType = rt) && !meth.locks && decide (parseMethodDescriptor y.desc = some meth.sig)) = true) : (Jvm.Cond.code y bytes mx rt).before a s = true := by
  simp only [Bool.and_eq_true, beq_iff_eq, Bool.not_eq_true', decide_eq_true_eq] at h5
  obtain ⟨⟨⟨⟨⟨g1, g2⟩, g3⟩, g4⟩, g5⟩, g6⟩ := h5
  simp [Cond.before, Cond.holds, Cond.value, h1, h2, h3, h4, g1, g2, g3, g4, g5, g6]
def isCode : Jvm.Cond → Bool
  | .code _ _ _ _ => true
  | _ => false
theorem all_split {L : List Jvm.Cond} {P : Jvm.Cond → Bool} (h1 : L.all (fun c => isCode c || P c) = true) (h2 : ∀ c ∈ L.filter isCode, P c = true) : L.all P = true := by
  refine List.all_eq_true.mpr fun c hc => ?_
  have h := List.all_eq_true.mp h1 c hc
  rcases Bool.eq_false_or_eq_true (isCode c) with hi | hi
  · exact h2 c (List.mem_filter.mpr ⟨hc, hi⟩)
  · simpa [hi] using h
set_option maxRecDepth 65536 in
theorem w_c0 : (Jvm.Cond.code x code maxLocals ret).before args0 about1 = true := code_word (m := ⟨1, 1⟩) (meth := k1m1) (c := k1c1) (by decide +kernel) rfl rfl rfl (by decide +kernel)
set_option maxRecDepth 65536 in
theorem w_c1 : (Jvm.Cond.code ({ cls := "com/example/fundao/fundao/Analysis$Insertion", name := "<init>", desc := "(DDD)V" } : Jvm.MethodName) prog_2_method_1_code (7 : Nat) (Option.none : Option Jvm.ClassFile.FieldType)).before args0 about1 = true := code_word (m := ⟨3, 0⟩) (meth := k3m0) (c := k3c0) (by decide +kernel) rfl rfl rfl (by decide +kernel)
set_option maxRecDepth 65536 in
theorem w_c2 : (Jvm.Cond.code ({ cls := "java/lang/Record", name := "<init>", desc := "()V" } : Jvm.MethodName) jdk_30_method_1_code (1 : Nat) (Option.none : Option Jvm.ClassFile.FieldType)).before args0 about1 = true := code_word (m := ⟨2, 0⟩) (meth := k2m0) (c := k2c0) (by decide +kernel) rfl rfl rfl (by decide +kernel)
set_option maxRecDepth 65536 in
theorem w_c3 : (Jvm.Cond.code ({ cls := "java/lang/Object", name := "<init>", desc := "()V" } : Jvm.MethodName) object_method_1_code (1 : Nat) (Option.none : Option Jvm.ClassFile.FieldType)).before args0 about1 = true := code_word (m := ⟨0, 0⟩) (meth := k0m0) (c := k0c0) (by decide +kernel) rfl rfl rfl (by decide +kernel)
set_option maxRecDepth 65536 in
theorem w_c4 : (Jvm.Cond.code ({ cls := "com/example/fundao/fundao/Analysis$Insertion", name := "set", desc := "()D" } : Jvm.MethodName) prog_2_method_5_code (1 : Nat) (Option.some Jvm.ClassFile.FieldType.double)).before args0 about1 = true := code_word (m := ⟨3, 2⟩) (meth := k3m2) (c := k3c2) (by decide +kernel) rfl rfl rfl (by decide +kernel)
set_option maxRecDepth 65536 in
theorem w_c5 : (Jvm.Cond.code ({ cls := "com/example/fundao/fundao/Analysis$Insertion", name := "reset", desc := "()D" } : Jvm.MethodName) prog_2_method_4_code (1 : Nat) (Option.some Jvm.ClassFile.FieldType.double)).before args0 about1 = true := code_word (m := ⟨3, 1⟩) (meth := k3m1) (c := k3c1) (by decide +kernel) rfl rfl rfl (by decide +kernel)
def codes1 : List Jvm.Cond := [Jvm.Cond.code x code maxLocals ret, Jvm.Cond.code ({ cls := "com/example/fundao/fundao/Analysis$Insertion", name := "<init>", desc := "(DDD)V" } : Jvm.MethodName) prog_2_method_1_code (7 : Nat) (Option.none : Option Jvm.ClassFile.FieldType), Jvm.Cond.code ({ cls := "java/lang/Record", name := "<init>", desc := "()V" } : Jvm.MethodName) jdk_30_method_1_code (1 : Nat) (Option.none : Option Jvm.ClassFile.FieldType), Jvm.Cond.code ({ cls := "java/lang/Object", name := "<init>", desc := "()V" } : Jvm.MethodName) object_method_1_code (1 : Nat) (Option.none : Option Jvm.ClassFile.FieldType), Jvm.Cond.code ({ cls := "com/example/fundao/fundao/Analysis$Insertion", name := "set", desc := "()D" } : Jvm.MethodName) prog_2_method_5_code (1 : Nat) (Option.some Jvm.ClassFile.FieldType.double), Jvm.Cond.code ({ cls := "com/example/fundao/fundao/Analysis$Insertion", name := "reset", desc := "()D" } : Jvm.MethodName) prog_2_method_4_code (1 : Nat) (Option.some Jvm.ClassFile.FieldType.double)]
set_option maxRecDepth 65536 in
theorem codes_eq : words1.filter isCode = codes1 := rfl
theorem w_codes : ∀ c ∈ words1.filter isCode, c.before args0 about1 = true := by
  rw [codes_eq]
  intro c hc
  simp only [codes1, List.mem_cons, List.not_mem_nil, or_false] at hc
  rcases hc with rfl | rfl | rfl | rfl | rfl | rfl
  · exact w_c0
  · exact w_c1
  · exact w_c2
  · exact w_c3
  · exact w_c4
  · exact w_c5
set_option maxRecDepth 65536 in
theorem w_t1 : (words1.take 24).all (fun c => isCode c || c.before args0 about1) = true := by decide +kernel
set_option maxRecDepth 65536 in
theorem w_t2 : (words1.drop 24).all (fun c => isCode c || c.before args0 about1) = true := by decide +kernel
theorem w_tables : (allAtoms (Jvm.Cond.code x code maxLocals ret :: tables_1)).before args0 about1 = true := by
  rw [allAtoms_all]
  show words1.all (fun c => c.before args0 about1) = true
  refine all_split ?_ w_codes
  rw [← List.take_append_drop 24 words1, List.all_append, w_t1, w_t2]
  rfl
set_option maxRecDepth 65536 in
theorem w_case : (Jvm.Cond.and given_1 narrow_1).before args0 about1 = true := by decide +kernel
theorem w_applies : (headSpec (Jvm.Cond.code x code maxLocals ret :: tables_1) room_1).applies x e0.platform about1 = true :=
  (Spec.applies_iff w_frames).mpr ⟨w_running, w_runnable, w_alone, w_named, w_hears, w_ripe, w_room, w_tables⟩
theorem atStart : AtStart classFile x code maxLocals ret World_1 tables_1 room_1 Calls_1 rest_1 Pre_1 launch0 p0 e0 about1 theMethod args0 below0 :=
  ⟨lists_1, trivial, launch0.admits_env _ _ _, launch0.least_env, fairChoices_fair.cas, fairChoices_fair.clock, w_frames, w_args, w_heap, w_applies, trivial, trivial, w_case⟩
end start1
theorem witness_1 : WitnessClaimed_1 := ⟨start1.p0, start1.e0, start1.about1, start1.theMethod, start1.args0, start1.below0, start1.atStart⟩
end Jvm.Pilot.@@N@@
