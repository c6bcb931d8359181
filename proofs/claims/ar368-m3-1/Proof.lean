import JvmDerived
import JvmDerived.Pilot.@@N@@Statement
import JvmDerived.Pilot.@@N@@Code
set_option linter.unusedVariables false
set_option linter.unusedSimpArgs false
namespace Jvm.Pilot.@@N@@
open Jvm Jvm.ClassFile Sem Op Lib Jvm.Free Jvm.Stand Jvm.LawKit Jvm.RoadKit Bundle Jvm.Pilot.@@N@@.Jvm.D
section OwnPos
open Jvm.FP Jvm.FP.Core
/-- a double that is finite and not negative, of the magnitude z in units of 2^-1074 -/
def OwnZ (a : UInt64) (z : Nat) : Prop := (∃ c q, val64 a = .fin false c q) ∧ zmag b64 (val64 a) = z
/-- a magnitude that some double has -/
def OwnRep (w : Nat) : Prop := ∃ c q, Core.fits b64 (.fin false c q) ∧ zmag b64 (.fin false c q) = w
theorem own_qmin : b64.qmin = -1074 := by decide
theorem own_qmax : b64.qmax = 971 := by decide
theorem own_zmag_fin (s : Bool) (c : Nat) (q : Int) : zmag b64 (.fin s c q) = c * 2 ^ (q - b64.qmin).toNat := rfl
theorem own_one64 : one64 = 2 ^ 1074 := rfl
theorem OwnRep.of {n k : Nat} (hn : n < 2 ^ 53) (hk : k ≤ 2045) : OwnRep (n * 2 ^ k) := by
  obtain ⟨c, q, h1, h2⟩ := round_exact (f := b64) good_b64 false (c := n) (q := (k : Int) - 1074) hn (by rw [own_qmin]; omega) (by rw [own_qmax]; omega)
  have hf := round_fits good_b64 (.fin false n ((k : Int) - 1074))
  rw [h1] at hf
  refine ⟨c, q, hf, ?_⟩
  show inUnits c q b64.qmin = _
  rw [h2]
  show n * 2 ^ ((k : Int) - 1074 - b64.qmin).toNat = _
  rw [own_qmin, show ((k : Int) - 1074 - -1074).toNat = k by omega]
theorem OwnRep.lt {w : Nat} (h : OwnRep w) : w < b64.tails * 2 ^ (b64.exps - 2) := by
  obtain ⟨c, q, h1, rfl⟩ := h
  exact zmag_lt_top good_b64 h1
theorem OwnZ.rep {a : UInt64} {z : Nat} (h : OwnZ a z) : OwnRep z := by
  obtain ⟨⟨c, q, h1⟩, h2⟩ := h
  have := val64_fits a
  rw [h1] at this h2
  exact ⟨c, q, this, h2⟩
theorem OwnZ.fin {a : UInt64} {z : Nat} (h : OwnZ a z) : DFin a := by
  obtain ⟨⟨c, q, h1⟩, h2⟩ := h
  exact ⟨_, _, _, h1⟩
theorem OwnZ.fin64 {a : UInt64} {z : Nat} (h : OwnZ a z) : Jvm.Free.Fl.Fin64 a := Jvm.Free.Fl.fin64_core.mpr h.fin
theorem OwnZ.nn {a : UInt64} {z : Nat} (h : OwnZ a z) : Jvm.Free.Fl.NoNaN64 a := h.fin64.noNaN
theorem OwnZ.zval {a : UInt64} {z : Nat} (h : OwnZ a z) : Core.zval b64 (val64 a) = (z : Int) := by
  obtain ⟨⟨c, q, h1⟩, h2⟩ := h
  rw [h1] at h2 ⊢
  show signed false _ = _
  rw [h2]
  rfl
/-- out of sign, magnitude and no NaN -/
theorem OwnZ.mk {a : UInt64} {w : Nat} (hn : val64 a ≠ .nan) (hs : sgn (val64 a) = false) (hz : zmag b64 (val64 a) = w) (hw : w < b64.tails * 2 ^ (b64.exps - 2)) : OwnZ a w := by
  refine ⟨?_, hz⟩
  cases h : val64 a with
  | nan => exact absurd h hn
  | inf s => rw [h] at hz; exact absurd hz (Nat.ne_of_gt hw)
  | fin s c q => rw [h] at hs; exact ⟨c, q, by rw [show s = false from hs]⟩
theorem OwnZ.cmp {a b : UInt64} {x y : Nat} (ha : OwnZ a x) (hb : OwnZ b y) : FP.dcmp a b = some (compare (x : Int) (y : Int)) := by
  show Core.dcmp a b = _
  rw [dcmp_zval ha.fin.ne_nan hb.fin.ne_nan, ha.zval, hb.zval]
theorem OwnZ.bits {a b : UInt64} {x : Nat} (hx : x ≠ 0) (ha : OwnZ a x) (hb : OwnZ b x) : a = b := by
  have h := ha.cmp hb
  rw [compare_self_int] at h
  refine eq_bits ?_ h
  intro hz
  have := hz.zval
  rw [hb.zval] at this
  omega
theorem own_zero : OwnZ 0 0 := by
  refine ⟨⟨0, b64.qmin, val64_zero⟩, ?_⟩
  rw [val64_zero, own_zmag_fin, Nat.zero_mul]
theorem own_oneval : val64 4607182418800017408 = .fin false (2 ^ 52) (-52) := by decide +kernel
theorem own_one : OwnZ 4607182418800017408 one64 := by
  refine ⟨⟨_, _, own_oneval⟩, ?_⟩
  rw [own_oneval, own_zmag_fin, own_qmin, show ((-52 : Int) - -1074).toNat = 1022 from rfl, ← Nat.pow_add]
  rfl
theorem own_l2d {v : Int64} (h1 : 0 ≤ v.toInt) (h2 : v.toInt ≤ 9007199254740992) : OwnZ (FP.l2d v) (v.toInt.toNat * one64) := by
  obtain ⟨c, q, hv⟩ := l2d_shape v
  rw [show decide (v.toInt < 0) = false from decide_eq_false (by omega)] at hv
  have hd : DInt v.toInt (Core.l2d v) := l2d_int (by omega)
  have hz := DInt_zval hd
  refine ⟨⟨c, q, hv⟩, ?_⟩
  have hz2 : ((zmag b64 (val64 (Core.l2d v)) : Nat) : Int) = v.toInt * (one64 : Int) := by
    rw [hv] at hz ⊢
    exact hz
  have h3 : v.toInt = ((v.toInt.toNat : Nat) : Int) := by omega
  rw [h3] at hz2
  exact_mod_cast hz2
theorem own_i2d {v : Int32} (h1 : 0 ≤ v.toInt) : OwnZ (FP.i2d v) (v.toInt.toNat * one64) := by
  have e : FP.i2d v = FP.l2d v.toInt64 := i2d_w v
  have q := v.toInt_lt
  have := own_l2d (v := v.toInt64) (by rw [c_i2l]; exact h1) (by rw [c_i2l]; omega)
  rw [c_i2l] at this
  rw [e]
  exact this
theorem own_quot2 (s t : Bool) (c d : Nat) (q r : Int) (hd : d ≠ 0) : quotient b64 (.fin s c q) (.fin t d r) = roundRatio b64 (s != t) c d (q - r) := by
  show (if d = 0 then _ else roundRatio b64 (s != t) c d (q - r)) = _
  rw [if_neg hd]
/-- the units of a quotient, against V -/
theorem own_div_core {V c d : Nat} {q r : Int} (a2 : -1074 ≤ q) (a3 : q ≤ 971) (b2 : -1074 ≤ r) (b3 : r ≤ 971) :
    (V * 2 ^ 2926 * d ≤ inUnits c (q - r) (-4000) ↔ V * (d * 2 ^ (r - -1074).toNat) ≤ c * 2 ^ (q - -1074).toNat * one64) ∧ (inUnits c (q - r) (-4000) ≤ V * 2 ^ 2926 * d ↔ c * 2 ^ (q - -1074).toNat * one64 ≤ V * (d * 2 ^ (r - -1074).toNat)) := by
  have e1 : inUnits c (q - r) (-4000) * 2 ^ (r - -1074).toNat = c * 2 ^ (q - -1074).toNat * one64 * 2 ^ 2926 := by
    show c * 2 ^ (q - r - -4000).toNat * 2 ^ (r - -1074).toNat = _
    rw [own_one64, Nat.mul_assoc, ← Nat.pow_add, Nat.mul_assoc, Nat.mul_assoc, ← Nat.pow_add, ← Nat.pow_add, show (q - r - -4000).toNat + (r - -1074).toNat = (q - -1074).toNat + (1074 + 2926) by omega]
  have e2 : V * 2 ^ 2926 * d * 2 ^ (r - -1074).toNat = V * (d * 2 ^ (r - -1074).toNat) * 2 ^ 2926 := by
    rw [Nat.mul_assoc, Nat.mul_right_comm]
  have p1 := Nat.two_pow_pos (r - -1074).toNat
  have p2 := Nat.two_pow_pos 2926
  constructor
  · constructor
    · intro h
      have := Nat.mul_le_mul_right (2 ^ (r - -1074).toNat) h
      rw [e1, e2] at this
      exact Nat.le_of_mul_le_mul_right this p2
    · intro h
      have := Nat.mul_le_mul_right (2 ^ 2926) h
      rw [← e1, ← e2] at this
      exact Nat.le_of_mul_le_mul_right this p1
  · constructor
    · intro h
      have := Nat.mul_le_mul_right (2 ^ (r - -1074).toNat) h
      rw [e1, e2] at this
      exact Nat.le_of_mul_le_mul_right this p2
    · intro h
      have := Nat.mul_le_mul_right (2 ^ 2926) h
      rw [← e1, ← e2] at this
      exact Nat.le_of_mul_le_mul_right this p1
theorem own_div_shape {a b : UInt64} {x y : Nat} (ha : OwnZ a x) (hb : OwnZ b y) (hy : y ≠ 0) : val64 (Core.ddiv a b) ≠ .nan ∧ sgn (val64 (Core.ddiv a b)) = false ∧
    (∀ V, Core.fits b64 V → zmag b64 V * y ≤ x * one64 → zmag b64 V ≤ zmag b64 (val64 (Core.ddiv a b))) ∧ (∀ V, Core.fits b64 V → V ≠ .nan → x * one64 ≤ zmag b64 V * y → zmag b64 (val64 (Core.ddiv a b)) ≤ zmag b64 V) := by
  obtain ⟨⟨c, q, ea⟩, za⟩ := ha
  obtain ⟨⟨d, r, eb⟩, zb⟩ := hb
  have fa := val64_fits a
  have fb := val64_fits b
  rw [ea] at fa za
  rw [eb] at fb zb
  rw [own_zmag_fin, own_qmin] at za zb
  obtain ⟨a1, a2, a3, -⟩ := fa
  obtain ⟨b1, b2, b3, -⟩ := fb
  rw [own_qmin] at a2 b2
  rw [own_qmax] at a3 b3
  have hd : d ≠ 0 := fun h => by rw [h, Nat.zero_mul] at zb; exact hy zb.symm
  rw [val64_ddiv, ea, eb, own_quot2 _ _ _ _ _ _ hd]
  refine ⟨roundRatio_ne_nan _ _ _ _ _, sgn_roundRatio _ _ _ _ _, fun V fV h => ?_, fun V fV nV h => ?_⟩
  · refine zmag_roundRatio_ge good_b64 (e0 := -4000) (Nat.pos_of_ne_zero hd) fV (by rw [own_qmin]; omega) (by omega) ?_
    rw [own_qmin, show ((-1074 : Int) - -4000).toNat = 2926 from rfl]
    rw [← za, ← zb] at h
    exact ((own_div_core a2 a3 b2 b3).1).mpr h
  · refine zmag_roundRatio_le good_b64 (e0 := -4000) (Nat.pos_of_ne_zero hd) fV nV (by rw [own_qmin]; omega) (by omega) ?_
    rw [own_qmin, show ((-1074 : Int) - -4000).toNat = 2926 from rfl]
    rw [← za, ← zb] at h
    exact ((own_div_core a2 a3 b2 b3).2).mpr h
/-- an exact quotient -/
theorem OwnZ.div {a b : UInt64} {x y w : Nat} (ha : OwnZ a x) (hb : OwnZ b y) (hy : y ≠ 0) (hw : OwnRep w) (h : w * y = x * one64) : OwnZ (FP.ddiv a b) w := by
  obtain ⟨h1, h2, h3, h4⟩ := own_div_shape ha hb hy
  obtain ⟨c, q, f1, f2⟩ := id hw
  refine OwnZ.mk h1 h2 (Nat.le_antisymm ?_ ?_) hw.lt
  · have := h4 _ f1 (by intro h; cases h) (by rw [f2]; omega)
    rw [f2] at this; exact this
  · have := h3 _ f1 (by rw [f2]; omega)
    rw [f2] at this; exact this
/-- a quotient up to 1 -/
theorem OwnZ.div_le {a b : UInt64} {x y : Nat} (ha : OwnZ a x) (hb : OwnZ b y) (hy : y ≠ 0) (h : x ≤ y) : ∃ w, OwnZ (FP.ddiv a b) w ∧ w ≤ one64 ∧ (x = 0 → w = 0) ∧ (x = y → w = one64) := by
  obtain ⟨h1, h2, h3, h4⟩ := own_div_shape ha hb hy
  have v1 := h4 (val64 4607182418800017408) (val64_fits _) own_one.fin.ne_nan (by rw [own_one.2, Nat.mul_comm]; exact Nat.mul_le_mul_left _ h)
  rw [own_one.2] at v1
  refine ⟨_, OwnZ.mk h1 h2 rfl (Nat.lt_of_le_of_lt v1 own_one.rep.lt), v1, fun h0 => ?_, fun h0 => ?_⟩
  · have := h4 (val64 0) (val64_fits _) own_zero.fin.ne_nan (by rw [h0, Nat.zero_mul]; exact Nat.zero_le _)
    rw [own_zero.2] at this
    exact Nat.le_zero.mp this
  · have := h3 (val64 4607182418800017408) (val64_fits _) (by rw [own_one.2, h0, Nat.mul_comm]; exact Nat.le_refl _)
    rw [own_one.2] at this
    exact Nat.le_antisymm v1 this
/-- equal ratios give equal quotients, bit for bit -/
theorem OwnZ.div_eq {a b a' b' : UInt64} {x y x' y' : Nat} (ha : OwnZ a x) (hb : OwnZ b y) (ha' : OwnZ a' x') (hb' : OwnZ b' y') (hy : y ≠ 0) (hy' : y' ≠ 0) (h : x * y' = x' * y) : FP.ddiv a b = FP.ddiv a' b' := by
  obtain ⟨⟨c, q, ea⟩, za⟩ := ha
  obtain ⟨⟨d, r, eb⟩, zb⟩ := hb
  obtain ⟨⟨c', q', ea'⟩, za'⟩ := ha'
  obtain ⟨⟨d', r', eb'⟩, zb'⟩ := hb'
  have fa := val64_fits a
  have fb := val64_fits b
  have fa' := val64_fits a'
  have fb' := val64_fits b'
  rw [ea] at fa za
  rw [eb] at fb zb
  rw [ea'] at fa' za'
  rw [eb'] at fb' zb'
  rw [own_zmag_fin, own_qmin] at za zb za' zb'
  have a2 := fa.2.1; have b2 := fb.2.1; have a2' := fa'.2.1; have b2' := fb'.2.1
  rw [own_qmin] at a2 b2 a2' b2'
  have hd : d ≠ 0 := fun h => by rw [h, Nat.zero_mul] at zb; exact hy zb.symm
  have hd' : d' ≠ 0 := fun h => by rw [h, Nat.zero_mul] at zb'; exact hy' zb'.symm
  have key : roundRatio b64 (false != false) c d (q - r) = roundRatio b64 (false != false) c' d' (q' - r') := by
    refine roundRatio_congr (Nat.pos_of_ne_zero hd) (Nat.pos_of_ne_zero hd') ?_
    obtain ⟨Q, hQ⟩ : ∃ Q : Nat, Q = (q - -1074).toNat := ⟨_, rfl⟩
    obtain ⟨R, hR⟩ : ∃ Q : Nat, Q = (r - -1074).toNat := ⟨_, rfl⟩
    obtain ⟨Q', hQ'⟩ : ∃ Q : Nat, Q = (q' - -1074).toNat := ⟨_, rfl⟩
    obtain ⟨R', hR'⟩ : ∃ Q : Nat, Q = (r' - -1074).toNat := ⟨_, rfl⟩
    rw [← za, ← zb, ← za', ← zb', ← hQ, ← hR, ← hQ', ← hR'] at h
    have e1 : c * 2 ^ Q * (d' * 2 ^ R') = c * d' * 2 ^ (Q + R') := by rw [Nat.pow_add, Nat.mul_mul_mul_comm]
    have e2 : c' * 2 ^ Q' * (d * 2 ^ R) = c' * d * 2 ^ (Q' + R) := by rw [Nat.pow_add, Nat.mul_mul_mul_comm]
    rw [e1, e2] at h
    have e3 : q - r - (q' - r') = ((Q + R' : Nat) : Int) - ((Q' + R : Nat) : Int) := by omega
    have e4 : q' - r' - (q - r) = ((Q' + R : Nat) : Int) - ((Q + R' : Nat) : Int) := by omega
    rw [e3, e4]
    rcases Nat.le_total (Q' + R) (Q + R') with g | g
    · obtain ⟨D, hD⟩ : ∃ D : Nat, Q + R' = (Q' + R) + D := ⟨_, (Nat.add_sub_of_le g).symm⟩
      rw [hD] at h ⊢
      rw [show (((Q' + R + D : Nat) : Int) - ((Q' + R : Nat) : Int)).toNat = D by omega, show (((Q' + R : Nat) : Int) - ((Q' + R + D : Nat) : Int)).toNat = 0 by omega, Nat.pow_zero, Nat.mul_one]
      rw [Nat.pow_add, Nat.mul_comm (2 ^ (Q' + R)), ← Nat.mul_assoc] at h
      exact Nat.eq_of_mul_eq_mul_right (Nat.two_pow_pos _) h
    · obtain ⟨D, hD⟩ : ∃ D : Nat, Q' + R = (Q + R') + D := ⟨_, (Nat.add_sub_of_le g).symm⟩
      rw [hD] at h ⊢
      rw [show (((Q + R' : Nat) : Int) - ((Q + R' + D : Nat) : Int)).toNat = 0 by omega, show (((Q + R' + D : Nat) : Int) - ((Q + R' : Nat) : Int)).toNat = D by omega, Nat.pow_zero, Nat.mul_one]
      rw [Nat.pow_add 2 (Q + R') D, Nat.mul_comm (2 ^ (Q + R')) (2 ^ D), ← Nat.mul_assoc] at h
      exact Nat.eq_of_mul_eq_mul_right (Nat.two_pow_pos _) h
  show Core.ddiv a b = Core.ddiv a' b'
  refine val64_inj ?_ ?_
  · rw [val64_ddiv, ea, eb, own_quot2 _ _ _ _ _ _ hd]
    exact roundRatio_ne_nan _ _ _ _ _
  · rw [val64_ddiv, ea, eb, own_quot2 _ _ _ _ _ _ hd, val64_ddiv, ea', eb', own_quot2 _ _ _ _ _ _ hd', key]
theorem own_mul_shape {a b : UInt64} {x y : Nat} (ha : OwnZ a x) (hb : OwnZ b y) : val64 (Core.dmul a b) ≠ .nan ∧ sgn (val64 (Core.dmul a b)) = false ∧
    (∀ V, Core.fits b64 V → zmag b64 V * one64 ≤ x * y → zmag b64 V ≤ zmag b64 (val64 (Core.dmul a b))) ∧ (∀ V, Core.fits b64 V → V ≠ .nan → x * y ≤ zmag b64 V * one64 → zmag b64 (val64 (Core.dmul a b)) ≤ zmag b64 V) := by
  obtain ⟨⟨c, q, ea⟩, za⟩ := ha
  obtain ⟨⟨d, r, eb⟩, zb⟩ := hb
  have fa := val64_fits a
  have fb := val64_fits b
  rw [ea] at fa za
  rw [eb] at fb zb
  obtain ⟨e1, e2, e3⟩ := product_units fa fb
  rw [za, zb] at e3
  rw [val64_dmul, ea, eb, e1]
  refine ⟨roundRatio_ne_nan _ _ _ _ _, sgn_roundRatio _ _ _ _ _, fun V fV h => ?_, fun V fV nV h => ?_⟩
  · refine zmag_roundRatio_ge good_b64 (e0 := 2 * b64.qmin) (by decide) fV (by rw [own_qmin]; omega) e2 ?_
    rw [e3, Nat.mul_one, own_qmin]
    exact h
  · refine zmag_roundRatio_le good_b64 (e0 := 2 * b64.qmin) (by decide) fV nV (by rw [own_qmin]; omega) e2 ?_
    rw [e3, Nat.mul_one, own_qmin]
    exact h
/-- an exact product -/
theorem OwnZ.mul {a b : UInt64} {x y w : Nat} (ha : OwnZ a x) (hb : OwnZ b y) (hw : OwnRep w) (h : x * y = w * one64) : OwnZ (FP.dmul a b) w := by
  obtain ⟨h1, h2, h3, h4⟩ := own_mul_shape ha hb
  obtain ⟨c, q, f1, f2⟩ := id hw
  refine OwnZ.mk h1 h2 (Nat.le_antisymm ?_ ?_) hw.lt
  · have := h4 _ f1 (by intro h; cases h) (by rw [f2]; omega)
    rw [f2] at this; exact this
  · have := h3 _ f1 (by rw [f2]; omega)
    rw [f2] at this; exact this
theorem own_sum_sgn (c d : Nat) (q r : Int) : sgn (round b64 (exactSum (.fin false c q) (.fin false d r))) = false := by
  show sgn (roundRatio b64 (sumSign false false (sumUnits false c q false d r (min q r))) _ 1 _) = false
  rw [sgn_roundRatio]
  have : ¬ sumUnits false c q false d r (min q r) < 0 := by
    show ¬ ((inUnits c q (min q r) : Nat) : Int) + ((inUnits d r (min q r) : Nat) : Int) < 0
    omega
  show (if _ = 0 then _ else decide _) = false
  split
  · rfl
  · exact decide_eq_false this
/-- an exact sum -/
theorem OwnZ.add {a b : UInt64} {x y : Nat} (ha : OwnZ a x) (hb : OwnZ b y) (hw : OwnRep (x + y)) : OwnZ (FP.dadd a b) (x + y) := by
  obtain ⟨c, q, f1, f2⟩ := id hw
  have hle := sum_le good_b64 (x := val64 a) (y := val64 b) (V := .fin false c q) ha.fin hb.fin (val64_fits a) (val64_fits b) f1 (by intro h; cases h) (by
    rw [ha.zval, hb.zval]
    show _ ≤ signed false (zmag b64 (.fin false c q))
    rw [f2]
    show _ ≤ ((x + y : Nat) : Int)
    omega)
  have hge := sum_ge good_b64 (x := val64 a) (y := val64 b) (V := .fin false c q) ha.fin hb.fin (val64_fits a) (val64_fits b) f1 (by intro h; cases h) (by
    rw [ha.zval, hb.zval]
    show signed false (zmag b64 (.fin false c q)) ≤ _
    rw [f2]
    show ((x + y : Nat) : Int) ≤ _
    omega)
  have hs : sgn (val64 (Core.dadd a b)) = false := by
    obtain ⟨⟨c1, q1, e1⟩, -⟩ := ha
    obtain ⟨⟨c2, q2, e2⟩, -⟩ := hb
    rw [val64_dadd, e1, e2]
    exact own_sum_sgn _ _ _ _
  have hn : val64 (Core.dadd a b) ≠ .nan := (notNaN_iff _).mp (Core.dadd_out ha.fin.notNaN hb.fin)
  rw [← val64_dadd] at hle hge
  have hz : Core.zval b64 (val64 (Core.dadd a b)) = ((x + y : Nat) : Int) := by
    have e : Core.zval b64 (.fin false c q) = ((x + y : Nat) : Int) := by
      show signed false (zmag b64 (.fin false c q)) = _
      rw [f2]; rfl
    rw [e] at hle hge
    omega
  refine OwnZ.mk hn hs ?_ hw.lt
  have e5 : Core.zval b64 (val64 (Core.dadd a b)) = signed (sgn (val64 (Core.dadd a b))) (zmag b64 (val64 (Core.dadd a b))) := rfl
  rw [hs] at e5
  have e6 : ((zmag b64 (val64 (Core.dadd a b)) : Nat) : Int) = ((x + y : Nat) : Int) := by rw [← hz, e5]; rfl
  exact_mod_cast e6
end OwnPos
section OwnArr
theorem own_natne {a b : Nat} (q : a ≠ b) : a ≠ b := q
theorem own_natlt {a b : Nat} (q : a < b) : a < b := q
theorem own_natle {a b : Nat} (q : a ≤ b) : a ≤ b := q
variable {Z : State} {h h' h0 : Heap} {a b : Addr} {ty : FieldType} {n : Nat} {f : Nat → Value} {c : Cell}
/-- an array of ty with n places, the i-th of which holds f i -/
def OwnA (Z : State) (h : Heap) (a : Addr) (ty : FieldType) (n : Nat) (f : Nat → Value) : Prop := ∃ c : Cell, Arr Z h a c ty ∧ c.slots.size = n ∧ ∀ i, i < n → c.slots[i]? = some (f i)
theorem own_in {j : Int32} (hj : ¬ j < 0 ∧ j.toNatClampNeg < n) (S : c.slots.size = n) : ¬ (j < 0 ∨ c.slots.size ≤ j.toNatClampNeg) := fun q => q.elim hj.1 fun q => by rw [S] at q; exact absurd hj.2 (Nat.not_lt.mpr q)
theorem OwnA.lt (F : OwnA Z h a ty n f) : a < h.size := by obtain ⟨c, A, -⟩ := F; exact A.lt
theorem OwnA.ext (F : OwnA Z h a ty n f) (E : Ext h h') : OwnA Z h' a ty n f := by obtain ⟨c, A, r⟩ := F; exact ⟨c, A.ext E, r⟩
theorem OwnA.other {sl : Nat} {v : Value} (F : OwnA Z h a ty n f) (W : Wr h h' b sl v) (q : a ≠ b) : OwnA Z h' a ty n f := by obtain ⟨c, A, r⟩ := F; exact ⟨c, A.other W q, r⟩
theorem OwnA.keep {ws : List Addr} (F : OwnA Z h a ty n f) (K : Keep h h' ws) (q : a ∉ ws) : OwnA Z h' a ty n f := by obtain ⟨c, A, r⟩ := F; exact ⟨c, ⟨K.2.1 a c A.1 q, A.2⟩, r⟩
theorem OwnA.new {k : ClassId} {z : Int32} (A : Arr Z h a (newA k ty z) ty) (e : z.toNatClampNeg = n) : OwnA Z h a ty n (fun _ => defaultValue ty) := by
  refine ⟨_, A, (sz_new _ _ _).trans e, fun i hi => ?_⟩
  show (Array.replicate z.toNatClampNeg (defaultValue ty))[i]? = _
  rw [Array.getElem?_replicate, e, if_pos hi]
theorem OwnA.set {j : Nat} {v : Value} (F : OwnA Z h a ty n f) (W : Wr h h' a j v) : OwnA Z h' a ty n (fun i => if i = j then v else f i) := by
  obtain ⟨c, A, S, V⟩ := F
  refine ⟨_, A.same W, by show (c.slots.setIfInBounds j v).size = n; rw [Array.size_setIfInBounds, S], fun i hi => ?_⟩
  show (c.slots.setIfInBounds j v)[i]? = _
  by_cases q : i = j
  · subst q
    rw [Array.getElem?_setIfInBounds_self_of_lt (by rw [S]; exact hi)]
    show some v = some (if i = i then v else f i)
    rw [if_pos rfl]
  · rw [Array.getElem?_setIfInBounds_ne (Ne.symm q)]
    show _ = some (if i = j then v else f i)
    rw [if_neg q]
    exact V i hi
theorem OwnA.congr {g : Nat → Value} (F : OwnA Z h a ty n f) (q : ∀ i, i < n → f i = g i) : OwnA Z h a ty n g := by
  obtain ⟨c, A, S, V⟩ := F
  exact ⟨c, A, S, fun i hi => by rw [V i hi, q i hi]⟩
theorem own_ne {C : String} {k : Nat} {a0 : Array Value} (E : Exa Z h a C) (w : (Cond.instantiable C k).before a0 Z = true) (F : OwnA Z h b ty n f) : a ≠ b := by obtain ⟨c, A, -⟩ := F; exact ne_arr E w A
theorem own_nin1 {x y : Addr} (q : x ≠ y) : x ∉ [y] := fun w => q (List.mem_singleton.mp w)
theorem own_nin2 {x y z : Addr} (q : x ≠ y) (r : x ≠ z) : x ∉ [y, z] := fun w => by
  rcases List.mem_cons.mp w with w | w
  · exact q w
  · exact r (List.mem_singleton.mp w)
end OwnArr
section OwnXo
/-- makes the kernel reckon n before it goes on -/
def own_force {α : Type} (n : Nat) (f : Nat → α) : α := match n with
  | 0 => f 0
  | k + 1 => f (k + 1)
theorem own_force_eq {α : Type} (n : Nat) (f : Nat → α) : own_force n f = f n := by cases n <;> rfl
/-! pigeons -/
theorem own_php : ∀ (n : Nat) (f : Nat → Nat), (∀ i, i ≤ n → f i < n) → ∃ i j, i < j ∧ j ≤ n ∧ f i = f j := by
  intro n
  induction n with
  | zero => intro f h; exact absurd (h 0 (Nat.le_refl _)) (Nat.not_lt_zero _)
  | succ n ih =>
    intro f h
    by_cases hx : ∃ i, i ≤ n ∧ f i = f (n + 1)
    · obtain ⟨i, h1, h2⟩ := hx
      exact ⟨i, n + 1, by omega, Nat.le_refl _, h2⟩
    · have hne : ∀ i, i ≤ n → f i ≠ f (n + 1) := fun i hi e => hx ⟨i, hi, e⟩
      have hc := h (n + 1) (Nat.le_refl _)
      obtain ⟨i, j, h1, h2, h3⟩ := ih (fun i => if f i < f (n + 1) then f i else f i - 1) (fun i hi => by
        have a1 := h i (by omega)
        have a2 := hne i hi
        show (if f i < f (n + 1) then f i else f i - 1) < n
        split <;> omega)
      refine ⟨i, j, h1, by omega, ?_⟩
      have b1 := hne i (by omega)
      have b2 := hne j (by omega)
      have h3 : (if f i < f (n + 1) then f i else f i - 1) = (if f j < f (n + 1) then f j else f j - 1) := h3
      split at h3 <;> split at h3 <;> omega
/-! a set of numbers closed under differences holds the greatest common measures -/
theorem own_modE {E : Nat → Prop} (hs : ∀ a b, E a → E b → b ≤ a → E (a - b)) {b : Nat} (hb : E b) (h0 : 0 < b) : ∀ (n a : Nat), a ≤ n → E a → E (a % b) := by
  intro n
  induction n with
  | zero => intro a h1 h2; rw [show a = 0 by omega] at h2 ⊢; rw [Nat.zero_mod]; exact h2
  | succ n ih =>
    intro a h1 h2
    by_cases h : a < b
    · rw [Nat.mod_eq_of_lt h]; exact h2
    · rw [Nat.mod_eq_sub_mod (by omega)]
      exact ih (a - b) (by omega) (hs a b h2 hb (by omega))
theorem own_gcdE {E : Nat → Prop} (hs : ∀ a b, E a → E b → b ≤ a → E (a - b)) : ∀ (a b : Nat), E a → E b → E (Nat.gcd a b) := by
  intro a
  induction a using Nat.strongRecOn with
  | ind a ih =>
    intro b ha hb
    by_cases h : a = 0
    · subst h; rw [Nat.gcd_zero_left]; exact hb
    · rw [Nat.gcd_rec]
      exact ih (b % a) (Nat.mod_lt _ (Nat.pos_of_ne_zero h)) a (own_modE hs ha (Nat.pos_of_ne_zero h) b b (Nat.le_refl _) hb) ha
/-! primes -/
def OwnPr (p : Nat) : Prop := 2 ≤ p ∧ ∀ m, m ∣ p → m = 1 ∨ m = p
theorem own_td {p B : Nat} (h2 : 2 ≤ p) (hB : p < B * B) (h : ∀ m, m < B → 2 ≤ m → p % m ≠ 0) : OwnPr p := by
  refine ⟨h2, fun m hm => ?_⟩
  obtain ⟨k, hk⟩ := hm
  by_cases h1 : m = 1
  · exact Or.inl h1
  · by_cases h3 : k = 1
    · right; rw [hk, h3, Nat.mul_one]
    · exfalso
      have m0 : m ≠ 0 := fun q => by rw [q, Nat.zero_mul] at hk; omega
      have k0 : k ≠ 0 := fun q => by rw [q, Nat.mul_zero] at hk; omega
      by_cases hm : m < B
      · exact h m hm (by omega) (by rw [hk]; exact Nat.mul_mod_right _ _)
      · by_cases hkB : k < B
        · exact h k hkB (by omega) (by rw [hk]; exact Nat.mul_mod_left _ _)
        · have := Nat.mul_le_mul (Nat.not_lt.mp hm) (Nat.not_lt.mp hkB)
          omega
def own_ck (p lo : Nat) : Nat → Bool
  | 0 => true
  | n + 1 => (decide (lo + n < 2) || !(p % (lo + n) == 0)) && own_ck p lo n
theorem own_ck_of {p lo : Nat} : ∀ n, own_ck p lo n = true → ∀ m, lo ≤ m → m < lo + n → 2 ≤ m → p % m ≠ 0
  | 0, _, m, h1, h2, _ => absurd h2 (by omega)
  | n + 1, h, m, h1, h2, h3 => by
    have h : ((decide (lo + n < 2) || !(p % (lo + n) == 0)) && own_ck p lo n) = true := h
    rw [Bool.and_eq_true, Bool.or_eq_true] at h
    by_cases q : m = lo + n
    · rcases h.1 with g | g
      · have := of_decide_eq_true g; omega
      · rw [q]; intro z; rw [z] at g; exact absurd g (by decide)
    · exact own_ck_of n h.2 m h1 (by omega) h3
def own_ck2 (p : Nat) : Nat → Bool
  | 0 => true
  | n + 1 => own_ck p (100 * n) 100 && own_ck2 p n
theorem own_ck2_of {p : Nat} : ∀ n, own_ck2 p n = true → ∀ m, m < 100 * n → 2 ≤ m → p % m ≠ 0
  | 0, _, m, h1, _ => absurd h1 (by omega)
  | n + 1, h, m, h1, h2 => by
    have h : (own_ck p (100 * n) 100 && own_ck2 p n) = true := h
    rw [Bool.and_eq_true] at h
    by_cases q : 100 * n ≤ m
    · exact own_ck_of 100 h.1 m q (by omega) h2
    · exact own_ck2_of n h.2 m (by omega) h2
theorem own_td2 {p n : Nat} (h2 : 2 ≤ p) (hB : p < (100 * n) * (100 * n)) (h : own_ck2 p n = true) : OwnPr p := own_td h2 hB (own_ck2_of n h)
theorem own_cop {q d : Nat} (hq : OwnPr q) (h : ¬ q ∣ d) : Nat.Coprime d q := by
  rcases hq.2 (Nat.gcd d q) (Nat.gcd_dvd_right d q) with e | e
  · exact e
  · exact absurd (e ▸ Nat.gcd_dvd_left d q) h
theorem own_gauss {q d K : Nat} (hq : OwnPr q) (h : ¬ q ∣ d) (hd : d ∣ q * K) : d ∣ K := Nat.Coprime.dvd_of_dvd_mul_left (own_cop hq h) hd
theorem own_cop2 {q D d : Nat} (hq : OwnPr q) (h : ¬ q ∣ D) (h1 : D ∣ d) (h2 : q ∣ d) : D * q ∣ d := Nat.Coprime.mul_dvd_of_dvd_of_dvd (own_cop hq h) h1 h2
def own_pm : Nat → Nat → Nat → Nat → Nat
  | 0, _, _, N => 1 % N
  | n + 1, a, e, N => own_force (own_pm n a (e / 2) N) fun h => if e % 2 = 1 then (h * h % N) * a % N else h * h % N
theorem own_pm_eq (a N : Nat) : ∀ (n e : Nat), e < 2 ^ n → own_pm n a e N = a ^ e % N := by
  intro n
  induction n with
  | zero => intro e h; rw [show e = 0 by omega]; rfl
  | succ n ih =>
    intro e h
    show own_force (own_pm n a (e / 2) N) _ = _
    rw [own_force_eq, ih (e / 2) (by rw [Nat.pow_succ] at h; omega)]
    have e1 : a ^ (e / 2) % N * (a ^ (e / 2) % N) % N = a ^ (e / 2 + e / 2) % N := by rw [← Nat.mul_mod, Nat.pow_add]
    show (if e % 2 = 1 then (a ^ (e / 2) % N * (a ^ (e / 2) % N) % N) * a % N else a ^ (e / 2) % N * (a ^ (e / 2) % N) % N) = _
    rw [e1]
    split
    · rename_i h1
      rw [Nat.mod_mul_mod, ← Nat.pow_succ]
      congr 2
      omega
    · congr 2
      omega
theorem own_pow_sub {a r : Nat} (hr : 1 < r) : ∀ x y, a ^ x % r = 1 → a ^ y % r = 1 → y ≤ x → a ^ (x - y) % r = 1 := by
  intro x y hx hy h
  have e : a ^ x = a ^ (x - y) * a ^ y := by rw [← Nat.pow_add, Nat.sub_add_cancel h]
  rw [e, Nat.mul_mod, hy, Nat.mul_one, Nat.mod_mod] at hx
  exact hx
/-- of a divisor r of N: some d below r with a^d = 1 modulo r, that divides N - 1, and that each q measures -/
theorem own_pk_core {N a r : Nat} (hr : 1 < r) (hrN : r ∣ N) (hN : a ^ (N - 1) % N = 1) (hN1 : 1 < N) : ∃ d, 0 < d ∧ d < r ∧ d ∣ N - 1 ∧ a ^ d % r = 1 := by
  have h1 : a ^ (N - 1) % r = 1 := by
    rw [← Nat.mod_mod_of_dvd _ hrN, hN, Nat.mod_eq_of_lt hr]
  have hnz : ∀ i, i ≤ N - 1 → a ^ i % r ≠ 0 := by
    intro i hi h0
    have e : a ^ (N - 1) = a ^ (N - 1 - i) * a ^ i := by rw [← Nat.pow_add, Nat.sub_add_cancel hi]
    rw [e, Nat.mul_mod, h0, Nat.mul_zero, Nat.zero_mod] at h1
    omega
  have hrle : r ≤ N := Nat.le_of_dvd (by omega) hrN
  obtain ⟨i, j, q1, q2, q3⟩ := own_php (r - 1) (fun i => a ^ i % r - 1) (fun i hi => by
    have := hnz i (by omega)
    have := Nat.mod_lt (a ^ i) (show 0 < r by omega)
    show a ^ i % r - 1 < r - 1
    omega)
  have q3 : a ^ i % r - 1 = a ^ j % r - 1 := q3
  have q4 : a ^ i % r = a ^ j % r := by
    have := hnz i (by omega)
    have := hnz j (by omega)
    omega
  -- times what is missing up to N - 1
  have hk : a ^ (j - i) % r = 1 := by
    have e1 : a ^ (N - 1 - i + j) % r = 1 := by
      rw [Nat.pow_add, Nat.mul_mod, ← q4, ← Nat.mul_mod, ← Nat.pow_add, Nat.sub_add_cancel (by omega)]
      exact h1
    have := own_pow_sub hr _ _ e1 h1 (by omega)
    rw [show N - 1 - i + j - (N - 1) = j - i by omega] at this
    exact this
  have hg := own_gcdE (E := fun k => a ^ k % r = 1) (fun x y hx hy h => own_pow_sub hr x y hx hy h) (j - i) (N - 1) hk h1
  refine ⟨Nat.gcd (j - i) (N - 1), Nat.gcd_pos_of_pos_left _ (by omega), ?_, Nat.gcd_dvd_right _ _, hg⟩
  have := Nat.le_of_dvd (show 0 < j - i by omega) (Nat.gcd_dvd_left (j - i) (N - 1))
  omega
theorem own_pk_q {N a r d q K u : Nat} (hr : 1 < r) (hrN : r ∣ N) (hq : OwnPr q) (hK : N - 1 = q * K) (hd : d ∣ N - 1) (h : a ^ d % r = 1) (hu : u * (a ^ K % N - 1) % N = 1) : q ∣ d := by
  by_cases h1 : q ∣ d
  · exact h1
  · exfalso
    rw [hK] at hd
    obtain ⟨w, hw⟩ := own_gauss hq h1 hd
    have e1 : a ^ K % r = 1 := by
      rw [hw, Nat.pow_mul, Nat.pow_mod, h, Nat.one_pow, Nat.mod_eq_of_lt hr]
    have e2 : a ^ K % N % r = 1 := by rw [Nat.mod_mod_of_dvd _ hrN]; exact e1
    have e3 : (a ^ K % N - 1) % r = 0 := by
      have := Nat.div_add_mod (a ^ K % N) r
      rw [e2] at this
      rw [show a ^ K % N - 1 = r * (a ^ K % N / r) by omega]
      exact Nat.mul_mod_right _ _
    have e4 : u * (a ^ K % N - 1) % N % r = 0 := by
      rw [Nat.mod_mod_of_dvd _ hrN, Nat.mul_mod, e3, Nat.mul_zero, Nat.zero_mod]
    rw [hu, Nat.mod_eq_of_lt hr] at e4
    omega
theorem own_pk_end {N : Nat} (h2 : 2 ≤ N) (h : ∀ r, 1 < r → r ∣ N → N < r * r) : OwnPr N := by
  refine ⟨h2, fun m hm => ?_⟩
  obtain ⟨k, hk⟩ := id hm
  by_cases h1 : m = 1
  · exact Or.inl h1
  · by_cases h3 : k = 1
    · right; rw [hk, h3, Nat.mul_one]
    · exfalso
      have m0 : m ≠ 0 := fun q => by rw [q, Nat.zero_mul] at hk; omega
      have k0 : k ≠ 0 := fun q => by rw [q, Nat.mul_zero] at hk; omega
      have a1 := h m (by omega) hm
      have a2 := h k (by omega) ⟨m, by rw [hk, Nat.mul_comm]⟩
      rcases Nat.le_total m k with q | q
      · have := Nat.mul_le_mul_left m q
        omega
      · have := Nat.mul_le_mul_right k q
        omega
theorem own_pk1 {N a q K u n : Nat} (h2 : 2 ≤ N) (hq : OwnPr q) (hK : N - 1 = q * K) (hF : N ≤ q * q) (hn : N - 1 < 2 ^ n) (c1 : own_pm n a (N - 1) N = 1) (c2 : u * (own_pm n a K N - 1) % N = 1) : OwnPr N := by
  have q0 := hq.1
  have hKn : K < 2 ^ n := Nat.lt_of_le_of_lt (by rw [hK]; exact Nat.le_mul_of_pos_left _ (by omega)) hn
  rw [own_pm_eq a N n _ hn] at c1
  rw [own_pm_eq a N n _ hKn] at c2
  refine own_pk_end h2 fun r hr hrN => ?_
  obtain ⟨d, d1, d2, d3, d4⟩ := own_pk_core hr hrN c1 (by omega)
  have hqd := Nat.le_of_dvd d1 (own_pk_q hr hrN hq hK d3 d4 c2)
  have : q * q < r * r := Nat.mul_lt_mul_of_lt_of_lt (by omega) (by omega)
  omega
theorem own_pk2 {N a q K u q' K' u' n : Nat} (h2 : 2 ≤ N) (hq : OwnPr q) (hq' : OwnPr q') (hne : ¬ q' ∣ q) (hK : N - 1 = q * K) (hK' : N - 1 = q' * K') (hF : N ≤ (q * q') * (q * q')) (hn : N - 1 < 2 ^ n) (c1 : own_pm n a (N - 1) N = 1) (c2 : u * (own_pm n a K N - 1) % N = 1) (c3 : u' * (own_pm n a K' N - 1) % N = 1) : OwnPr N := by
  have q0 := hq.1
  have q0' := hq'.1
  have hKn : K < 2 ^ n := Nat.lt_of_le_of_lt (by rw [hK]; exact Nat.le_mul_of_pos_left _ (by omega)) hn
  have hKn' : K' < 2 ^ n := Nat.lt_of_le_of_lt (by rw [hK']; exact Nat.le_mul_of_pos_left _ (by omega)) hn
  rw [own_pm_eq a N n _ hn] at c1
  rw [own_pm_eq a N n _ hKn] at c2
  rw [own_pm_eq a N n _ hKn'] at c3
  refine own_pk_end h2 fun r hr hrN => ?_
  obtain ⟨d, d1, d2, d3, d4⟩ := own_pk_core hr hrN c1 (by omega)
  have hqd := Nat.le_of_dvd d1 (own_cop2 hq' hne (own_pk_q hr hrN hq hK d3 d4 c2) (own_pk_q hr hrN hq' hK' d3 d4 c3))
  have : (q * q') * (q * q') < r * r := Nat.mul_lt_mul_of_lt_of_lt (by omega) (by omega)
  omega
theorem own_pr_65537 : OwnPr 65537 := own_td (B := 257) (by decide) (by decide) (by decide +kernel)
theorem own_pr_274177 : OwnPr 274177 := own_td (B := 524) (by decide) (by decide) (by decide +kernel)
theorem own_pr_6700417 : OwnPr 6700417 := own_td2 (n := 26) (by decide) (by decide) (by decide +kernel)
theorem own_pr_2998279 : OwnPr 2998279 := own_td2 (n := 18) (by decide) (by decide) (by decide +kernel)
theorem own_pr_373 : OwnPr 373 := own_td (B := 20) (by decide) (by decide) (by decide +kernel)
theorem own_pr_67280421310721 : OwnPr 67280421310721 := own_pk2 (N := 67280421310721) (a := 3) (q := 2998279) (K := 22439680) (u := 47000331560307) (q' := 373) (K' := 180376464640) (u' := 20076373578344) (n := 46) (by decide) own_pr_2998279 own_pr_373 (by decide) (by decide) (by decide) (by decide) (by decide) (by decide +kernel) (by decide +kernel) (by decide +kernel)
theorem own_pr_1896229 : OwnPr 1896229 := own_td2 (n := 14) (by decide) (by decide) (by decide +kernel)
theorem own_pr_18533742247 : OwnPr 18533742247 := own_pk1 (N := 18533742247) (a := 2) (q := 1896229) (K := 9774) (u := 4089453537) (n := 35) (by decide) own_pr_1896229 (by decide) (by decide) (by decide) (by decide +kernel) (by decide +kernel)
theorem own_pr_116503103764643 : OwnPr 116503103764643 := own_pk1 (N := 116503103764643) (a := 2) (q := 18533742247) (K := 6286) (u := 32373520400191) (n := 47) (by decide) own_pr_18533742247 (by decide) (by decide) (by decide) (by decide +kernel) (by decide +kernel)
theorem own_pr_59649589127497217 : OwnPr 59649589127497217 := own_pk1 (N := 59649589127497217) (a := 3) (q := 116503103764643) (K := 512) (u := 43743525867542222) (n := 56) (by decide) own_pr_116503103764643 (by decide) (by decide) (by decide) (by decide +kernel) (by decide +kernel)
theorem own_pr_55515497 : OwnPr 55515497 := own_td2 (n := 75) (by decide) (by decide) (by decide +kernel)
theorem own_pr_733803839347 : OwnPr 733803839347 := own_pk1 (N := 733803839347) (a := 2) (q := 55515497) (K := 13218) (u := 342549598686) (n := 40) (by decide) own_pr_55515497 (by decide) (by decide) (by decide) (by decide +kernel) (by decide +kernel)
theorem own_pr_5704689200685129054721 : OwnPr 5704689200685129054721 := own_pk1 (N := 5704689200685129054721) (a := 3) (q := 733803839347) (K := 7774133760) (u := 1876121716088729075318) (n := 73) (by decide) own_pr_733803839347 (by decide) (by decide) (by decide) (by decide +kernel) (by decide +kernel)
/-! the engine, on one number of 256 binary digits -/
def own_w (v k : Nat) : Nat := (v >>> k) % 18446744073709551616
def own_rot45 (x : Nat) : Nat := ((x <<< 45) % 18446744073709551616) ^^^ (x >>> 19)
def own_T (v : Nat) : Nat :=
  (own_w v 0 ^^^ own_w v 64 ^^^ own_w v 192) ^^^ ((own_w v 0 ^^^ own_w v 64 ^^^ own_w v 128) <<< 64) ^^^ ((own_w v 0 ^^^ own_w v 128 ^^^ ((own_w v 64 <<< 17) % 18446744073709551616)) <<< 128) ^^^ (own_rot45 (own_w v 64 ^^^ own_w v 192) <<< 192)
theorem own_p64 : (18446744073709551616 : Nat) = 2 ^ 64 := by decide
theorem own_w_xor (u v k : Nat) : own_w (u ^^^ v) k = own_w u k ^^^ own_w v k := by
  unfold own_w
  rw [own_p64, Nat.shiftRight_xor_distrib, Nat.xor_mod_two_pow]
theorem own_w_lt (v k : Nat) : own_w v k < 2 ^ 64 := Nat.mod_lt _ (by decide)
theorem own_sl_xor (u v : Nat) : ((u ^^^ v) <<< 17) % 18446744073709551616 = ((u <<< 17) % 18446744073709551616) ^^^ ((v <<< 17) % 18446744073709551616) := by
  rw [own_p64, Nat.shiftLeft_xor_distrib, Nat.xor_mod_two_pow]
theorem own_x4 (a b c d : Nat) : (a ^^^ b) ^^^ (c ^^^ d) = (a ^^^ c) ^^^ (b ^^^ d) := by ac_rfl
theorem own_x12 (a0 b0 a1 b1 a3 b3 s1 s2 s3 s4 s5 s6 : Nat) : ((((((a0 ^^^ b0) ^^^ (a1 ^^^ b1)) ^^^ (a3 ^^^ b3)) ^^^ (s1 ^^^ s2)) ^^^ (s3 ^^^ s4)) ^^^ (s5 ^^^ s6)) = (((((a0 ^^^ a1) ^^^ a3) ^^^ s1) ^^^ s3) ^^^ s5) ^^^ (((((b0 ^^^ b1) ^^^ b3) ^^^ s2) ^^^ s4) ^^^ s6) := by
  rw [own_x4 a0 b0 a1 b1, own_x4 (a0 ^^^ a1) (b0 ^^^ b1) a3 b3, own_x4 (a0 ^^^ a1 ^^^ a3) (b0 ^^^ b1 ^^^ b3) s1 s2, own_x4 (a0 ^^^ a1 ^^^ a3 ^^^ s1) (b0 ^^^ b1 ^^^ b3 ^^^ s2) s3 s4, own_x4 (a0 ^^^ a1 ^^^ a3 ^^^ s1 ^^^ s3) (b0 ^^^ b1 ^^^ b3 ^^^ s2 ^^^ s4) s5 s6]
theorem own_rot_xor (u v : Nat) : own_rot45 (u ^^^ v) = own_rot45 u ^^^ own_rot45 v := by
  unfold own_rot45
  rw [own_p64, Nat.shiftLeft_xor_distrib, Nat.xor_mod_two_pow, Nat.shiftRight_xor_distrib]
  exact own_x4 _ _ _ _
theorem own_T_xor (u v : Nat) : own_T (u ^^^ v) = own_T u ^^^ own_T v := by
  unfold own_T
  rw [own_w_xor, own_w_xor, own_w_xor, own_w_xor, own_sl_xor]
  rw [show (own_w u 64 ^^^ own_w v 64) ^^^ (own_w u 192 ^^^ own_w v 192) = (own_w u 64 ^^^ own_w u 192) ^^^ (own_w v 64 ^^^ own_w v 192) by ac_rfl, own_rot_xor]
  rw [show (own_w u 0 ^^^ own_w v 0) ^^^ (own_w u 64 ^^^ own_w v 64) ^^^ (own_w u 128 ^^^ own_w v 128) = (own_w u 0 ^^^ own_w u 64 ^^^ own_w u 128) ^^^ (own_w v 0 ^^^ own_w v 64 ^^^ own_w v 128) by ac_rfl]
  generalize hx : (own_w u 64 <<< 17) % 18446744073709551616 = x
  generalize hy : (own_w v 64 <<< 17) % 18446744073709551616 = y
  rw [show (own_w u 0 ^^^ own_w v 0) ^^^ (own_w u 128 ^^^ own_w v 128) ^^^ (x ^^^ y) = (own_w u 0 ^^^ own_w u 128 ^^^ x) ^^^ (own_w v 0 ^^^ own_w v 128 ^^^ y) by ac_rfl]
  generalize own_w u 0 ^^^ own_w u 64 ^^^ own_w u 128 = c1
  generalize own_w v 0 ^^^ own_w v 64 ^^^ own_w v 128 = c2
  generalize own_w u 0 ^^^ own_w u 128 ^^^ x = c3
  generalize own_w v 0 ^^^ own_w v 128 ^^^ y = c4
  generalize own_rot45 (own_w u 64 ^^^ own_w u 192) = c5
  generalize own_rot45 (own_w v 64 ^^^ own_w v 192) = c6
  rw [Nat.shiftLeft_xor_distrib, Nat.shiftLeft_xor_distrib, Nat.shiftLeft_xor_distrib]
  exact own_x12 _ _ _ _ _ _ _ _ _ _ _ _
theorem own_T_zero : own_T 0 = 0 := by decide
def own_act : Nat → Nat → Nat → Nat
  | 0, _, _ => 0
  | n + 1, A, v => own_force v fun v => (if A % 2 = 1 then v else 0) ^^^ own_act n (A / 2) (own_T v)
theorem own_act_succ (n A v : Nat) : own_act (n + 1) A v = (if A % 2 = 1 then v else 0) ^^^ own_act n (A / 2) (own_T v) := own_force_eq v _
theorem own_act_v (n : Nat) : ∀ (A u v : Nat), own_act n A (u ^^^ v) = own_act n A u ^^^ own_act n A v := by
  induction n with
  | zero => intro A u v; show 0 = 0 ^^^ 0; rw [Nat.xor_self]
  | succ n ih =>
    intro A u v
    rw [own_act_succ, own_act_succ, own_act_succ, own_T_xor, ih]
    split
    · ac_rfl
    · rw [Nat.zero_xor, Nat.zero_xor, Nat.zero_xor]
theorem own_act_v0 (n : Nat) : ∀ A, own_act n A 0 = 0 := by
  induction n with
  | zero => intro A; rfl
  | succ n ih =>
    intro A
    rw [own_act_succ, own_T_zero, ih]
    split <;> rfl
theorem own_act_T (n : Nat) : ∀ (A v : Nat), own_act n A (own_T v) = own_T (own_act n A v) := by
  induction n with
  | zero => intro A v; exact own_T_zero.symm
  | succ n ih =>
    intro A v
    rw [own_act_succ, own_act_succ, own_T_xor, ih]
    split
    · rfl
    · rw [own_T_zero]
theorem own_act_A0 (n : Nat) : ∀ v, own_act n 0 v = 0 := by
  induction n with
  | zero => intro v; rfl
  | succ n ih => intro v; rw [own_act_succ, Nat.zero_div, ih, Nat.xor_zero]; rfl
theorem own_act_A (n : Nat) : ∀ (A B v : Nat), own_act n (A ^^^ B) v = own_act n A v ^^^ own_act n B v := by
  induction n with
  | zero => intro A B v; show 0 = 0 ^^^ 0; rw [Nat.xor_self]
  | succ n ih =>
    intro A B v
    rw [own_act_succ, own_act_succ, own_act_succ, Nat.xor_div_two, ih]
    have hx : (A ^^^ B) % 2 = (A % 2 + B % 2) % 2 := by
      have h := @Nat.xor_mod_two_pow A B 1
      rw [Nat.pow_one] at h
      rw [h]
      rcases Nat.mod_two_eq_zero_or_one A with a | a <;> rcases Nat.mod_two_eq_zero_or_one B with b | b <;> rw [a, b] <;> rfl
    rw [hx]
    generalize own_act n (A / 2) (own_T v) = p
    generalize own_act n (B / 2) (own_T v) = q
    rcases Nat.mod_two_eq_zero_or_one A with a | a <;> rcases Nat.mod_two_eq_zero_or_one B with b | b <;> rw [a, b]
    · show 0 ^^^ (p ^^^ q) = (0 ^^^ p) ^^^ (0 ^^^ q)
      rw [Nat.zero_xor, Nat.zero_xor, Nat.zero_xor]
    · show v ^^^ (p ^^^ q) = (0 ^^^ p) ^^^ (v ^^^ q)
      rw [Nat.zero_xor]; ac_rfl
    · show v ^^^ (p ^^^ q) = (v ^^^ p) ^^^ (0 ^^^ q)
      rw [Nat.zero_xor]; ac_rfl
    · show 0 ^^^ (p ^^^ q) = (v ^^^ p) ^^^ (v ^^^ q)
      rw [show (v ^^^ p) ^^^ (v ^^^ q) = (v ^^^ v) ^^^ (p ^^^ q) by ac_rfl, Nat.xor_self]
theorem own_act_top (n : Nat) : ∀ (A v : Nat), A < 2 ^ n → own_act (n + 1) A v = own_act n A v := by
  induction n with
  | zero => intro A v h; rw [show A = 0 by omega, own_act_A0, own_act_A0]
  | succ n ih =>
    intro A v h
    rw [own_act_succ (n + 1), ih (A / 2) _ (by rw [Nat.pow_succ] at h; omega), own_act_succ n A v]
theorem own_add_xor {k y : Nat} (h : y < 2 ^ k) : 2 ^ k + y = 2 ^ k ^^^ y := by
  refine Nat.eq_of_testBit_eq fun i => ?_
  rw [Nat.testBit_xor, Nat.testBit_two_pow]
  rcases Nat.lt_trichotomy i k with q | q | q
  · rw [Nat.testBit_two_pow_add_gt q, decide_eq_false (by omega), Bool.false_xor]
  · subst q
    rw [Nat.testBit_two_pow_add_eq, decide_eq_true rfl, Nat.testBit_lt_two_pow h]
    rfl
  · have h1 : 2 ^ k + y < 2 ^ i := Nat.lt_of_lt_of_le (show 2 ^ k + y < 2 ^ (k + 1) by rw [Nat.pow_succ]; omega) (Nat.pow_le_pow_right (by decide) q)
    rw [Nat.testBit_lt_two_pow h1, Nat.testBit_lt_two_pow (Nat.lt_of_lt_of_le h (Nat.pow_le_pow_right (by decide) (by omega))), decide_eq_false (by omega)]
    rfl
def own_P : Nat := 115798716538066420455068828734077908777090750648323562404903972173143537152001
def own_P0 : Nat := 6627300750225031497843725390000923820765982682998365446388165230407512065
theorem own_P_eq : own_P = 2 ^ 256 ^^^ own_P0 := by decide +kernel
theorem own_basis : ∀ b, b < 256 → own_act 257 own_P (2 ^ b) = 0 := by decide +kernel
theorem own_kills : ∀ (k : Nat), k ≤ 256 → ∀ v, v < 2 ^ k → own_act 257 own_P v = 0 := by
  intro k
  induction k with
  | zero => intro _ v h; rw [show v = 0 by omega]; exact own_act_v0 _ _
  | succ k ih =>
    intro hk v h
    by_cases hv : v < 2 ^ k
    · exact ih (by omega) v hv
    · have e : v = 2 ^ k ^^^ (v - 2 ^ k) := by
        rw [← own_add_xor (by rw [Nat.pow_succ] at h; omega)]
        omega
      rw [e, own_act_v, own_basis k (by omega), ih (by omega) _ (by rw [Nat.pow_succ] at h; omega)]
      rfl
def own_xm (r : Nat) : Nat := if r < 57896044618658097711785492504343953926634992332820282019728792003956564819968 then 2 * r else (2 * r - 115792089237316195423570985008687907853269984665640564039457584007913129639936) ^^^ own_P0
theorem own_p255 : (57896044618658097711785492504343953926634992332820282019728792003956564819968 : Nat) = 2 ^ 255 := by decide +kernel
theorem own_p256 : (115792089237316195423570985008687907853269984665640564039457584007913129639936 : Nat) = 2 ^ 256 := by decide +kernel
theorem own_P0_lt : own_P0 < 2 ^ 256 := by decide +kernel
theorem own_pp : 2 ^ 256 = 2 * 2 ^ 255 := by decide +kernel
theorem own_xm_lt {r : Nat} (h : r < 2 ^ 256) : own_xm r < 2 ^ 256 := by
  unfold own_xm
  rw [own_p255, own_p256]
  have := own_pp
  split
  · omega
  · exact Nat.xor_lt_two_pow (by omega) own_P0_lt
theorem own_act_dbl (r v : Nat) (h : r < 2 ^ 256) : own_act 257 (2 * r) v = own_T (own_act 257 r v) := by
  rw [own_act_succ 256 (2 * r) v, Nat.mul_mod_right, Nat.mul_div_cancel_left r (by decide), own_act_T, own_act_top 256 r v h]
  show 0 ^^^ _ = _
  rw [Nat.zero_xor]
theorem own_xm_act {r v : Nat} (h : r < 2 ^ 256) (hv : v < 2 ^ 256) : own_act 257 (own_xm r) v = own_T (own_act 257 r v) := by
  unfold own_xm
  rw [own_p255, own_p256]
  have hp := own_pp
  split
  · exact own_act_dbl r v h
  · rename_i h1
    have e : (2 * r - 2 ^ 256) ^^^ own_P0 = (2 * r) ^^^ own_P := by
      have e1 : 2 * r = 2 ^ 256 ^^^ (2 * r - 2 ^ 256) := by
        rw [← own_add_xor (show 2 * r - 2 ^ 256 < 2 ^ 256 by omega)]
        omega
      rw [own_P_eq]
      generalize 2 * r - 2 ^ 256 = y at e1 ⊢
      rw [e1, show (2 ^ 256 ^^^ y) ^^^ (2 ^ 256 ^^^ own_P0) = (2 ^ 256 ^^^ 2 ^ 256) ^^^ (y ^^^ own_P0) by ac_rfl, Nat.xor_self, Nat.zero_xor]
    rw [e, own_act_A, own_kills 256 (Nat.le_refl _) v hv, Nat.xor_zero, own_act_dbl r v h]
def own_mm : Nat → Nat → Nat → Nat
  | 0, _, _ => 0
  | n + 1, A, B => own_force (own_mm n (A / 2) B) fun m => (if A % 2 = 1 then B else 0) ^^^ own_xm m
theorem own_mm_succ (n A B : Nat) : own_mm (n + 1) A B = (if A % 2 = 1 then B else 0) ^^^ own_xm (own_mm n (A / 2) B) := own_force_eq _ _
theorem own_mm_lt {B : Nat} (hB : B < 2 ^ 256) : ∀ (n A : Nat), own_mm n A B < 2 ^ 256 := by
  intro n
  induction n with
  | zero => intro A; exact Nat.two_pow_pos _
  | succ n ih =>
    intro A
    rw [own_mm_succ]
    refine Nat.xor_lt_two_pow ?_ (own_xm_lt (ih _))
    split
    · exact hB
    · exact Nat.two_pow_pos _
theorem own_mm_act {B v : Nat} (hB : B < 2 ^ 256) (hv : v < 2 ^ 256) : ∀ (n A : Nat), own_act 257 (own_mm n A B) v = own_act n A (own_act 257 B v) := by
  intro n
  induction n with
  | zero => intro A; exact own_act_A0 _ _
  | succ n ih =>
    intro A
    rw [own_mm_succ, own_act_A, own_xm_act (own_mm_lt hB _ _) hv, ih, own_act_succ n A (own_act 257 B v), own_act_T]
    by_cases hA : A % 2 = 1
    · rw [if_pos hA, if_pos hA]
    · rw [if_neg hA, if_neg hA, own_act_A0]
def own_it : Nat → Nat → Nat
  | 0, v => v
  | n + 1, v => own_T (own_it n v)
theorem own_it_add (a b v : Nat) : own_it (a + b) v = own_it a (own_it b v) := by
  induction a with
  | zero => rw [Nat.zero_add]; rfl
  | succ a ih => rw [Nat.succ_add]; show own_T _ = own_T _; rw [ih]
theorem own_T_lt (v : Nat) : own_T v < 2 ^ 256 := by
  have hx : ∀ {x k : Nat}, x < 2 ^ 64 → k ≤ 192 → x <<< k < 2 ^ 256 := by
    intro x k h hk
    rw [Nat.shiftLeft_eq]
    have : x * 2 ^ k < 2 ^ 64 * 2 ^ k := Nat.mul_lt_mul_of_pos_right h (Nat.two_pow_pos _)
    rw [← Nat.pow_add] at this
    exact Nat.lt_of_lt_of_le this (Nat.pow_le_pow_right (by decide) (by omega))
  have h6 : ∀ {x : Nat}, x < 2 ^ 64 → x < 2 ^ 256 := fun h => Nat.lt_trans h (by decide +kernel)
  have w := own_w_lt v
  have m17 : (own_w v 64 <<< 17) % 18446744073709551616 < 2 ^ 64 := Nat.mod_lt _ (by decide)
  have hr : own_rot45 (own_w v 64 ^^^ own_w v 192) < 2 ^ 64 := by
    refine Nat.xor_lt_two_pow (Nat.mod_lt _ (by decide)) ?_
    rw [Nat.shiftRight_eq_div_pow]
    exact Nat.lt_of_le_of_lt (Nat.div_le_self _ _) (Nat.xor_lt_two_pow (w 64) (w 192))
  unfold own_T
  exact Nat.xor_lt_two_pow (Nat.xor_lt_two_pow (Nat.xor_lt_two_pow (h6 (Nat.xor_lt_two_pow (Nat.xor_lt_two_pow (w 0) (w 64)) (w 192))) (hx (Nat.xor_lt_two_pow (Nat.xor_lt_two_pow (w 0) (w 64)) (w 128)) (by decide))) (hx (Nat.xor_lt_two_pow (Nat.xor_lt_two_pow (w 0) (w 128)) m17) (by decide))) (hx hr (by decide))
theorem own_it_lt {v : Nat} (hv : v < 2 ^ 256) : ∀ n, own_it n v < 2 ^ 256
  | 0 => hv
  | _ + 1 => own_T_lt _
def own_ex : Nat → Nat → Nat
  | 0, _ => 1
  | n + 1, e => own_force (own_ex n (e / 2)) fun h => own_force (own_mm 256 h h) fun s => if e % 2 = 1 then own_xm s else s
theorem own_ex_succ (n e : Nat) : own_ex (n + 1) e = if e % 2 = 1 then own_xm (own_mm 256 (own_ex n (e / 2)) (own_ex n (e / 2))) else own_mm 256 (own_ex n (e / 2)) (own_ex n (e / 2)) := by
  show own_force (own_ex n (e / 2)) _ = _
  rw [own_force_eq, own_force_eq]
theorem own_ex_lt : ∀ (n e : Nat), own_ex n e < 2 ^ 256 := by
  intro n
  induction n with
  | zero => intro e; exact Nat.one_lt_two_pow (by decide)
  | succ n ih =>
    intro e
    rw [own_ex_succ]
    split
    · exact own_xm_lt (own_mm_lt (ih _) _ _)
    · exact own_mm_lt (ih _) _ _
theorem own_act_one (v : Nat) : own_act 257 1 v = v := by
  rw [own_act_succ 256 1 v, show 1 / 2 = 0 from rfl, own_act_A0, Nat.xor_zero]
  rfl
theorem own_ex_act {v : Nat} : ∀ (n e : Nat), e < 2 ^ n → v < 2 ^ 256 → own_act 257 (own_ex n e) v = own_it e v := by
  intro n
  induction n with
  | zero => intro e h _; rw [show e = 0 by omega]; exact own_act_one v
  | succ n ih =>
    intro e h hv
    have hh := ih (e / 2) (by rw [Nat.pow_succ] at h; omega) hv
    have hl := own_ex_lt n (e / 2)
    have hm : own_act 257 (own_mm 256 (own_ex n (e / 2)) (own_ex n (e / 2))) v = own_it (e / 2 + e / 2) v := by
      rw [own_mm_act hl hv, ← own_act_top 256 _ _ hl, hh, own_it_add]
      have h2 : ∀ (A u : Nat), own_act 257 A (own_it (e / 2) u) = own_it (e / 2) (own_act 257 A u) := by
        intro A u
        generalize e / 2 = j
        induction j with
        | zero => rfl
        | succ j ij => show own_act 257 A (own_T _) = own_T _; rw [own_act_T, ij]
      rw [h2, hh]
    rw [own_ex_succ]
    split
    · rw [own_xm_act (own_mm_lt hl _ _) hv, hm, show e = (e / 2 + e / 2) + 1 by omega]
      rw [show ((e / 2 + e / 2 + 1) / 2 + (e / 2 + e / 2 + 1) / 2) = e / 2 + e / 2 by omega]
      rfl
    · rw [hm, show e / 2 + e / 2 = e by omega]
theorem own_exM : own_ex 256 115792089237316195423570985008687907853269984665640564039457584007913129639935 = 1 := by decide +kernel
theorem own_itM {v : Nat} (hv : v < 2 ^ 256) : own_it 115792089237316195423570985008687907853269984665640564039457584007913129639935 v = v := by
  rw [← own_ex_act 256 115792089237316195423570985008687907853269984665640564039457584007913129639935 (by decide +kernel) hv, own_exM, own_act_one]
theorem own_T_inj {u v : Nat} (hu : u < 2 ^ 256) (hv : v < 2 ^ 256) (h : own_T u = own_T v) : u = v := by
  have e : ∀ w, own_it 115792089237316195423570985008687907853269984665640564039457584007913129639935 w = own_it (115792089237316195423570985008687907853269984665640564039457584007913129639935 - 1) (own_T w) := fun w => by
    have := own_it_add (115792089237316195423570985008687907853269984665640564039457584007913129639935 - 1) 1 w
    exact this
  rw [← own_itM hu, ← own_itM hv, e u, e v, h]
theorem own_it_inj {u v : Nat} (hu : u < 2 ^ 256) (hv : v < 2 ^ 256) : ∀ n, own_it n u = own_it n v → u = v
  | 0, h => h
  | n + 1, h => own_it_inj hu hv n (own_T_inj (own_it_lt hu n) (own_it_lt hv n) h)
theorem own_unit_65537 : own_mm 256 41364558615377796321236925488928968777520935874163467287884241121016861849919 (own_ex 256 1766820105243087041267848467410591083712559083657179364930612997358944255 ^^^ 1) = 1 := by decide +kernel
theorem own_unit_274177 : own_mm 256 16660084877603088988606459432931183206286717631952300401256307603774371687109 (own_ex 256 422326049367073807881663979869529201403728192611490256438204459192102655 ^^^ 1) = 1 := by decide +kernel
theorem own_unit_6700417 : own_mm 256 12693949399860525965997211201124504574410961553597193866048805161284874112054 (own_ex 256 17281325809619937896935516850471830014948321076977830490170624307101055 ^^^ 1) = 1 := by decide +kernel
theorem own_unit_67280421310721 : own_mm 256 88533940771238073175004357670013658451311214678294006315637054256668220558584 (own_ex 256 1721036922503113971692907638171526209875755521904893141463060735 ^^^ 1) = 1 := by decide +kernel
theorem own_unit_59649589127497217 : own_mm 256 19469530048050167360678825071135847039656869457463300798095665008845516373222 (own_ex 256 1941205143757452242770874767385119893385096602219740994029055 ^^^ 1) = 1 := by decide +kernel
theorem own_unit_5704689200685129054721 : own_mm 256 5726328750835857029458229068837577261900092640816380810868545732223033545189 (own_ex 256 20297703374166229616474325006177763232573806344580020735 ^^^ 1) = 1 := by decide +kernel
/-- a prime that must measure every period -/
theorem own_must {v p e q d : Nat} (hv : v < 2 ^ 256) (h0 : v ≠ 0) (hp : OwnPr p) (hu : own_mm 256 q (own_ex 256 e ^^^ 1) = 1) (hM : 115792089237316195423570985008687907853269984665640564039457584007913129639935 = p * e) (he : e < 2 ^ 256) (hE : own_it d v = v) (hd : d ∣ 115792089237316195423570985008687907853269984665640564039457584007913129639935) : p ∣ d := by
  by_cases h : p ∣ d
  · exact h
  · exfalso
    rw [hM] at hd
    obtain ⟨k, hk⟩ := own_gauss hp h hd
    have hke : own_it e v = v := by
      rw [hk]
      clear hk hM he hu
      induction k with
      | zero => rfl
      | succ k ik => rw [Nat.mul_succ, own_it_add, hE, ik]
    have h1 : own_act 257 (own_ex 256 e ^^^ 1) v = 0 := by
      rw [own_act_A, own_ex_act 256 e he hv, own_act_one, hke, Nat.xor_self]
    have h2 := own_mm_act (B := own_ex 256 e ^^^ 1) (v := v) (Nat.xor_lt_two_pow (own_ex_lt _ _) (Nat.one_lt_two_pow (by decide))) hv 256 q
    rw [hu, own_act_one, h1, own_act_v0] at h2
    exact h0 h2
theorem own_period_g {v k M : Nat} (hv : v < 2 ^ 256) (hk : 0 < k) (h : own_it k v = v) (hM : own_it M v = v) : ∃ g, 0 < g ∧ g ≤ k ∧ g ∣ M ∧ own_it g v = v := by
  have hE : own_it (Nat.gcd k M) v = v := own_gcdE (E := fun n => own_it n v = v) (fun a b ha hb hab => by
    have e : own_it b (own_it (a - b) v) = own_it b v := by rw [← own_it_add, show b + (a - b) = a by omega, ha, hb]
    exact own_it_inj (own_it_lt hv _) hv b e) k M h hM
  exact ⟨_, Nat.gcd_pos_of_pos_left _ hk, Nat.le_of_dvd hk (Nat.gcd_dvd_left k M), Nat.gcd_dvd_right k M, hE⟩
theorem own_mul_dvd {g : Nat} (d65537 : 65537 ∣ g) (d274177 : 274177 ∣ g) (d6700417 : 6700417 ∣ g) (d67280421310721 : 67280421310721 ∣ g) (d59649589127497217 : 59649589127497217 ∣ g) (d5704689200685129054721 : 5704689200685129054721 ∣ g) : 2756433736562299370906258186904162460098788113856121802689362950307201 ∣ g := by
  have m1 : 17968738049 ∣ g := own_cop2 own_pr_274177 (by decide) d65537 d274177
  have m2 : 120398037892066433 ∣ g := own_cop2 own_pr_6700417 (by decide) m1 d6700417
  have m3 : 8100430714362380904069067128193 ∣ g := own_cop2 own_pr_67280421310721 (by decide) m2 d67280421310721
  have m4 : 483187363867474790571693776572872797307789738881 ∣ g := own_cop2 own_pr_59649589127497217 (by decide) m3 d59649589127497217
  have m5 : 2756433736562299370906258186904162460098788113856121802689362950307201 ∣ g := own_cop2 own_pr_5704689200685129054721 (by decide) m4 d5704689200685129054721
  exact m5
theorem own_period {v k : Nat} (hv : v < 2 ^ 256) (h0 : v ≠ 0) (hk : 0 < k) (h : own_it k v = v) : 2756433736562299370906258186904162460098788113856121802689362950307201 ≤ k := by
  obtain ⟨g, g1, g2, hd, hE⟩ := own_period_g hv hk h (own_itM hv)
  have d65537 := own_must (v := v) hv h0 own_pr_65537 own_unit_65537 (by decide) (by decide) hE hd
  have d274177 := own_must (v := v) hv h0 own_pr_274177 own_unit_274177 (by decide) (by decide) hE hd
  have d6700417 := own_must (v := v) hv h0 own_pr_6700417 own_unit_6700417 (by decide) (by decide) hE hd
  have d67280421310721 := own_must (v := v) hv h0 own_pr_67280421310721 own_unit_67280421310721 (by decide) (by decide) hE hd
  have d59649589127497217 := own_must (v := v) hv h0 own_pr_59649589127497217 own_unit_59649589127497217 (by decide) (by decide) hE hd
  have d5704689200685129054721 := own_must (v := v) hv h0 own_pr_5704689200685129054721 own_unit_5704689200685129054721 (by decide) (by decide) hE hd
  exact Nat.le_trans (Nat.le_of_dvd g1 (own_mul_dvd d65537 d274177 d6700417 d67280421310721 d59649589127497217 d5704689200685129054721)) g2
/-! what a state gives out, and the states whose draw is thrown away -/
def own_rot23 (x : Nat) : Nat := (x % 2199023255552) * 8388608 + x / 2199023255552
def own_out (v : Nat) : Nat := (own_rot23 ((own_w v 0 + own_w v 192) % 18446744073709551616) + own_w v 0) % 18446744073709551616
def OwnRej (b v : Nat) : Prop := (own_out v / 4294967296) * b % 4294967296 < 4
def own_code (b v : Nat) : Nat := own_w v 0 + 18446744073709551616 * own_w v 64 + 340282366920938463463374607431768211456 * own_w v 128 + 6277101735386680763835789423207666416102355444464034512896 * (own_out v % 4294967296) + 26959946667150639794667015087019630673637144422540572481103610249216 * ((own_out v / 4294967296) * b % 4294967296) + 107839786668602559178668060348078522694548577690162289924414440996864 * ((own_out v / 4294967296) * b / 4294967296)
theorem own_code_lt {b v : Nat} (hb : b ≤ 8) (h : OwnRej b v) : own_code b v < 862718293348820473429344482784628181556388621521298319395315527974912 := by
  have w0 := own_w_lt v 0
  have w1 := own_w_lt v 64
  have w2 := own_w_lt v 128
  rw [← own_p64] at w0 w1 w2
  unfold OwnRej at h
  unfold own_code
  have ho : own_out v < 18446744073709551616 := Nat.mod_lt _ (by decide)
  have hq : (own_out v / 4294967296) * b / 4294967296 < 8 := by
    have : own_out v / 4294967296 ≤ 4294967295 := by omega
    have := Nat.mul_le_mul this hb
    omega
  generalize (own_out v / 4294967296) * b / 4294967296 = q1 at hq ⊢
  generalize (own_out v / 4294967296) * b % 4294967296 = q2 at h ⊢
  omega
theorem own_rot23_lt {x : Nat} (h : x < 18446744073709551616) : own_rot23 x < 18446744073709551616 := by unfold own_rot23; omega
theorem own_rot23_inj {x y : Nat} (hx : x < 18446744073709551616) (hy : y < 18446744073709551616) (h : own_rot23 x = own_rot23 y) : x = y := by
  unfold own_rot23 at h
  have a1 : x / 2199023255552 < 8388608 := by omega
  have a2 : y / 2199023255552 < 8388608 := by omega
  have b1 := Nat.div_add_mod x 2199023255552
  have b2 := Nat.div_add_mod y 2199023255552
  have c1 : x % 2199023255552 < 2199023255552 := Nat.mod_lt _ (by decide)
  have c2 : y % 2199023255552 < 2199023255552 := Nat.mod_lt _ (by decide)
  generalize x / 2199023255552 = p at *
  generalize y / 2199023255552 = q at *
  generalize x % 2199023255552 = r at *
  generalize y % 2199023255552 = t at *
  have e1 : r = t := by omega
  omega
theorem own_add_inj {r t w : Nat} (hr : r < 18446744073709551616) (ht : t < 18446744073709551616) (hw : w < 18446744073709551616) (h : (r + w) % 18446744073709551616 = (t + w) % 18446744073709551616) : r = t := by omega
theorem own_out_inj {w a b : Nat} (hw : w < 18446744073709551616) (ha : a < 18446744073709551616) (hb : b < 18446744073709551616) (h : (own_rot23 ((w + a) % 18446744073709551616) + w) % 18446744073709551616 = (own_rot23 ((w + b) % 18446744073709551616) + w) % 18446744073709551616) : a = b := by
  have m1 : (w + a) % 18446744073709551616 < 18446744073709551616 := Nat.mod_lt _ (by decide)
  have m2 : (w + b) % 18446744073709551616 < 18446744073709551616 := Nat.mod_lt _ (by decide)
  have h1 := own_rot23_inj m1 m2 (own_add_inj (own_rot23_lt m1) (own_rot23_lt m2) hw h)
  rw [Nat.add_comm w a, Nat.add_comm w b] at h1
  exact own_add_inj ha hb hw h1
theorem own_code_inj {b u v : Nat} (hb : 0 < b) (hu : u < 2 ^ 256) (hv : v < 2 ^ 256) (ru : OwnRej b u) (rv : OwnRej b v) (h : own_code b u = own_code b v) : u = v := by
  have u0 := own_w_lt u 0
  have u1 := own_w_lt u 64
  have u2 := own_w_lt u 128
  have u3 := own_w_lt u 192
  have v0 := own_w_lt v 0
  have v1 := own_w_lt v 64
  have v2 := own_w_lt v 128
  have v3 := own_w_lt v 192
  rw [← own_p64] at u0 u1 u2 u3 v0 v1 v2 v3
  unfold OwnRej at ru rv
  unfold own_code at h
  have hr : (own_out u / 4294967296) * b = (own_out v / 4294967296) * b := by
    have a1 := Nat.div_add_mod ((own_out u / 4294967296) * b) 4294967296
    have a2 := Nat.div_add_mod ((own_out v / 4294967296) * b) 4294967296
    generalize (own_out u / 4294967296) * b / 4294967296 = q1 at *
    generalize (own_out u / 4294967296) * b % 4294967296 = q2 at *
    generalize (own_out v / 4294967296) * b / 4294967296 = q3 at *
    generalize (own_out v / 4294967296) * b % 4294967296 = q4 at *
    omega
  have e0 : own_w u 0 = own_w v 0 ∧ own_w u 64 = own_w v 64 ∧ own_w u 128 = own_w v 128 ∧ own_out u % 4294967296 = own_out v % 4294967296 := by
    rw [hr] at h ru
    generalize (own_out v / 4294967296) * b / 4294967296 = q1 at *
    generalize (own_out v / 4294967296) * b % 4294967296 = q2 at *
    refine ⟨by omega, by omega, by omega, by omega⟩
  have hx : own_out u / 4294967296 = own_out v / 4294967296 := Nat.eq_of_mul_eq_mul_right hb hr
  have ho : own_out u = own_out v := by have := e0.2.2.2; omega
  have e3 : own_w u 192 = own_w v 192 := by
    unfold own_out at ho
    rw [e0.1] at ho
    exact own_out_inj v0 u3 v3 ho
  have ex : ∀ {x : Nat}, x < 2 ^ 256 → x = own_w x 0 + 18446744073709551616 * own_w x 64 + 340282366920938463463374607431768211456 * own_w x 128 + 6277101735386680763835789423207666416102355444464034512896 * own_w x 192 := by
    intro x hx
    unfold own_w
    rw [Nat.shiftRight_eq_div_pow, Nat.shiftRight_eq_div_pow, Nat.shiftRight_eq_div_pow, Nat.shiftRight_eq_div_pow]
    rw [show 2 ^ 0 = 1 from rfl, ← own_p64, show 2 ^ 128 = 340282366920938463463374607431768211456 from by decide +kernel, show 2 ^ 192 = 6277101735386680763835789423207666416102355444464034512896 from by decide +kernel]
    rw [← own_p256] at hx
    omega
  rw [ex hu, ex hv, e0.1, e0.2.1, e0.2.2.1, e3]
/-- from every state but nought some draw is kept -/
theorem own_kept {b v : Nat} (hb : 0 < b) (hb8 : b ≤ 8) (hv : v < 2 ^ 256) (h0 : v ≠ 0) : ∃ n, ¬ OwnRej b (own_it n v) := by
  by_cases hx : ∃ n, ¬ OwnRej b (own_it n v)
  · exact hx
  · exfalso
    have hall : ∀ n, OwnRej b (own_it n v) := fun n => Classical.byContradiction fun q => hx ⟨n, q⟩
    obtain ⟨i, j, h1, h2, h3⟩ := own_php 862718293348820473429344482784628181556388621521298319395315527974912 (fun n => own_code b (own_it n v)) (fun n _ => own_code_lt hb8 (hall n))
    have h4 := own_code_inj hb (own_it_lt hv i) (own_it_lt hv j) (hall i) (hall j) h3
    rw [show j = i + (j - i) by omega, own_it_add] at h4
    have h5 := own_it_inj hv (own_it_lt hv _) i h4
    have h6 := own_period hv h0 (show 0 < j - i by omega) h5.symm
    omega
end OwnXo
section OwnXob
/-- a long's 64 digits as a number -/
def own_n (w : Int64) : Nat := w.toBitVec.toNat
theorem own_n_lt (w : Int64) : own_n w < 18446744073709551616 := w.toBitVec.isLt
theorem own_n_int (w : Int64) : w.toInt = (own_n w : Int) ∨ w.toInt = (own_n w : Int) - 18446744073709551616 := by
  show w.toBitVec.toInt = _ ∨ w.toBitVec.toInt = _
  rw [BitVec.toInt_eq_toNat_cond]
  split
  · exact Or.inl rfl
  · exact Or.inr rfl
theorem own_n_inj {a b : Int64} (h : own_n a = own_n b) : a = b := Int64.toBitVec_inj.mp (BitVec.eq_of_toNat_eq h)
theorem own_n_xor (a b : Int64) : own_n (a ^^^ b) = own_n a ^^^ own_n b := by
  unfold own_n
  rw [Int64.toBitVec_xor, BitVec.toNat_xor]
theorem own_n_add (a b : Int64) : own_n (a + b) = (own_n a + own_n b) % 18446744073709551616 := by
  have h := c_ladd a b
  have := own_n_lt a; have := own_n_lt b; have := own_n_lt (a + b)
  rcases own_n_int a with x | x <;> rcases own_n_int b with y | y <;> rcases own_n_int (a + b) with z | z <;> omega
def own_shl (w : Int64) (k : Int32) : Int64 := (w <<< (k &&& 0x3f).toInt64)
def own_shr (w : Int64) (k : Int32) : Int64 := ((w.toUInt64 >>> (k &&& 0x3f).toInt64.toUInt64).toInt64)
theorem own_n_shl17 (w : Int64) : own_n (own_shl w 17) = own_n w * 131072 % 18446744073709551616 := by
  have h := c_lshl w 17 17 (by decide)
  rw [show ((2 ^ 17 : Nat) : Int) = 131072 from rfl] at h
  have := own_n_lt w; have := own_n_lt (own_shl w 17)
  have h : ((own_shl w 17).toInt - w.toInt * 131072) % 18446744073709551616 = 0 := h
  rcases own_n_int w with x | x <;> rcases own_n_int (own_shl w 17) with z | z <;> omega
theorem own_n_shl45 (w : Int64) : own_n (own_shl w 45) = own_n w * 35184372088832 % 18446744073709551616 := by
  have h := c_lshl w 45 45 (by decide)
  rw [show ((2 ^ 45 : Nat) : Int) = 35184372088832 from rfl] at h
  have := own_n_lt w; have := own_n_lt (own_shl w 45)
  have h : ((own_shl w 45).toInt - w.toInt * 35184372088832) % 18446744073709551616 = 0 := h
  rcases own_n_int w with x | x <;> rcases own_n_int (own_shl w 45) with z | z <;> omega
theorem own_n_shl23 (w : Int64) : own_n (own_shl w 23) = own_n w * 8388608 % 18446744073709551616 := by
  have h := c_lshl w 23 23 (by decide)
  rw [show ((2 ^ 23 : Nat) : Int) = 8388608 from rfl] at h
  have := own_n_lt w; have := own_n_lt (own_shl w 23)
  have h : ((own_shl w 23).toInt - w.toInt * 8388608) % 18446744073709551616 = 0 := h
  rcases own_n_int w with x | x <;> rcases own_n_int (own_shl w 23) with z | z <;> omega
theorem own_shr_int (w : Int64) (q : Int32) (k : Nat) (hk : q.toBitVec.toNat % 64 = k) (h0 : 0 < k) : (own_shr w q).toInt = ((own_n w / 2 ^ k : Nat) : Int) := by
  have h := c_lushr w q k hk h0
  have e : w.toInt % 18446744073709551616 = (own_n w : Int) := by
    have := own_n_lt w
    rcases own_n_int w with x | x <;> omega
  rw [e] at h
  exact h
/-- what the JDK's rotateLeft gives -/
def own_rotl (w : Int64) (k : Int32) : Int64 := own_shl w k ||| own_shr w (-k)
theorem own_n_rotl {w : Int64} {k : Int32} {j : Nat} {A B : Nat} (hs : own_n (own_shl w k) = A) (hr : (own_shr w (-k)).toInt = (B : Int)) (hj : j ≤ 63) (hA : A % 2 ^ j = 0) (hB : B < 2 ^ j) : own_n (own_rotl w k) = (A + B) % 18446744073709551616 := by
  have ha : (own_shl w k).toInt % ((2 ^ j : Nat) : Int) = 0 := by
    have h5 : (18446744073709551616 : Int) = ((2 ^ j : Nat) : Int) * ((2 ^ (64 - j) : Nat) : Int) := by rw [← Int.natCast_mul, ← Nat.pow_add, show j + (64 - j) = 64 by omega]; rfl
    have hA' : ((A : Nat) : Int) % ((2 ^ j : Nat) : Int) = 0 := by rw [← Int.natCast_emod, hA]; rfl
    rcases own_n_int (own_shl w k) with x | x
    · rw [x, hs]; exact hA'
    · rw [x, hs, h5, Int.sub_mul_emod_self_left]; exact hA'
  have h := c_orL (own_shl w k) (own_shr w (-k)) j hj _ rfl ha (by rw [hr]; omega) (by rw [hr]; exact_mod_cast hB)
  rw [hr] at h
  have := own_n_lt (own_shl w k)
  rw [hs] at this
  have h7 := own_n_lt (own_rotl w k)
  have h : ((own_rotl w k).toInt - ((own_shl w k).toInt + (B : Int))) % 18446744073709551616 = 0 := h
  rcases own_n_int (own_shl w k) with x | x <;> rcases own_n_int (own_rotl w k) with z | z <;> rw [hs] at x <;> omega
theorem own_n_rot45 (w : Int64) : own_n (own_rotl w 45) = own_rot45 (own_n w) := by
  have hw := own_n_lt w
  have h := own_n_rotl (w := w) (k := 45) (j := 45) (own_n_shl45 w) (own_shr_int w (-45) 19 (by decide) (by decide)) (by decide) (by
    rw [show (2 : Nat) ^ 45 = 35184372088832 from rfl]; omega) (by rw [show (2 : Nat) ^ 19 = 524288 from rfl, show (2 : Nat) ^ 45 = 35184372088832 from rfl]; omega)
  rw [h]
  unfold own_rot45
  rw [Nat.shiftLeft_eq, Nat.shiftRight_eq_div_pow, show (2 : Nat) ^ 45 = 35184372088832 from rfl, show (2 : Nat) ^ 19 = 524288 from rfl]
  have e1 : own_n w * 35184372088832 % 18446744073709551616 = 2 ^ 45 * (own_n w % 524288) := by
    rw [show (2 : Nat) ^ 45 = 35184372088832 from rfl]; omega
  have hb : own_n w / 524288 < 2 ^ 45 := by rw [show (2 : Nat) ^ 45 = 35184372088832 from rfl]; omega
  rw [e1]
  have e2 : (2 ^ 45 * (own_n w % 524288) + own_n w / 524288) % 18446744073709551616 = 2 ^ 45 * (own_n w % 524288) + own_n w / 524288 := by
    rw [show (2 : Nat) ^ 45 = 35184372088832 from rfl] at hb ⊢
    omega
  rw [e2]
  refine Nat.eq_of_testBit_eq fun i => ?_
  rw [Nat.testBit_two_pow_mul_add _ hb, Nat.testBit_xor, Nat.testBit_two_pow_mul]
  by_cases hi : i < 45
  · rw [if_pos hi, decide_eq_false (by omega)]
    simp
  · rw [if_neg hi, decide_eq_true (by omega), Nat.testBit_lt_two_pow (Nat.lt_of_lt_of_le hb (Nat.pow_le_pow_right (by decide) (by omega)))]
    simp
theorem own_n_rot23 (w : Int64) : own_n (own_rotl w 23) = own_rot23 (own_n w) := by
  have hw := own_n_lt w
  have h := own_n_rotl (w := w) (k := 23) (j := 23) (own_n_shl23 w) (own_shr_int w (-23) 41 (by decide) (by decide)) (by decide) (by
    rw [show (2 : Nat) ^ 23 = 8388608 from rfl]; omega) (by rw [show (2 : Nat) ^ 41 = 2199023255552 from rfl, show (2 : Nat) ^ 23 = 8388608 from rfl]; omega)
  rw [h, show (2 : Nat) ^ 41 = 2199023255552 from rfl]
  unfold own_rot23
  omega
/-- the four words as one number -/
def own_pk (w0 w1 w2 w3 : Int64) : Nat := own_n w0 ^^^ (own_n w1 <<< 64) ^^^ (own_n w2 <<< 128) ^^^ (own_n w3 <<< 192)
theorem own_w_of (a k j : Nat) (ha : a < 18446744073709551616) : own_w (a <<< k) j = if j = k then a else own_w (a <<< k) j := by
  split
  · rename_i h
    subst h
    unfold own_w
    rw [Nat.shiftLeft_shiftRight, Nat.mod_eq_of_lt ha]
  · rfl
theorem own_w_up {a k j : Nat} (ha : a < 18446744073709551616) (h : j + 64 ≤ k) : own_w (a <<< k) j = 0 := by
  unfold own_w
  rw [Nat.shiftRight_eq_div_pow, Nat.shiftLeft_eq, show k = (k - j - 64) + 64 + j by omega, Nat.pow_add _ _ j, ← Nat.mul_assoc, Nat.mul_div_cancel _ (Nat.two_pow_pos _), Nat.pow_add, ← own_p64, ← Nat.mul_assoc]
  exact Nat.mul_mod_left _ _
theorem own_w_down {a k j : Nat} (ha : a < 18446744073709551616) (h : k + 64 ≤ j) : own_w (a <<< k) j = 0 := by
  unfold own_w
  rw [Nat.shiftRight_eq_div_pow, Nat.shiftLeft_eq, Nat.div_eq_of_lt, Nat.zero_mod]
  rw [own_p64] at ha
  have : a * 2 ^ k < 2 ^ 64 * 2 ^ k := Nat.mul_lt_mul_of_pos_right ha (Nat.two_pow_pos _)
  rw [← Nat.pow_add] at this
  exact Nat.lt_of_lt_of_le this (Nat.pow_le_pow_right (by decide) (by omega))
theorem own_pk_w (w0 w1 w2 w3 : Int64) : own_w (own_pk w0 w1 w2 w3) 0 = own_n w0 ∧ own_w (own_pk w0 w1 w2 w3) 64 = own_n w1 ∧ own_w (own_pk w0 w1 w2 w3) 128 = own_n w2 ∧ own_w (own_pk w0 w1 w2 w3) 192 = own_n w3 := by
  have l0 := own_n_lt w0
  have l1 := own_n_lt w1
  have l2 := own_n_lt w2
  have l3 := own_n_lt w3
  have z : own_pk w0 w1 w2 w3 = (own_n w0 <<< 0) ^^^ (own_n w1 <<< 64) ^^^ (own_n w2 <<< 128) ^^^ (own_n w3 <<< 192) := rfl
  rw [z]
  have same : ∀ {a k : Nat}, a < 18446744073709551616 → own_w (a <<< k) k = a := by
    intro a k ha
    unfold own_w
    rw [Nat.shiftLeft_shiftRight, Nat.mod_eq_of_lt ha]
  refine ⟨?_, ?_, ?_, ?_⟩
  · rw [own_w_xor, own_w_xor, own_w_xor, same l0, own_w_up l1 (by decide), own_w_up l2 (by decide), own_w_up l3 (by decide), Nat.xor_zero, Nat.xor_zero, Nat.xor_zero]
  · rw [own_w_xor, own_w_xor, own_w_xor, own_w_down l0 (by decide), same l1, own_w_up l2 (by decide), own_w_up l3 (by decide), Nat.zero_xor, Nat.xor_zero, Nat.xor_zero]
  · rw [own_w_xor, own_w_xor, own_w_xor, own_w_down l0 (by decide), own_w_down l1 (by decide), same l2, own_w_up l3 (by decide), Nat.zero_xor, Nat.zero_xor, Nat.xor_zero]
  · rw [own_w_xor, own_w_xor, own_w_xor, own_w_down l0 (by decide), own_w_down l1 (by decide), own_w_down l2 (by decide), same l3, Nat.zero_xor, Nat.zero_xor, Nat.zero_xor]
theorem own_pk_lt (w0 w1 w2 w3 : Int64) : own_pk w0 w1 w2 w3 < 2 ^ 256 := by
  have l0 := own_n_lt w0
  have l1 := own_n_lt w1
  have l2 := own_n_lt w2
  have l3 := own_n_lt w3
  rw [own_p64] at l0 l1 l2 l3
  have hx : ∀ {x k : Nat}, x < 2 ^ 64 → k ≤ 192 → x <<< k < 2 ^ 256 := by
    intro x k h hk
    rw [Nat.shiftLeft_eq]
    have : x * 2 ^ k < 2 ^ 64 * 2 ^ k := Nat.mul_lt_mul_of_pos_right h (Nat.two_pow_pos _)
    rw [← Nat.pow_add] at this
    exact Nat.lt_of_lt_of_le this (Nat.pow_le_pow_right (by decide) (by omega))
  exact Nat.xor_lt_two_pow (Nat.xor_lt_two_pow (Nat.xor_lt_two_pow (Nat.lt_trans l0 (by decide +kernel)) (hx l1 (by decide))) (hx l2 (by decide))) (hx l3 (by decide))
/-- one step of the engine, as the code has it -/
def own_s0 (w0 w1 w2 w3 : Int64) : Int64 := w0 ^^^ (w3 ^^^ w1)
def own_s1 (w0 w1 w2 w3 : Int64) : Int64 := w1 ^^^ (w2 ^^^ w0)
def own_s2 (w0 w1 w2 w3 : Int64) : Int64 := (w2 ^^^ w0) ^^^ own_shl w1 17
def own_s3 (w0 w1 w2 w3 : Int64) : Int64 := own_rotl (w3 ^^^ w1) 45
def own_res (w0 w1 w2 w3 : Int64) : Int64 := own_rotl (w0 + w3) 23 + w0
theorem own_pk_T (w0 w1 w2 w3 : Int64) : own_pk (own_s0 w0 w1 w2 w3) (own_s1 w0 w1 w2 w3) (own_s2 w0 w1 w2 w3) (own_s3 w0 w1 w2 w3) = own_T (own_pk w0 w1 w2 w3) := by
  obtain ⟨e0, e1, e2, e3⟩ := own_pk_w w0 w1 w2 w3
  unfold own_T
  rw [e0, e1, e2, e3]
  unfold own_pk own_s0 own_s1 own_s2 own_s3
  rw [own_n_xor, own_n_xor, own_n_xor, own_n_xor, own_n_xor, own_n_rot45, own_n_xor, own_n_shl17, Nat.shiftLeft_eq (own_n w1) 17, show (2 : Nat) ^ 17 = 131072 from rfl]
  rw [own_n_xor, show own_n w0 ^^^ (own_n w3 ^^^ own_n w1) = own_n w0 ^^^ own_n w1 ^^^ own_n w3 by ac_rfl, show own_n w1 ^^^ (own_n w2 ^^^ own_n w0) = own_n w0 ^^^ own_n w1 ^^^ own_n w2 by ac_rfl, show own_n w3 ^^^ own_n w1 = own_n w1 ^^^ own_n w3 from Nat.xor_comm _ _, show own_n w2 ^^^ own_n w0 = own_n w0 ^^^ own_n w2 from Nat.xor_comm _ _]
theorem own_pk_out (w0 w1 w2 w3 : Int64) : own_n (own_res w0 w1 w2 w3) = own_out (own_pk w0 w1 w2 w3) := by
  obtain ⟨e0, e1, e2, e3⟩ := own_pk_w w0 w1 w2 w3
  unfold own_out own_res
  rw [e0, e3, own_n_add, own_n_rot23, own_n_add]
def OwnNZ (w0 w1 w2 w3 : Int64) : Prop := own_pk w0 w1 w2 w3 ≠ 0
theorem own_nz_step {w0 w1 w2 w3 : Int64} (h : OwnNZ w0 w1 w2 w3) : OwnNZ (own_s0 w0 w1 w2 w3) (own_s1 w0 w1 w2 w3) (own_s2 w0 w1 w2 w3) (own_s3 w0 w1 w2 w3) := by
  intro q
  rw [own_pk_T] at q
  exact h (own_T_inj (own_pk_lt w0 w1 w2 w3) (Nat.two_pow_pos 256) (by rw [q, own_T_zero]))
/-- the product of a draw -/
def own_prod (r : Int64) (b : Int32) : Int64 := own_shr r 32 * b.toInt64
theorem own_prod_int {r : Int64} {b : Int32} (h1 : 0 ≤ b.toInt) (h2 : b.toInt ≤ 8) : (own_prod r b).toInt = ((own_n r / 4294967296 * b.toInt.toNat : Nat) : Int) := by
  have hs := own_shr_int r 32 32 (by decide) (by decide)
  rw [show (2 : Nat) ^ 32 = 4294967296 from rfl] at hs
  have h := c_lmul (own_shr r 32) b.toInt64
  rw [hs, c_i2l] at h
  have hn := own_n_lt r
  have hb : b.toInt = ((b.toInt.toNat : Nat) : Int) := by omega
  have hx : own_n r / 4294967296 ≤ 4294967295 := by omega
  have hm := Nat.mul_le_mul hx (show b.toInt.toNat ≤ 8 by omega)
  rw [hb, ← Int.natCast_mul] at h
  have t1 := (own_prod r b).toInt_lt
  have t2 := (own_prod r b).le_toInt
  have h : ((own_prod r b).toInt - ((own_n r / 4294967296 * b.toInt.toNat : Nat) : Int)) % 18446744073709551616 = 0 := h
  generalize own_n r / 4294967296 * b.toInt.toNat = m at h hm ⊢
  omega
theorem own_low {r : Int64} {b : Int32} (h1 : 0 ≤ b.toInt) (h2 : b.toInt ≤ 8) : (own_prod r b &&& (4294967295 : Int64)).toInt = ((own_n r / 4294967296 * b.toInt.toNat % 4294967296 : Nat) : Int) := by
  have h := c_maskL (own_prod r b) 4294967295 32 (by decide) (by decide)
  rw [own_prod_int h1 h2, show ((2 ^ 32 : Nat) : Int) = 4294967296 from rfl] at h
  rw [h]
  exact (Int.natCast_emod _ _).symm
theorem own_pick {r : Int64} {b : Int32} (h1 : 0 < b.toInt) (h2 : b.toInt ≤ 8) : 0 ≤ ((own_shr (own_prod r b) 32).toInt32).toInt ∧ ((own_shr (own_prod r b) 32).toInt32).toInt < b.toInt := by
  have hp := own_prod_int (r := r) (by omega) h2
  have hs := c_lushr (own_prod r b) 32 32 (by decide) (by decide)
  rw [hp, show ((2 ^ 32 : Nat) : Int) = 4294967296 from rfl] at hs
  have hn := own_n_lt r
  have hx : own_n r / 4294967296 ≤ 4294967295 := by omega
  have hb : b.toInt = ((b.toInt.toNat : Nat) : Int) := by omega
  have hm : own_n r / 4294967296 * b.toInt.toNat ≤ 4294967295 * b.toInt.toNat := Nat.mul_le_mul_right _ hx
  have hs : (own_shr (own_prod r b) 32).toInt = ((own_n r / 4294967296 * b.toInt.toNat : Nat) : Int) % 18446744073709551616 / 4294967296 := hs
  have hc := c_l2i (own_shr (own_prod r b) 32)
  have t1 := ((own_shr (own_prod r b) 32).toInt32).toInt_lt
  have t2 := ((own_shr (own_prod r b) 32).toInt32).le_toInt
  generalize own_n r / 4294967296 * b.toInt.toNat = m at hs hm hp
  omega
end OwnXob
section OwnRnd
variable {Z : State} {h h' : Heap} {a b : Addr} {w0 w1 w2 w3 : Int64}
/-- a SeededRandom and its four words -/
def OwnR (Z : State) (h : Heap) (a : Addr) (w0 w1 w2 w3 : Int64) : Prop :=
  Exa Z h a "com/example/mutatune/mutatune/engine/SeededRandom" ∧ Fld Z h a "com/example/mutatune/mutatune/engine/SeededRandom" "s0" "J" (.long w0) ∧ Fld Z h a "com/example/mutatune/mutatune/engine/SeededRandom" "s1" "J" (.long w1) ∧
    Fld Z h a "com/example/mutatune/mutatune/engine/SeededRandom" "s2" "J" (.long w2) ∧ Fld Z h a "com/example/mutatune/mutatune/engine/SeededRandom" "s3" "J" (.long w3)
theorem OwnR.lt (R : OwnR Z h a w0 w1 w2 w3) : a < h.size := R.1.lt
theorem OwnR.ext (R : OwnR Z h a w0 w1 w2 w3) (E : Ext h h') : OwnR Z h' a w0 w1 w2 w3 := by
  obtain ⟨r0, r1, r2, r3, r4⟩ := R
  exact ⟨r0.ext E, r1.ext E, r2.ext E, r3.ext E, r4.ext E⟩
theorem OwnR.keep {ws : List Addr} (R : OwnR Z h a w0 w1 w2 w3) (K : Keep h h' ws) (q : a ∉ ws) : OwnR Z h' a w0 w1 w2 w3 := by
  obtain ⟨r0, r1, r2, r3, r4⟩ := R
  exact ⟨r0.keep K, r1.keep K q, r2.keep K q, r3.keep K q, r4.keep K q⟩
theorem OwnR.wr {sl : Nat} {v : Value} (R : OwnR Z h a w0 w1 w2 w3) (W : Wr h h' b sl v) (q : a ≠ b) : OwnR Z h' a w0 w1 w2 w3 := R.keep (Keep.of_wr W) (own_nin1 q)
/-- SplitMix64's finaliser -/
def own_m1 (z : Int64) : Int64 := (z ^^^ own_shr z 30) * (-4658895280553007687 : Int64)
def own_m2 (z : Int64) : Int64 := (z ^^^ own_shr z 27) * (-7723592293110705685 : Int64)
def own_mix (z : Int64) : Int64 := own_m2 (own_m1 z) ^^^ own_shr (own_m2 (own_m1 z)) 31
theorem own_n_zero : own_n 0 = 0 := by decide
theorem own_xs_zero {z : Int64} {q : Int32} {k : Nat} (hk : q.toBitVec.toNat % 64 = k) (h0 : 0 < k) (h : z ^^^ own_shr z q = 0) : z = 0 := by
  have e := congrArg own_n h
  rw [own_n_xor, own_n_zero] at e
  have e2 : own_n z = own_n (own_shr z q) := by
    rw [← Nat.zero_xor (own_n (own_shr z q)), ← e, Nat.xor_assoc, Nat.xor_self, Nat.xor_zero]
  have hs := own_shr_int z q k hk h0
  have hl := own_n_lt (own_shr z q)
  have hz := own_n_lt z
  have hp : 2 ^ 1 ≤ 2 ^ k := Nat.pow_le_pow_right (by decide) h0
  have e3 : own_n z = own_n z / 2 ^ k := by
    have hd : own_n z / 2 ^ k ≤ own_n z / 2 ^ 1 := Nat.div_le_div_left hp (by decide)
    generalize own_n z / 2 ^ k = d at hs hd ⊢
    rcases own_n_int (own_shr z q) with x | x <;> omega
  have hd : own_n z / 2 ^ k ≤ own_n z / 2 ^ 1 := Nat.div_le_div_left hp (by decide)
  refine own_n_inj ?_
  rw [own_n_zero]
  omega
theorem own_mul_zero {x c d : Int64} (hc : c * d = 1) (h : x * c = 0) : x = 0 := by
  have e : x * c * d = x := by rw [Int64.mul_assoc, hc, Int64.mul_one]
  rw [h, Int64.zero_mul] at e
  exact e.symm
theorem own_mix_zero {z : Int64} (h : own_mix z = 0) : z = 0 := by
  have h1 := own_xs_zero (q := 31) (k := 31) (by decide) (by decide) h
  have h2 := own_mul_zero (d := (3573116690164977347 : Int64)) (by decide) h1
  have h3 := own_xs_zero (q := 27) (k := 27) (by decide) (by decide) h2
  have h4 := own_mul_zero (d := (-7575587736534282103 : Int64)) (by decide) h3
  exact own_xs_zero (q := 30) (k := 30) (by decide) (by decide) h4
theorem own_seed_nz (z : Int64) (a2 a3 : Int64) : OwnNZ (own_mix z) (own_mix (z + (-7046029254386353131 : Int64))) a2 a3 := by
  intro q
  obtain ⟨e0, e1, -, -⟩ := own_pk_w (own_mix z) (own_mix (z + (-7046029254386353131 : Int64))) a2 a3
  rw [q] at e0 e1
  have hw : ∀ k, own_w 0 k = 0 := fun k => by unfold own_w; rw [Nat.zero_shiftRight, Nat.zero_mod]
  rw [hw] at e0 e1
  have z0 := own_mix_zero (own_n_inj (by rw [own_n_zero]; exact e0.symm))
  have z1 := own_mix_zero (own_n_inj (by rw [own_n_zero]; exact e1.symm))
  rw [z0] at z1
  exact absurd z1 (by decide)
theorem own_unit_val : Jvm.FP.Core.val64 4368491638549381120 = .fin false (2 ^ 52) (-105) := by decide +kernel
theorem own_unit_z : OwnZ 4368491638549381120 (2 ^ 1021) := by
  refine ⟨⟨_, _, own_unit_val⟩, ?_⟩
  rw [own_unit_val, own_zmag_fin, own_qmin, show ((-105 : Int) - -1074).toNat = 969 from rfl, ← Nat.pow_add]
/-- nextDouble's value -/
theorem own_dbl (r : Int64) : ∃ y, y < 2 ^ 53 ∧ OwnZ (FP.dmul (FP.l2d (own_shr r 11)) 4368491638549381120) (y * 2 ^ 1021) := by
  have hs := own_shr_int r 11 11 (by decide) (by decide)
  have hn := own_n_lt r
  rw [show (2 : Nat) ^ 11 = 2048 from rfl] at hs
  refine ⟨own_n r / 2048, by omega, ?_⟩
  have hl := own_l2d (v := own_shr r 11) (by omega) (by omega)
  rw [hs, Int.toNat_natCast] at hl
  refine OwnZ.mul hl own_unit_z (OwnRep.of (by omega) (by decide)) ?_
  rw [Nat.mul_assoc, Nat.mul_assoc, Nat.mul_comm Jvm.FP.Core.one64]
/-- the bound under which a draw is thrown away -/
def own_thr (b : Int32) : Int64 := ((4294967296 : Int64) - ((4294967296 : Int64) / b.toInt64) * b.toInt64)
theorem own_thr_le {b : Int32} (h1 : 2 ≤ b.toInt) (h2 : b.toInt ≤ 6) : (own_thr b).toInt ≤ 4 := by
  have h := (c_lrem (4294967296 : Int64) b.toInt64 b.toInt (c_i2l b)).1 (by decide)
  have h : (own_thr b).toInt = (4294967296 : Int64).toInt % b.toInt := h
  rw [h, show (4294967296 : Int64).toInt = 4294967296 from rfl]
  have hb : b.toInt = 2 ∨ b.toInt = 3 ∨ b.toInt = 4 ∨ b.toInt = 5 ∨ b.toInt = 6 := by omega
  rcases hb with e | e | e | e | e <;> rw [e] <;> decide
theorem own_b64 {b : Int32} (h1 : 2 ≤ b.toInt) : b.toInt64 ≠ 0 := fun q => by
  have := c_i2l b
  rw [q, show (0 : Int64).toInt = 0 from rfl] at this
  omega
theorem own_ge_t {x y : Int64} (h : ¬ x < y) : ifCond.holds .ge (lcmpW x y) = true := by
  have h1 := c_lcmp x y
  rw [Int64.lt_iff_toInt_lt] at h
  refine XT.i0_ge_t ?_
  rw [Int32.lt_iff_toInt_lt, show (0 : Int32).toInt = 0 from rfl]
  rcases Int.lt_trichotomy x.toInt y.toInt with q | q | q
  · omega
  · rw [h1.2.1 q]; omega
  · rw [h1.2.2 q]; omega
theorem own_ge_f {x y : Int64} (h : x < y) : ifCond.holds .ge (lcmpW x y) = false := by
  have h1 := c_lcmp x y
  rw [Int64.lt_iff_toInt_lt] at h
  refine XT.i0_ge_f ?_
  rw [Int32.lt_iff_toInt_lt, show (0 : Int32).toInt = 0 from rfl, h1.1 h]
  omega
theorem own_keep_draw {b : Int32} (h1 : 2 ≤ b.toInt) (h2 : b.toInt ≤ 6) (h : ¬ OwnRej b.toInt.toNat (own_pk w0 w1 w2 w3)) : ¬ (own_prod (own_res w0 w1 w2 w3) b &&& (4294967295 : Int64)) < own_thr b := by
  have hl := own_low (r := own_res w0 w1 w2 w3) (b := b) (by omega) (by omega)
  have ht := own_thr_le h1 h2
  rw [own_pk_out] at hl
  unfold OwnRej at h
  rw [Int64.lt_iff_toInt_lt]
  generalize own_out (own_pk w0 w1 w2 w3) / 4294967296 * b.toInt.toNat % 4294967296 = m at hl h
  omega
theorem own_it_step (n : Nat) : own_it n (own_pk (own_s0 w0 w1 w2 w3) (own_s1 w0 w1 w2 w3) (own_s2 w0 w1 w2 w3) (own_s3 w0 w1 w2 w3)) = own_it (n + 1) (own_pk w0 w1 w2 w3) := by
  rw [own_pk_T, own_it_add n 1]
  rfl
end OwnRnd
section OwnHot
/-- ints: A at the place p, B elsewhere -/
def own_hot (p : Nat) (A B : Int32) : Nat → Value := fun i => .int (if i = p then A else B)
theorem own_swap {p I J : Nat} {A B xi xj : Int32} (hi : xi = if I = p then A else B) (hj : xj = if J = p then A else B) (k : Nat) :
    (if k = J then Value.int xi else if k = I then .int xj else own_hot p A B k) = own_hot (if p = I then J else if p = J then I else p) A B k := by
  have hi' : xi = if p = I then A else B := by
    rw [hi]
    by_cases q : I = p
    · rw [if_pos q, if_pos q.symm]
    · rw [if_neg q, if_neg (fun z => q z.symm)]
  have hj' : xj = if p = J then A else B := by
    rw [hj]
    by_cases q : J = p
    · rw [if_pos q, if_pos q.symm]
    · rw [if_neg q, if_neg (fun z => q z.symm)]
  clear hi hj
  subst hi' hj'
  unfold own_hot
  by_cases h1 : k = J <;> by_cases h2 : k = I <;> by_cases h3 : p = I <;> by_cases h4 : p = J <;> simp_all <;> omega
theorem own_clamp {x : Int32} : x.toNatClampNeg = x.toInt.toNat := rfl
theorem own_nneg {x : Int32} (h1 : 0 ≤ x.toInt) : ¬ x < 0 := fun q => by rw [Int32.lt_iff_toInt_lt, show (0 : Int32).toInt = 0 from rfl] at q; omega
theorem own_idx {x : Int32} {k n : Nat} (h : x.toInt = (k : Int)) (hk : k < n) : ¬ x < 0 ∧ x.toNatClampNeg < n := ⟨own_nneg (by omega), by rw [own_clamp]; omega⟩
theorem own_cl {x : Int32} {k : Nat} (h : x.toInt = (k : Int)) : x.toNatClampNeg = k := by rw [own_clamp]; omega
theorem own_lt32 {x y : Int32} : x < y ↔ x.toInt < y.toInt := Int32.lt_iff_toInt_lt
theorem own_add_c {x y : Int32} {a b : Int} (hx : x.toInt = a) (hy : y.toInt = b) (h1 : -2147483648 ≤ a + b) (h2 : a + b < 2147483648) : (x + y).toInt = a + b := by
  have h := c_iadd x y
  have t1 := (x + y).toInt_lt
  have t2 := (x + y).le_toInt
  omega
theorem own_dec_c {i : Int32} {k : Nat} (hi : i.toInt = ((k + 1 : Nat) : Int)) (hk : k < 1000) : (i + (-1 : Int32)).toInt = (k : Int) := by
  have e : (-1 : Int32).toInt = -1 := by decide
  have y := own_add_c hi e (by omega) (by omega)
  rw [y]
  omega
theorem own_sub_c {x y : Int32} {a b : Int} (hx : x.toInt = a) (hy : y.toInt = b) (h1 : -2147483648 ≤ a - b) (h2 : a - b < 2147483648) : (x - y).toInt = a - b := by
  have h := c_isub x y
  have t1 := (x - y).toInt_lt
  have t2 := (x - y).le_toInt
  omega
theorem own_two_c {x : Int32} {a : Int} (hx : x.toInt = a) (h1 : 0 ≤ a) (h2 : a ≤ 1000) : ((2 : Int32) * x).toInt = 2 * a := by
  have h := c_imul 2 x
  rw [show (2 : Int32).toInt = 2 from rfl, hx] at h
  have t1 := ((2 : Int32) * x).toInt_lt
  have t2 := ((2 : Int32) * x).le_toInt
  omega
theorem own_rem32 (x y : Int32) : x - (x / y) * y = x % y := irem_eq_mod x y
theorem own_rem_c {x y : Int32} {a b : Nat} (hx : x.toInt = (a : Int)) (hy : y.toInt = (b : Int)) : (x - (x / y) * y).toInt = ((a % b : Nat) : Int) := by
  rw [own_rem32]
  have h := (c_irem x y b hy).1 (by omega)
  rw [h, hx]
  exact (Int.natCast_emod _ _).symm
theorem own_ltC {x y : Int32} {a b : Int} (hx : x.toInt = a) (hy : y.toInt = b) : x < y ↔ a < b := by rw [own_lt32, hx, hy]
end OwnHot
def Q8 (Z : State) (x1 : Int64) (k1 : Int32) (h0 : Heap) (n0 : Nat) (v : Option Value) (h : Heap) (L : List Loc) : Prop := v = some (.long (own_rotl x1 k1)) ∧ Fr n0 L ∧ h = h0
theorem pn0 : plainName "java/lang/Long" = true := by first | (simp [plainName, overriddenIn]; done) | decide +kernel
theorem ef8 (m : MethodId) (x0 : Int64) (x1 : Int32) : entryFrame m #[(.long x0), (.int x1)] 3 = mkF m 0 #[.val (.long x0), .second, .val (.int x1)] [] := by first | (simp [entryFrame, mkF, argsToLocals, Value.category]; done) | rfl
theorem d8_0 : decode jdk_35_method_51_code 0 = .ok (.lload_n 0, 1) := by decide +kernel
theorem d8_1 : decode jdk_35_method_51_code 1 = .ok (.iload_n 2, 1) := by decide +kernel
theorem d8_2 : decode jdk_35_method_51_code 2 = .ok (.lshl, 1) := by decide +kernel
theorem d8_3 : decode jdk_35_method_51_code 3 = .ok (.lload_n 0, 1) := by decide +kernel
theorem d8_4 : decode jdk_35_method_51_code 4 = .ok (.iload_n 2, 1) := by decide +kernel
theorem d8_5 : decode jdk_35_method_51_code 5 = .ok (.ineg, 1) := by decide +kernel
theorem d8_6 : decode jdk_35_method_51_code 6 = .ok (.lushr, 1) := by decide +kernel
theorem d8_7 : decode jdk_35_method_51_code 7 = .ok (.lor, 1) := by decide +kernel
theorem d8_8 : decode jdk_35_method_51_code 8 = .ok (.lreturn, 1) := by decide +kernel
set_option maxRecDepth 65536 in
set_option maxHeartbeats 40000000 in
theorem rm8 (l : Launch) (Z : State) (a0 : Array Value) (hw : ∀ d ∈ tables_1, d.before a0 Z = true) (ws : List Jvm.Cond) (x1 : Int64) (k1 : Int32) (h0 : Heap) (n0 : Nat) (Z0 : n0 ≤ h0.size)  :
    MetFree l (⟨"java/lang/Long", "rotateLeft", "(JI)J"⟩ : MethodName) (head1 (Jvm.Cond.code (⟨"java/lang/Long", "rotateLeft", "(JI)J"⟩ : MethodName) jdk_35_method_51_code 3 (some .long) :: ws) ({ frames := 0, cells := 0, slots := 0, locals := 0 } : Room)) (fun a U => a = #[(.long x1), (.int k1)] ∧ Z.Warmed39 U.vm ∧ U.heap = h0) (fun _ _ _ _ _ => True) (fun _ U o U' => ∃ v L, o = .returned v ∧ Q8 Z x1 k1 h0 n0 v U'.heap L ∧ FrameEnd U o U' L ({ frames := 0, cells := 0, slots := 0, locals := 0 } : Room).cells ({ frames := 0, cells := 0, slots := 0, locals := 0 } : Room).slots) := by
  refine MetFree.of_bodySF (plainFor_of_name pn0) hisR ?_
  intro p e s m args below meth c s₁ Bd hml0 hP hK
  obtain ⟨rfl, hZ, hh⟩ := hP
  have hx := Bd.exec
  have hby := Bd.bytes
  have hml : c.maxLocals = 3 := hml0
  have hown : s.vm.findClass "java/lang/Long" = some m.cls := findClass_of_methodNamed Bd.named
  have hnm := (name_of_methodNamed Bd.named Bd.method).1
  have X0 : Stand p l e ({ frames := 0, cells := 0, slots := 0, locals := 0 } : Room) s m #[(.long x1), (.int k1)] below meth c s₁ [] 0 0 := Stand.of_body Bd
  have e0 : s₁.heap = h0 := by rw [← hh, Bd.state]; rfl
  have N0 := Fr.nil n0
  have pre0 : ∀ t, Steps p.tables e below (s₁.setTop (mkF m 0 #[.val (.long x1), .second, .val (.int k1)] [])) t → Steps p.tables e below (s₁.setTop (entryFrame m #[(.long x1), (.int k1)] 3)) t := fun t k => castTop (ef8 m x1 k1) k
  have C1 : ∀ t, Steps p.tables e below (s₁.setTop (mkF m 8 #[.val (.long x1), .second, .val (.int k1)] [(.long (own_rotl x1 k1))])) t → Steps p.tables e below (s₁.setTop (entryFrame m #[(.long x1), (.int k1)] 3)) t := by
    intro t k
    refine pre0 t ?_
    show Steps p.tables e below (s₁.setTop (mkF m 0 #[.val (.long x1), .second, .val (.int k1)] [])) _
    refine XS.lloadN X0.here hx rfl (hb hby d8_0) rfl ?_
    show Steps p.tables e below (s₁.setTop (mkF m 1 #[.val (.long x1), .second, .val (.int k1)] [(.long x1)])) _
    refine XS.iloadN X0.here hx rfl (hb hby d8_1) rfl ?_
    show Steps p.tables e below (s₁.setTop (mkF m 2 #[.val (.long x1), .second, .val (.int k1)] [(.int k1), (.long x1)])) _
    refine XS.lshl X0.here hx rfl (hb hby d8_2) rfl ?_
    show Steps p.tables e below (s₁.setTop (mkF m 3 #[.val (.long x1), .second, .val (.int k1)] [(.long (own_shl x1 k1))])) _
    refine XS.lloadN X0.here hx rfl (hb hby d8_3) rfl ?_
    show Steps p.tables e below (s₁.setTop (mkF m 4 #[.val (.long x1), .second, .val (.int k1)] [(.long x1), (.long (own_shl x1 k1))])) _
    refine XS.iloadN X0.here hx rfl (hb hby d8_4) rfl ?_
    show Steps p.tables e below (s₁.setTop (mkF m 5 #[.val (.long x1), .second, .val (.int k1)] [(.int k1), (.long x1), (.long (own_shl x1 k1))])) _
    refine XS.ineg X0.here hx rfl (hb hby d8_5) rfl ?_
    show Steps p.tables e below (s₁.setTop (mkF m 6 #[.val (.long x1), .second, .val (.int k1)] [(.int (-k1)), (.long x1), (.long (own_shl x1 k1))])) _
    refine XS.lushr X0.here hx rfl (hb hby d8_6) rfl ?_
    show Steps p.tables e below (s₁.setTop (mkF m 7 #[.val (.long x1), .second, .val (.int k1)] [(.long (own_shr x1 (-k1))), (.long (own_shl x1 k1))])) _
    refine XS.lor X0.here hx rfl (hb hby d8_7) rfl ?_
    exact k
  obtain ⟨fs, hr, hrun, hended, hW, hsame⟩ := X0.leave (v := some (.long (own_rotl x1 k1))) (fun h => by rw [Bd.returns] at h; cases h)
  refine ⟨_, _, C1 _ ?_, hrun, hended, _, _, rfl, ?_, ⟨_, rfl⟩, hW, hsame.mono (by decide) (by decide)⟩
  · show Steps p.tables e below (s₁.setTop (mkF m 8 #[.val (.long x1), .second, .val (.int k1)] [(.long (own_rotl x1 k1))])) _
    exact retOut X0 hx Bd.returns rfl (Or.inr (Or.inl ⟨rfl, rfl, _, rfl⟩)) (hb hby d8_8) hr
  · show Q8 Z x1 k1 h0 n0 _ s₁.heap _
    rw [e0]
    exact ⟨rfl, N0, rfl⟩
def Q3 (Z : State) (x1 : Int64) (h0 : Heap) (n0 : Nat) (v : Option Value) (h : Heap) (L : List Loc) : Prop := v = some (.long (own_mix x1)) ∧ Fr n0 L ∧ h = h0
theorem pn1 : plainName "com/example/mutatune/mutatune/engine/SeededRandom" = true := by first | (simp [plainName, overriddenIn]; done) | decide +kernel
theorem ef3 (m : MethodId) (x0 : Int64) : entryFrame m #[(.long x0)] 4 = mkF m 0 #[.val (.long x0), .second, .unset, .unset] [] := by first | (simp [entryFrame, mkF, argsToLocals, Value.category]; done) | rfl
theorem d3_0 : decode prog_47_method_7_code 0 = .ok (.lload_n 0, 1) := by decide +kernel
theorem d3_1 : decode prog_47_method_7_code 1 = .ok (.lload_n 0, 1) := by decide +kernel
theorem d3_2 : decode prog_47_method_7_code 2 = .ok (.bipush 30, 2) := by decide +kernel
theorem d3_4 : decode prog_47_method_7_code 4 = .ok (.lushr, 1) := by decide +kernel
theorem d3_5 : decode prog_47_method_7_code 5 = .ok (.lxor, 1) := by decide +kernel
theorem d3_6 : decode prog_47_method_7_code 6 = .ok (.ldc2_w 77, 3) := by decide +kernel
theorem d3_9 : decode prog_47_method_7_code 9 = .ok (.lmul, 1) := by decide +kernel
theorem d3_10 : decode prog_47_method_7_code 10 = .ok (.lstore_n 2, 1) := by decide +kernel
theorem d3_11 : decode prog_47_method_7_code 11 = .ok (.lload_n 2, 1) := by decide +kernel
theorem d3_12 : decode prog_47_method_7_code 12 = .ok (.lload_n 2, 1) := by decide +kernel
theorem d3_13 : decode prog_47_method_7_code 13 = .ok (.bipush 27, 2) := by decide +kernel
theorem d3_15 : decode prog_47_method_7_code 15 = .ok (.lushr, 1) := by decide +kernel
theorem d3_16 : decode prog_47_method_7_code 16 = .ok (.lxor, 1) := by decide +kernel
theorem d3_17 : decode prog_47_method_7_code 17 = .ok (.ldc2_w 79, 3) := by decide +kernel
theorem d3_20 : decode prog_47_method_7_code 20 = .ok (.lmul, 1) := by decide +kernel
theorem d3_21 : decode prog_47_method_7_code 21 = .ok (.lstore_n 2, 1) := by decide +kernel
theorem d3_22 : decode prog_47_method_7_code 22 = .ok (.lload_n 2, 1) := by decide +kernel
theorem d3_23 : decode prog_47_method_7_code 23 = .ok (.lload_n 2, 1) := by decide +kernel
theorem d3_24 : decode prog_47_method_7_code 24 = .ok (.bipush 31, 2) := by decide +kernel
theorem d3_26 : decode prog_47_method_7_code 26 = .ok (.lushr, 1) := by decide +kernel
theorem d3_27 : decode prog_47_method_7_code 27 = .ok (.lxor, 1) := by decide +kernel
theorem d3_28 : decode prog_47_method_7_code 28 = .ok (.lreturn, 1) := by decide +kernel
set_option maxRecDepth 65536 in
set_option maxHeartbeats 40000000 in
theorem rm3 (l : Launch) (Z : State) (a0 : Array Value) (hw : ∀ d ∈ tables_1, d.before a0 Z = true) (ws : List Jvm.Cond) (x1 : Int64) (h0 : Heap) (n0 : Nat) (Z0 : n0 ≤ h0.size)  :
    MetFree l (⟨"com/example/mutatune/mutatune/engine/SeededRandom", "mix64", "(J)J"⟩ : MethodName) (head1 (Jvm.Cond.code (⟨"com/example/mutatune/mutatune/engine/SeededRandom", "mix64", "(J)J"⟩ : MethodName) prog_47_method_7_code 4 (some .long) :: ws) ({ frames := 0, cells := 0, slots := 0, locals := 0 } : Room)) (fun a U => a = #[(.long x1)] ∧ Z.Warmed39 U.vm ∧ U.heap = h0) (fun _ _ _ _ _ => True) (fun _ U o U' => ∃ v L, o = .returned v ∧ Q3 Z x1 h0 n0 v U'.heap L ∧ FrameEnd U o U' L ({ frames := 0, cells := 0, slots := 0, locals := 0 } : Room).cells ({ frames := 0, cells := 0, slots := 0, locals := 0 } : Room).slots) := by
  refine MetFree.of_bodySF (plainFor_of_name pn1) hisR ?_
  intro p e s m args below meth c s₁ Bd hml0 hP hK
  obtain ⟨rfl, hZ, hh⟩ := hP
  have hx := Bd.exec
  have hby := Bd.bytes
  have hml : c.maxLocals = 4 := hml0
  have hown : s.vm.findClass "com/example/mutatune/mutatune/engine/SeededRandom" = some m.cls := findClass_of_methodNamed Bd.named
  have hnm := (name_of_methodNamed Bd.named Bd.method).1
  have X0 : Stand p l e ({ frames := 0, cells := 0, slots := 0, locals := 0 } : Room) s m #[(.long x1)] below meth c s₁ [] 0 0 := Stand.of_body Bd
  have e0 : s₁.heap = h0 := by rw [← hh, Bd.state]; rfl
  have N0 := Fr.nil n0
  have pre0 : ∀ t, Steps p.tables e below (s₁.setTop (mkF m 0 #[.val (.long x1), .second, .unset, .unset] [])) t → Steps p.tables e below (s₁.setTop (entryFrame m #[(.long x1)] 4)) t := fun t k => castTop (ef3 m x1) k
  have C2 : ∀ t, Steps p.tables e below (s₁.setTop (mkF m 28 #[.val (.long x1), .second, .val (.long (own_m2 (own_m1 x1))), .second] [(.long (own_mix x1))])) t → Steps p.tables e below (s₁.setTop (entryFrame m #[(.long x1)] 4)) t := by
    intro t k
    refine pre0 t ?_
    show Steps p.tables e below (s₁.setTop (mkF m 0 #[.val (.long x1), .second, .unset, .unset] [])) _
    refine XS.lloadN X0.here hx rfl (hb hby d3_0) rfl ?_
    show Steps p.tables e below (s₁.setTop (mkF m 1 #[.val (.long x1), .second, .unset, .unset] [(.long x1)])) _
    refine XS.lloadN X0.here hx rfl (hb hby d3_1) rfl ?_
    show Steps p.tables e below (s₁.setTop (mkF m 2 #[.val (.long x1), .second, .unset, .unset] [(.long x1), (.long x1)])) _
    refine XS.bipush X0.here hx rfl (hb hby d3_2) ?_
    show Steps p.tables e below (s₁.setTop (mkF m 4 #[.val (.long x1), .second, .unset, .unset] [(.int (30 : Int32)), (.long x1), (.long x1)])) _
    refine XS.lushr X0.here hx rfl (hb hby d3_4) rfl ?_
    show Steps p.tables e below (s₁.setTop (mkF m 5 #[.val (.long x1), .second, .unset, .unset] [(.long (own_shr x1 (30 : Int32))), (.long x1)])) _
    refine XS.lxor X0.here hx rfl (hb hby d3_5) rfl ?_
    show Steps p.tables e below (s₁.setTop (mkF m 6 #[.val (.long x1), .second, .unset, .unset] [(.long (x1 ^^^ (own_shr x1 (30 : Int32))))])) _
    refine X0.ldc2Long hx hown (mvT hZ (hw _ (List.mem_of_getElem? (i := 15) rfl))) (g := (mkF m 6 #[.val (.long x1), .second, .unset, .unset] [(.long (x1 ^^^ (own_shr x1 (30 : Int32))))])) rfl (hb hby d3_6) _ ?_
    show Steps p.tables e below (s₁.setTop (mkF m 9 #[.val (.long x1), .second, .unset, .unset] [(.long (-4658895280553007687 : Int64)), (.long (x1 ^^^ (own_shr x1 (30 : Int32))))])) _
    refine XS.lmul X0.here hx rfl (hb hby d3_9) rfl ?_
    show Steps p.tables e below (s₁.setTop (mkF m 10 #[.val (.long x1), .second, .unset, .unset] [(.long (own_m1 x1))])) _
    refine XS.lstoreN X0.here hx rfl (hb hby d3_10) rfl (l' := #[.val (.long x1), .second, .val (.long (own_m1 x1)), .second]) rfl ?_
    show Steps p.tables e below (s₁.setTop (mkF m 11 #[.val (.long x1), .second, .val (.long (own_m1 x1)), .second] [])) _
    refine XS.lloadN X0.here hx rfl (hb hby d3_11) rfl ?_
    show Steps p.tables e below (s₁.setTop (mkF m 12 #[.val (.long x1), .second, .val (.long (own_m1 x1)), .second] [(.long (own_m1 x1))])) _
    refine XS.lloadN X0.here hx rfl (hb hby d3_12) rfl ?_
    show Steps p.tables e below (s₁.setTop (mkF m 13 #[.val (.long x1), .second, .val (.long (own_m1 x1)), .second] [(.long (own_m1 x1)), (.long (own_m1 x1))])) _
    refine XS.bipush X0.here hx rfl (hb hby d3_13) ?_
    show Steps p.tables e below (s₁.setTop (mkF m 15 #[.val (.long x1), .second, .val (.long (own_m1 x1)), .second] [(.int (27 : Int32)), (.long (own_m1 x1)), (.long (own_m1 x1))])) _
    refine XS.lushr X0.here hx rfl (hb hby d3_15) rfl ?_
    show Steps p.tables e below (s₁.setTop (mkF m 16 #[.val (.long x1), .second, .val (.long (own_m1 x1)), .second] [(.long (own_shr (own_m1 x1) (27 : Int32))), (.long (own_m1 x1))])) _
    refine XS.lxor X0.here hx rfl (hb hby d3_16) rfl ?_
    show Steps p.tables e below (s₁.setTop (mkF m 17 #[.val (.long x1), .second, .val (.long (own_m1 x1)), .second] [(.long ((own_m1 x1) ^^^ (own_shr (own_m1 x1) (27 : Int32))))])) _
    refine X0.ldc2Long hx hown (mvT hZ (hw _ (List.mem_of_getElem? (i := 16) rfl))) (g := (mkF m 17 #[.val (.long x1), .second, .val (.long (own_m1 x1)), .second] [(.long ((own_m1 x1) ^^^ (own_shr (own_m1 x1) (27 : Int32))))])) rfl (hb hby d3_17) _ ?_
    show Steps p.tables e below (s₁.setTop (mkF m 20 #[.val (.long x1), .second, .val (.long (own_m1 x1)), .second] [(.long (-7723592293110705685 : Int64)), (.long ((own_m1 x1) ^^^ (own_shr (own_m1 x1) (27 : Int32))))])) _
    refine XS.lmul X0.here hx rfl (hb hby d3_20) rfl ?_
    show Steps p.tables e below (s₁.setTop (mkF m 21 #[.val (.long x1), .second, .val (.long (own_m1 x1)), .second] [(.long (own_m2 (own_m1 x1)))])) _
    refine XS.lstoreN X0.here hx rfl (hb hby d3_21) rfl (l' := #[.val (.long x1), .second, .val (.long (own_m2 (own_m1 x1))), .second]) rfl ?_
    show Steps p.tables e below (s₁.setTop (mkF m 22 #[.val (.long x1), .second, .val (.long (own_m2 (own_m1 x1))), .second] [])) _
    refine XS.lloadN X0.here hx rfl (hb hby d3_22) rfl ?_
    show Steps p.tables e below (s₁.setTop (mkF m 23 #[.val (.long x1), .second, .val (.long (own_m2 (own_m1 x1))), .second] [(.long (own_m2 (own_m1 x1)))])) _
    refine XS.lloadN X0.here hx rfl (hb hby d3_23) rfl ?_
    show Steps p.tables e below (s₁.setTop (mkF m 24 #[.val (.long x1), .second, .val (.long (own_m2 (own_m1 x1))), .second] [(.long (own_m2 (own_m1 x1))), (.long (own_m2 (own_m1 x1)))])) _
    refine XS.bipush X0.here hx rfl (hb hby d3_24) ?_
    show Steps p.tables e below (s₁.setTop (mkF m 26 #[.val (.long x1), .second, .val (.long (own_m2 (own_m1 x1))), .second] [(.int (31 : Int32)), (.long (own_m2 (own_m1 x1))), (.long (own_m2 (own_m1 x1)))])) _
    refine XS.lushr X0.here hx rfl (hb hby d3_26) rfl ?_
    show Steps p.tables e below (s₁.setTop (mkF m 27 #[.val (.long x1), .second, .val (.long (own_m2 (own_m1 x1))), .second] [(.long (own_shr (own_m2 (own_m1 x1)) (31 : Int32))), (.long (own_m2 (own_m1 x1)))])) _
    refine XS.lxor X0.here hx rfl (hb hby d3_27) rfl ?_
    exact k
  obtain ⟨fs, hr, hrun, hended, hW, hsame⟩ := X0.leave (v := some (.long (own_mix x1))) (fun h => by rw [Bd.returns] at h; cases h)
  refine ⟨_, _, C2 _ ?_, hrun, hended, _, _, rfl, ?_, ⟨_, rfl⟩, hW, hsame.mono (by decide) (by decide)⟩
  · show Steps p.tables e below (s₁.setTop (mkF m 28 #[.val (.long x1), .second, .val (.long (own_m2 (own_m1 x1))), .second] [(.long (own_mix x1))])) _
    exact retOut X0 hx Bd.returns rfl (Or.inr (Or.inl ⟨rfl, rfl, _, rfl⟩)) (hb hby d3_28) hr
  · show Q3 Z x1 h0 n0 _ s₁.heap _
    rw [e0]
    exact ⟨rfl, N0, rfl⟩
theorem pd0 : parseMethodDescriptor "(J)J" = some ⟨[.long], some .long⟩ := by decide +kernel
def Q1 (Z : State) (a1 : Addr) (x1 : Int64) (h0 : Heap) (n0 : Nat) (v : Option Value) (h : Heap) (L : List Loc) : Prop := v = none ∧ Fr n0 L ∧ OwnR Z h a1 (own_mix (x1 + (-7046029254386353131 : Int64))) (own_mix ((x1 + (-7046029254386353131 : Int64)) + (-7046029254386353131 : Int64))) (own_mix (((x1 + (-7046029254386353131 : Int64)) + (-7046029254386353131 : Int64)) + (-7046029254386353131 : Int64))) (own_mix ((((x1 + (-7046029254386353131 : Int64)) + (-7046029254386353131 : Int64)) + (-7046029254386353131 : Int64)) + (-7046029254386353131 : Int64))) ∧ Keep h0 h [a1]
theorem ef1 (m : MethodId) (x0 : Addr) (x1 : Int64) : entryFrame m #[(.ref x0), (.long x1)] 5 = mkF m 0 #[.val (.ref x0), .val (.long x1), .second, .unset, .unset] [] := by first | (simp [entryFrame, mkF, argsToLocals, Value.category]; done) | rfl
theorem d1_0 : decode prog_47_method_1_code 0 = .ok (.aload_n 0, 1) := by decide +kernel
theorem d1_1 : decode prog_47_method_1_code 1 = .ok (.invokespecial 1, 3) := by decide +kernel
theorem d1_4 : decode prog_47_method_1_code 4 = .ok (.lload_n 1, 1) := by decide +kernel
theorem d1_5 : decode prog_47_method_1_code 5 = .ok (.lstore_n 3, 1) := by decide +kernel
theorem d1_6 : decode prog_47_method_1_code 6 = .ok (.lload_n 3, 1) := by decide +kernel
theorem d1_7 : decode prog_47_method_1_code 7 = .ok (.ldc2_w 9, 3) := by decide +kernel
theorem d1_10 : decode prog_47_method_1_code 10 = .ok (.ladd, 1) := by decide +kernel
theorem d1_11 : decode prog_47_method_1_code 11 = .ok (.lstore_n 3, 1) := by decide +kernel
theorem d1_12 : decode prog_47_method_1_code 12 = .ok (.aload_n 0, 1) := by decide +kernel
theorem d1_13 : decode prog_47_method_1_code 13 = .ok (.lload_n 3, 1) := by decide +kernel
theorem d1_14 : decode prog_47_method_1_code 14 = .ok (.invokestatic 11, 3) := by decide +kernel
theorem d1_17 : decode prog_47_method_1_code 17 = .ok (.putfield 15, 3) := by decide +kernel
theorem d1_20 : decode prog_47_method_1_code 20 = .ok (.lload_n 3, 1) := by decide +kernel
theorem d1_21 : decode prog_47_method_1_code 21 = .ok (.ldc2_w 9, 3) := by decide +kernel
theorem d1_24 : decode prog_47_method_1_code 24 = .ok (.ladd, 1) := by decide +kernel
theorem d1_25 : decode prog_47_method_1_code 25 = .ok (.lstore_n 3, 1) := by decide +kernel
theorem d1_26 : decode prog_47_method_1_code 26 = .ok (.aload_n 0, 1) := by decide +kernel
theorem d1_27 : decode prog_47_method_1_code 27 = .ok (.lload_n 3, 1) := by decide +kernel
theorem d1_28 : decode prog_47_method_1_code 28 = .ok (.invokestatic 11, 3) := by decide +kernel
theorem d1_31 : decode prog_47_method_1_code 31 = .ok (.putfield 19, 3) := by decide +kernel
theorem d1_34 : decode prog_47_method_1_code 34 = .ok (.lload_n 3, 1) := by decide +kernel
theorem d1_35 : decode prog_47_method_1_code 35 = .ok (.ldc2_w 9, 3) := by decide +kernel
theorem d1_38 : decode prog_47_method_1_code 38 = .ok (.ladd, 1) := by decide +kernel
theorem d1_39 : decode prog_47_method_1_code 39 = .ok (.lstore_n 3, 1) := by decide +kernel
theorem d1_40 : decode prog_47_method_1_code 40 = .ok (.aload_n 0, 1) := by decide +kernel
theorem d1_41 : decode prog_47_method_1_code 41 = .ok (.lload_n 3, 1) := by decide +kernel
theorem d1_42 : decode prog_47_method_1_code 42 = .ok (.invokestatic 11, 3) := by decide +kernel
theorem d1_45 : decode prog_47_method_1_code 45 = .ok (.putfield 22, 3) := by decide +kernel
theorem d1_48 : decode prog_47_method_1_code 48 = .ok (.lload_n 3, 1) := by decide +kernel
theorem d1_49 : decode prog_47_method_1_code 49 = .ok (.ldc2_w 9, 3) := by decide +kernel
theorem d1_52 : decode prog_47_method_1_code 52 = .ok (.ladd, 1) := by decide +kernel
theorem d1_53 : decode prog_47_method_1_code 53 = .ok (.lstore_n 3, 1) := by decide +kernel
theorem d1_54 : decode prog_47_method_1_code 54 = .ok (.aload_n 0, 1) := by decide +kernel
theorem d1_55 : decode prog_47_method_1_code 55 = .ok (.lload_n 3, 1) := by decide +kernel
theorem d1_56 : decode prog_47_method_1_code 56 = .ok (.invokestatic 11, 3) := by decide +kernel
theorem d1_59 : decode prog_47_method_1_code 59 = .ok (.putfield 25, 3) := by decide +kernel
theorem d1_62 : decode prog_47_method_1_code 62 = .ok (.return_, 1) := by decide +kernel
set_option maxRecDepth 65536 in
set_option maxHeartbeats 40000000 in
theorem rm1 (l : Launch) (Z : State) (a0 : Array Value) (hw : ∀ d ∈ tables_1, d.before a0 Z = true) (ws : List Jvm.Cond) (a1 : Addr) (x1 : Int64) (h0 : Heap) (n0 : Nat) (Z0 : n0 ≤ h0.size) (F_s0 : Fld Z h0 a1 "com/example/mutatune/mutatune/engine/SeededRandom" "s0" "J" (.long 0)) (F_s1 : Fld Z h0 a1 "com/example/mutatune/mutatune/engine/SeededRandom" "s1" "J" (.long 0)) (F_s2 : Fld Z h0 a1 "com/example/mutatune/mutatune/engine/SeededRandom" "s2" "J" (.long 0)) (F_s3 : Fld Z h0 a1 "com/example/mutatune/mutatune/engine/SeededRandom" "s3" "J" (.long 0)) (E1 : Exa Z h0 a1 "com/example/mutatune/mutatune/engine/SeededRandom") (g1 : n0 ≤ a1) :
    MetFree l (⟨"com/example/mutatune/mutatune/engine/SeededRandom", "<init>", "(J)V"⟩ : MethodName) (head1 (Jvm.Cond.code (⟨"com/example/mutatune/mutatune/engine/SeededRandom", "<init>", "(J)V"⟩ : MethodName) prog_47_method_1_code 5 none :: ws) ({ frames := 1, cells := 0, slots := 0, locals := 16 } : Room)) (fun a U => a = #[(.ref a1), (.long x1)] ∧ Z.Warmed39 U.vm ∧ U.heap = h0) (fun _ _ _ _ _ => True) (fun _ U o U' => ∃ v L, o = .returned v ∧ Q1 Z a1 x1 h0 n0 v U'.heap L ∧ FrameEnd U o U' L ({ frames := 1, cells := 0, slots := 0, locals := 16 } : Room).cells ({ frames := 1, cells := 0, slots := 0, locals := 16 } : Room).slots) := by
  refine MetFree.of_bodySF (plainFor_of_name pn1) hisR ?_
  intro p e s m args below meth c s₁ Bd hml0 hP hK
  obtain ⟨rfl, hZ, hh⟩ := hP
  have hx := Bd.exec
  have hby := Bd.bytes
  have hml : c.maxLocals = 5 := hml0
  have hown : s.vm.findClass "com/example/mutatune/mutatune/engine/SeededRandom" = some m.cls := findClass_of_methodNamed Bd.named
  have hnm := (name_of_methodNamed Bd.named Bd.method).1
  have X0 : Stand p l e ({ frames := 1, cells := 0, slots := 0, locals := 16 } : Room) s m #[(.ref a1), (.long x1)] below meth c s₁ [] 0 0 := Stand.of_body Bd
  have e0 : s₁.heap = h0 := by rw [← hh, Bd.state]; rfl
  have N0 := Fr.nil n0
  have pre0 : ∀ t, Steps p.tables e below (s₁.setTop (mkF m 0 #[.val (.ref a1), .val (.long x1), .second, .unset, .unset] [])) t → Steps p.tables e below (s₁.setTop (entryFrame m #[(.ref a1), (.long x1)] 5)) t := fun t k => castTop (ef1 m a1 x1) k
  have C3 : ∀ t, Steps p.tables e below (s₁.setTop (mkF m 1 #[.val (.ref a1), .val (.long x1), .second, .unset, .unset] [(.ref a1)])) t → Steps p.tables e below (s₁.setTop (entryFrame m #[(.ref a1), (.long x1)] 5)) t := by
    intro t k
    refine pre0 t ?_
    show Steps p.tables e below (s₁.setTop (mkF m 0 #[.val (.ref a1), .val (.long x1), .second, .unset, .unset] [])) _
    refine XS.aloadN X0.here hx rfl (hb hby d1_0) rfl rfl ?_
    exact k
  obtain ⟨T4, X4, e4, st4⟩ := initO X0 hx hZ hown (hw _ (List.mem_of_getElem? (i := 8) rfl)) (hw _ (List.mem_of_getElem? (i := 9) rfl)) (hw _ (List.mem_of_getElem? (i := 10) rfl)) e0 (g := (mkF m 1 #[.val (.ref a1), .val (.long x1), .second, .unset, .unset] [(.ref a1)])) rfl (by rw [hml]; rfl) rfl (hb hby d1_1) (by decide) (W := 0) (by show 2 * 0 + _ ≤ _; exact Nat.le_of_eq rfl) (by decide)
  have C4 : ∀ t, Steps p.tables e below (T4.setTop (mkF m 4 #[.val (.ref a1), .val (.long x1), .second, .unset, .unset] [])) t → Steps p.tables e below (s₁.setTop (entryFrame m #[(.ref a1), (.long x1)] 5)) t := fun t k => C3 t (st4 t k)
  have C5 : ∀ t, Steps p.tables e below (T4.setTop (mkF m 14 #[.val (.ref a1), .val (.long x1), .second, .val (.long (x1 + (-7046029254386353131 : Int64))), .second] [(.long (x1 + (-7046029254386353131 : Int64))), (.ref a1)])) t → Steps p.tables e below (s₁.setTop (entryFrame m #[(.ref a1), (.long x1)] 5)) t := by
    intro t k
    refine C4 t ?_
    show Steps p.tables e below (T4.setTop (mkF m 4 #[.val (.ref a1), .val (.long x1), .second, .unset, .unset] [])) _
    refine XS.lloadN X4.here hx rfl (hb hby d1_4) rfl ?_
    show Steps p.tables e below (T4.setTop (mkF m 5 #[.val (.ref a1), .val (.long x1), .second, .unset, .unset] [(.long x1)])) _
    refine XS.lstoreN X4.here hx rfl (hb hby d1_5) rfl (l' := #[.val (.ref a1), .val (.long x1), .second, .val (.long x1), .second]) rfl ?_
    show Steps p.tables e below (T4.setTop (mkF m 6 #[.val (.ref a1), .val (.long x1), .second, .val (.long x1), .second] [])) _
    refine XS.lloadN X4.here hx rfl (hb hby d1_6) rfl ?_
    show Steps p.tables e below (T4.setTop (mkF m 7 #[.val (.ref a1), .val (.long x1), .second, .val (.long x1), .second] [(.long x1)])) _
    refine X4.ldc2Long hx hown (mvT hZ (hw _ (List.mem_of_getElem? (i := 11) rfl))) (g := (mkF m 7 #[.val (.ref a1), .val (.long x1), .second, .val (.long x1), .second] [(.long x1)])) rfl (hb hby d1_7) _ ?_
    show Steps p.tables e below (T4.setTop (mkF m 10 #[.val (.ref a1), .val (.long x1), .second, .val (.long x1), .second] [(.long (-7046029254386353131 : Int64)), (.long x1)])) _
    refine XS.ladd X4.here hx rfl (hb hby d1_10) rfl ?_
    show Steps p.tables e below (T4.setTop (mkF m 11 #[.val (.ref a1), .val (.long x1), .second, .val (.long x1), .second] [(.long (x1 + (-7046029254386353131 : Int64)))])) _
    refine XS.lstoreN X4.here hx rfl (hb hby d1_11) rfl (l' := #[.val (.ref a1), .val (.long x1), .second, .val (.long (x1 + (-7046029254386353131 : Int64))), .second]) rfl ?_
    show Steps p.tables e below (T4.setTop (mkF m 12 #[.val (.ref a1), .val (.long x1), .second, .val (.long (x1 + (-7046029254386353131 : Int64))), .second] [])) _
    refine XS.aloadN X4.here hx rfl (hb hby d1_12) rfl rfl ?_
    show Steps p.tables e below (T4.setTop (mkF m 13 #[.val (.ref a1), .val (.long x1), .second, .val (.long (x1 + (-7046029254386353131 : Int64))), .second] [(.ref a1)])) _
    refine XS.lloadN X4.here hx rfl (hb hby d1_13) rfl ?_
    exact k
  obtain ⟨_, _, ⟨T6, L6, k6, n6⟩, -, X6, ⟨Lc6, hQ6, l6, y6, z6⟩, st6⟩ := Jvm.LawKit.callS X4 hx (y := (⟨"com/example/mutatune/mutatune/engine/SeededRandom", "mix64", "(J)J"⟩ : MethodName)) hown (mvT hZ (hw _ (List.mem_of_getElem? (i := 12) rfl))) (mvT hZ (hw _ (List.mem_of_getElem? (i := 13) rfl))) (mvT hZ (hw _ (List.mem_of_getElem? (i := 4) rfl))) (mvT hZ (hw _ (List.mem_of_getElem? (i := 14) rfl))) (by decide) (backOf (W := 1) (rm3 l Z a0 hw [] (x1 + (-7046029254386353131 : Int64)) h0 n0 Z0) hZ (hw _ (List.mem_of_getElem? (i := 14) rfl)) (hw _ (List.mem_of_getElem? (i := 4) rfl)) (by decide) (by decide)) (g := (mkF m 14 #[.val (.ref a1), .val (.long x1), .second, .val (.long (x1 + (-7046029254386353131 : Int64))), .second] [(.long (x1 + (-7046029254386353131 : Int64))), (.ref a1)])) rfl (by rw [hml]; rfl) (argsL := [(.long (x1 + (-7046029254386353131 : Int64)))]) (rest := [(.ref a1)]) (lenOf pd0 rfl) rfl (by show 2 * 0 + _ ≤ _; exact Nat.le_of_eq rfl) (hb hby d1_14) (fun _ _ => ⟨rfl, e4, (by decide : 0 + 0 ≤ _), (by decide : 0 + 0 ≤ _)⟩)
  dsimp only [Pt.U, Pt.locs, Pt.cells, Pt.slots] at X6 l6 y6 z6 st6 hQ6
  subst l6 y6 z6
  obtain ⟨rfl, N6q, q6⟩ := hQ6
  have N6 := Fr.app N0 N6q
  have C6 : ∀ t, Steps p.tables e below (T6.setTop (mkF m 17 #[.val (.ref a1), .val (.long x1), .second, .val (.long (x1 + (-7046029254386353131 : Int64))), .second] [(.long (own_mix (x1 + (-7046029254386353131 : Int64)))), (.ref a1)])) t → Steps p.tables e below (s₁.setTop (entryFrame m #[(.ref a1), (.long x1)] 5)) t := fun t k => C5 t (st6 t k)
  obtain ⟨T7, h7, X7, e7, W7, st7⟩ := putF X6 hx hZ hown (host := "") (Or.inl (hw _ (List.mem_of_getElem? (i := 17) rfl))) Via.refl q6 F_s0 E1 (Or.inl (hw _ (List.mem_of_getElem? (i := 18) rfl))) (hw _ (List.mem_of_getElem? (i := 3) rfl)) (ty := .long) (by decide) rfl rfl (g := (mkF m 17 #[.val (.ref a1), .val (.long x1), .second, .val (.long (x1 + (-7046029254386353131 : Int64))), .second] [(.long (own_mix (x1 + (-7046029254386353131 : Int64)))), (.ref a1)])) rfl rfl (hb hby d1_17)
  have N7 := Fr.snoc X7 N6 g1
  have C7 : ∀ t, Steps p.tables e below (T7.setTop (mkF m 20 #[.val (.ref a1), .val (.long x1), .second, .val (.long (x1 + (-7046029254386353131 : Int64))), .second] [])) t → Steps p.tables e below (s₁.setTop (entryFrame m #[(.ref a1), (.long x1)] 5)) t := fun t k => C6 t (st7 t k)
  have F7_s0 := F_s0.same W7
  have F7_s1 := F_s1.other W7 (Or.inr (slot_ne (Or.inl (hw _ (List.mem_of_getElem? (i := 20) rfl))) (Or.inl (hw _ (List.mem_of_getElem? (i := 18) rfl))) (by decide) (t := .long) (t' := .long) (by decide) (by decide)))
  have F7_s2 := F_s2.other W7 (Or.inr (slot_ne (Or.inl (hw _ (List.mem_of_getElem? (i := 22) rfl))) (Or.inl (hw _ (List.mem_of_getElem? (i := 18) rfl))) (by decide) (t := .long) (t' := .long) (by decide) (by decide)))
  have F7_s3 := F_s3.other W7 (Or.inr (slot_ne (Or.inl (hw _ (List.mem_of_getElem? (i := 24) rfl))) (Or.inl (hw _ (List.mem_of_getElem? (i := 18) rfl))) (by decide) (t := .long) (t' := .long) (by decide) (by decide)))
  have E7x := E1.wr W7
  have K7 : Keep h0 h7 [a1] := ((Keep.refl h0 [a1]).wr W7 (Or.inl (List.mem_of_getElem? (i := 0) rfl)))
  have Z7 : n0 ≤ h7.size := Nat.le_trans Z0 K7.1
  have C8 : ∀ t, Steps p.tables e below (T7.setTop (mkF m 28 #[.val (.ref a1), .val (.long x1), .second, .val (.long ((x1 + (-7046029254386353131 : Int64)) + (-7046029254386353131 : Int64))), .second] [(.long ((x1 + (-7046029254386353131 : Int64)) + (-7046029254386353131 : Int64))), (.ref a1)])) t → Steps p.tables e below (s₁.setTop (entryFrame m #[(.ref a1), (.long x1)] 5)) t := by
    intro t k
    refine C7 t ?_
    show Steps p.tables e below (T7.setTop (mkF m 20 #[.val (.ref a1), .val (.long x1), .second, .val (.long (x1 + (-7046029254386353131 : Int64))), .second] [])) _
    refine XS.lloadN X7.here hx rfl (hb hby d1_20) rfl ?_
    show Steps p.tables e below (T7.setTop (mkF m 21 #[.val (.ref a1), .val (.long x1), .second, .val (.long (x1 + (-7046029254386353131 : Int64))), .second] [(.long (x1 + (-7046029254386353131 : Int64)))])) _
    refine X7.ldc2Long hx hown (mvT hZ (hw _ (List.mem_of_getElem? (i := 11) rfl))) (g := (mkF m 21 #[.val (.ref a1), .val (.long x1), .second, .val (.long (x1 + (-7046029254386353131 : Int64))), .second] [(.long (x1 + (-7046029254386353131 : Int64)))])) rfl (hb hby d1_21) _ ?_
    show Steps p.tables e below (T7.setTop (mkF m 24 #[.val (.ref a1), .val (.long x1), .second, .val (.long (x1 + (-7046029254386353131 : Int64))), .second] [(.long (-7046029254386353131 : Int64)), (.long (x1 + (-7046029254386353131 : Int64)))])) _
    refine XS.ladd X7.here hx rfl (hb hby d1_24) rfl ?_
    show Steps p.tables e below (T7.setTop (mkF m 25 #[.val (.ref a1), .val (.long x1), .second, .val (.long (x1 + (-7046029254386353131 : Int64))), .second] [(.long ((x1 + (-7046029254386353131 : Int64)) + (-7046029254386353131 : Int64)))])) _
    refine XS.lstoreN X7.here hx rfl (hb hby d1_25) rfl (l' := #[.val (.ref a1), .val (.long x1), .second, .val (.long ((x1 + (-7046029254386353131 : Int64)) + (-7046029254386353131 : Int64))), .second]) rfl ?_
    show Steps p.tables e below (T7.setTop (mkF m 26 #[.val (.ref a1), .val (.long x1), .second, .val (.long ((x1 + (-7046029254386353131 : Int64)) + (-7046029254386353131 : Int64))), .second] [])) _
    refine XS.aloadN X7.here hx rfl (hb hby d1_26) rfl rfl ?_
    show Steps p.tables e below (T7.setTop (mkF m 27 #[.val (.ref a1), .val (.long x1), .second, .val (.long ((x1 + (-7046029254386353131 : Int64)) + (-7046029254386353131 : Int64))), .second] [(.ref a1)])) _
    refine XS.lloadN X7.here hx rfl (hb hby d1_27) rfl ?_
    exact k
  obtain ⟨_, _, ⟨T9, L9, k9, n9⟩, -, X9, ⟨Lc9, hQ9, l9, y9, z9⟩, st9⟩ := Jvm.LawKit.callS X7 hx (y := (⟨"com/example/mutatune/mutatune/engine/SeededRandom", "mix64", "(J)J"⟩ : MethodName)) hown (mvT hZ (hw _ (List.mem_of_getElem? (i := 12) rfl))) (mvT hZ (hw _ (List.mem_of_getElem? (i := 13) rfl))) (mvT hZ (hw _ (List.mem_of_getElem? (i := 4) rfl))) (mvT hZ (hw _ (List.mem_of_getElem? (i := 14) rfl))) (by decide) (backOf (W := 1) (rm3 l Z a0 hw [] ((x1 + (-7046029254386353131 : Int64)) + (-7046029254386353131 : Int64)) h7 n0 Z7) hZ (hw _ (List.mem_of_getElem? (i := 14) rfl)) (hw _ (List.mem_of_getElem? (i := 4) rfl)) (by decide) (by decide)) (g := (mkF m 28 #[.val (.ref a1), .val (.long x1), .second, .val (.long ((x1 + (-7046029254386353131 : Int64)) + (-7046029254386353131 : Int64))), .second] [(.long ((x1 + (-7046029254386353131 : Int64)) + (-7046029254386353131 : Int64))), (.ref a1)])) rfl (by rw [hml]; rfl) (argsL := [(.long ((x1 + (-7046029254386353131 : Int64)) + (-7046029254386353131 : Int64)))]) (rest := [(.ref a1)]) (lenOf pd0 rfl) rfl (by show 2 * 0 + _ ≤ _; exact Nat.le_of_eq rfl) (hb hby d1_28) (fun _ _ => ⟨rfl, e7, (by decide : 0 + 0 ≤ _), (by decide : 0 + 0 ≤ _)⟩)
  dsimp only [Pt.U, Pt.locs, Pt.cells, Pt.slots] at X9 l9 y9 z9 st9 hQ9
  subst l9 y9 z9
  obtain ⟨rfl, N9q, q9⟩ := hQ9
  have N9 := Fr.app N7 N9q
  have C9 : ∀ t, Steps p.tables e below (T9.setTop (mkF m 31 #[.val (.ref a1), .val (.long x1), .second, .val (.long ((x1 + (-7046029254386353131 : Int64)) + (-7046029254386353131 : Int64))), .second] [(.long (own_mix ((x1 + (-7046029254386353131 : Int64)) + (-7046029254386353131 : Int64)))), (.ref a1)])) t → Steps p.tables e below (s₁.setTop (entryFrame m #[(.ref a1), (.long x1)] 5)) t := fun t k => C8 t (st9 t k)
  obtain ⟨T10, h10, X10, e10, W10, st10⟩ := putF X9 hx hZ hown (host := "") (Or.inl (hw _ (List.mem_of_getElem? (i := 19) rfl))) Via.refl q9 F7_s1 E7x (Or.inl (hw _ (List.mem_of_getElem? (i := 20) rfl))) (hw _ (List.mem_of_getElem? (i := 3) rfl)) (ty := .long) (by decide) rfl rfl (g := (mkF m 31 #[.val (.ref a1), .val (.long x1), .second, .val (.long ((x1 + (-7046029254386353131 : Int64)) + (-7046029254386353131 : Int64))), .second] [(.long (own_mix ((x1 + (-7046029254386353131 : Int64)) + (-7046029254386353131 : Int64)))), (.ref a1)])) rfl rfl (hb hby d1_31)
  have N10 := Fr.snoc X10 N9 g1
  have C10 : ∀ t, Steps p.tables e below (T10.setTop (mkF m 34 #[.val (.ref a1), .val (.long x1), .second, .val (.long ((x1 + (-7046029254386353131 : Int64)) + (-7046029254386353131 : Int64))), .second] [])) t → Steps p.tables e below (s₁.setTop (entryFrame m #[(.ref a1), (.long x1)] 5)) t := fun t k => C9 t (st10 t k)
  have F10_s0 := F7_s0.other W10 (Or.inr (slot_ne (Or.inl (hw _ (List.mem_of_getElem? (i := 18) rfl))) (Or.inl (hw _ (List.mem_of_getElem? (i := 20) rfl))) (by decide) (t := .long) (t' := .long) (by decide) (by decide)))
  have F10_s1 := F7_s1.same W10
  have F10_s2 := F7_s2.other W10 (Or.inr (slot_ne (Or.inl (hw _ (List.mem_of_getElem? (i := 22) rfl))) (Or.inl (hw _ (List.mem_of_getElem? (i := 20) rfl))) (by decide) (t := .long) (t' := .long) (by decide) (by decide)))
  have F10_s3 := F7_s3.other W10 (Or.inr (slot_ne (Or.inl (hw _ (List.mem_of_getElem? (i := 24) rfl))) (Or.inl (hw _ (List.mem_of_getElem? (i := 20) rfl))) (by decide) (t := .long) (t' := .long) (by decide) (by decide)))
  have E10x := E7x.wr W10
  have K10 : Keep h0 h10 [a1] := (K7.wr W10 (Or.inl (List.mem_of_getElem? (i := 0) rfl)))
  have Z10 : n0 ≤ h10.size := Nat.le_trans Z0 K10.1
  have C11 : ∀ t, Steps p.tables e below (T10.setTop (mkF m 42 #[.val (.ref a1), .val (.long x1), .second, .val (.long (((x1 + (-7046029254386353131 : Int64)) + (-7046029254386353131 : Int64)) + (-7046029254386353131 : Int64))), .second] [(.long (((x1 + (-7046029254386353131 : Int64)) + (-7046029254386353131 : Int64)) + (-7046029254386353131 : Int64))), (.ref a1)])) t → Steps p.tables e below (s₁.setTop (entryFrame m #[(.ref a1), (.long x1)] 5)) t := by
    intro t k
    refine C10 t ?_
    show Steps p.tables e below (T10.setTop (mkF m 34 #[.val (.ref a1), .val (.long x1), .second, .val (.long ((x1 + (-7046029254386353131 : Int64)) + (-7046029254386353131 : Int64))), .second] [])) _
    refine XS.lloadN X10.here hx rfl (hb hby d1_34) rfl ?_
    show Steps p.tables e below (T10.setTop (mkF m 35 #[.val (.ref a1), .val (.long x1), .second, .val (.long ((x1 + (-7046029254386353131 : Int64)) + (-7046029254386353131 : Int64))), .second] [(.long ((x1 + (-7046029254386353131 : Int64)) + (-7046029254386353131 : Int64)))])) _
    refine X10.ldc2Long hx hown (mvT hZ (hw _ (List.mem_of_getElem? (i := 11) rfl))) (g := (mkF m 35 #[.val (.ref a1), .val (.long x1), .second, .val (.long ((x1 + (-7046029254386353131 : Int64)) + (-7046029254386353131 : Int64))), .second] [(.long ((x1 + (-7046029254386353131 : Int64)) + (-7046029254386353131 : Int64)))])) rfl (hb hby d1_35) _ ?_
    show Steps p.tables e below (T10.setTop (mkF m 38 #[.val (.ref a1), .val (.long x1), .second, .val (.long ((x1 + (-7046029254386353131 : Int64)) + (-7046029254386353131 : Int64))), .second] [(.long (-7046029254386353131 : Int64)), (.long ((x1 + (-7046029254386353131 : Int64)) + (-7046029254386353131 : Int64)))])) _
    refine XS.ladd X10.here hx rfl (hb hby d1_38) rfl ?_
    show Steps p.tables e below (T10.setTop (mkF m 39 #[.val (.ref a1), .val (.long x1), .second, .val (.long ((x1 + (-7046029254386353131 : Int64)) + (-7046029254386353131 : Int64))), .second] [(.long (((x1 + (-7046029254386353131 : Int64)) + (-7046029254386353131 : Int64)) + (-7046029254386353131 : Int64)))])) _
    refine XS.lstoreN X10.here hx rfl (hb hby d1_39) rfl (l' := #[.val (.ref a1), .val (.long x1), .second, .val (.long (((x1 + (-7046029254386353131 : Int64)) + (-7046029254386353131 : Int64)) + (-7046029254386353131 : Int64))), .second]) rfl ?_
    show Steps p.tables e below (T10.setTop (mkF m 40 #[.val (.ref a1), .val (.long x1), .second, .val (.long (((x1 + (-7046029254386353131 : Int64)) + (-7046029254386353131 : Int64)) + (-7046029254386353131 : Int64))), .second] [])) _
    refine XS.aloadN X10.here hx rfl (hb hby d1_40) rfl rfl ?_
    show Steps p.tables e below (T10.setTop (mkF m 41 #[.val (.ref a1), .val (.long x1), .second, .val (.long (((x1 + (-7046029254386353131 : Int64)) + (-7046029254386353131 : Int64)) + (-7046029254386353131 : Int64))), .second] [(.ref a1)])) _
    refine XS.lloadN X10.here hx rfl (hb hby d1_41) rfl ?_
    exact k
  obtain ⟨_, _, ⟨T12, L12, k12, n12⟩, -, X12, ⟨Lc12, hQ12, l12, y12, z12⟩, st12⟩ := Jvm.LawKit.callS X10 hx (y := (⟨"com/example/mutatune/mutatune/engine/SeededRandom", "mix64", "(J)J"⟩ : MethodName)) hown (mvT hZ (hw _ (List.mem_of_getElem? (i := 12) rfl))) (mvT hZ (hw _ (List.mem_of_getElem? (i := 13) rfl))) (mvT hZ (hw _ (List.mem_of_getElem? (i := 4) rfl))) (mvT hZ (hw _ (List.mem_of_getElem? (i := 14) rfl))) (by decide) (backOf (W := 1) (rm3 l Z a0 hw [] (((x1 + (-7046029254386353131 : Int64)) + (-7046029254386353131 : Int64)) + (-7046029254386353131 : Int64)) h10 n0 Z10) hZ (hw _ (List.mem_of_getElem? (i := 14) rfl)) (hw _ (List.mem_of_getElem? (i := 4) rfl)) (by decide) (by decide)) (g := (mkF m 42 #[.val (.ref a1), .val (.long x1), .second, .val (.long (((x1 + (-7046029254386353131 : Int64)) + (-7046029254386353131 : Int64)) + (-7046029254386353131 : Int64))), .second] [(.long (((x1 + (-7046029254386353131 : Int64)) + (-7046029254386353131 : Int64)) + (-7046029254386353131 : Int64))), (.ref a1)])) rfl (by rw [hml]; rfl) (argsL := [(.long (((x1 + (-7046029254386353131 : Int64)) + (-7046029254386353131 : Int64)) + (-7046029254386353131 : Int64)))]) (rest := [(.ref a1)]) (lenOf pd0 rfl) rfl (by show 2 * 0 + _ ≤ _; exact Nat.le_of_eq rfl) (hb hby d1_42) (fun _ _ => ⟨rfl, e10, (by decide : 0 + 0 ≤ _), (by decide : 0 + 0 ≤ _)⟩)
  dsimp only [Pt.U, Pt.locs, Pt.cells, Pt.slots] at X12 l12 y12 z12 st12 hQ12
  subst l12 y12 z12
  obtain ⟨rfl, N12q, q12⟩ := hQ12
  have N12 := Fr.app N10 N12q
  have C12 : ∀ t, Steps p.tables e below (T12.setTop (mkF m 45 #[.val (.ref a1), .val (.long x1), .second, .val (.long (((x1 + (-7046029254386353131 : Int64)) + (-7046029254386353131 : Int64)) + (-7046029254386353131 : Int64))), .second] [(.long (own_mix (((x1 + (-7046029254386353131 : Int64)) + (-7046029254386353131 : Int64)) + (-7046029254386353131 : Int64)))), (.ref a1)])) t → Steps p.tables e below (s₁.setTop (entryFrame m #[(.ref a1), (.long x1)] 5)) t := fun t k => C11 t (st12 t k)
  obtain ⟨T13, h13, X13, e13, W13, st13⟩ := putF X12 hx hZ hown (host := "") (Or.inl (hw _ (List.mem_of_getElem? (i := 21) rfl))) Via.refl q12 F10_s2 E10x (Or.inl (hw _ (List.mem_of_getElem? (i := 22) rfl))) (hw _ (List.mem_of_getElem? (i := 3) rfl)) (ty := .long) (by decide) rfl rfl (g := (mkF m 45 #[.val (.ref a1), .val (.long x1), .second, .val (.long (((x1 + (-7046029254386353131 : Int64)) + (-7046029254386353131 : Int64)) + (-7046029254386353131 : Int64))), .second] [(.long (own_mix (((x1 + (-7046029254386353131 : Int64)) + (-7046029254386353131 : Int64)) + (-7046029254386353131 : Int64)))), (.ref a1)])) rfl rfl (hb hby d1_45)
  have N13 := Fr.snoc X13 N12 g1
  have C13 : ∀ t, Steps p.tables e below (T13.setTop (mkF m 48 #[.val (.ref a1), .val (.long x1), .second, .val (.long (((x1 + (-7046029254386353131 : Int64)) + (-7046029254386353131 : Int64)) + (-7046029254386353131 : Int64))), .second] [])) t → Steps p.tables e below (s₁.setTop (entryFrame m #[(.ref a1), (.long x1)] 5)) t := fun t k => C12 t (st13 t k)
  have F13_s0 := F10_s0.other W13 (Or.inr (slot_ne (Or.inl (hw _ (List.mem_of_getElem? (i := 18) rfl))) (Or.inl (hw _ (List.mem_of_getElem? (i := 22) rfl))) (by decide) (t := .long) (t' := .long) (by decide) (by decide)))
  have F13_s1 := F10_s1.other W13 (Or.inr (slot_ne (Or.inl (hw _ (List.mem_of_getElem? (i := 20) rfl))) (Or.inl (hw _ (List.mem_of_getElem? (i := 22) rfl))) (by decide) (t := .long) (t' := .long) (by decide) (by decide)))
  have F13_s2 := F10_s2.same W13
  have F13_s3 := F10_s3.other W13 (Or.inr (slot_ne (Or.inl (hw _ (List.mem_of_getElem? (i := 24) rfl))) (Or.inl (hw _ (List.mem_of_getElem? (i := 22) rfl))) (by decide) (t := .long) (t' := .long) (by decide) (by decide)))
  have E13x := E10x.wr W13
  have K13 : Keep h0 h13 [a1] := (K10.wr W13 (Or.inl (List.mem_of_getElem? (i := 0) rfl)))
  have Z13 : n0 ≤ h13.size := Nat.le_trans Z0 K13.1
  have C14 : ∀ t, Steps p.tables e below (T13.setTop (mkF m 56 #[.val (.ref a1), .val (.long x1), .second, .val (.long ((((x1 + (-7046029254386353131 : Int64)) + (-7046029254386353131 : Int64)) + (-7046029254386353131 : Int64)) + (-7046029254386353131 : Int64))), .second] [(.long ((((x1 + (-7046029254386353131 : Int64)) + (-7046029254386353131 : Int64)) + (-7046029254386353131 : Int64)) + (-7046029254386353131 : Int64))), (.ref a1)])) t → Steps p.tables e below (s₁.setTop (entryFrame m #[(.ref a1), (.long x1)] 5)) t := by
    intro t k
    refine C13 t ?_
    show Steps p.tables e below (T13.setTop (mkF m 48 #[.val (.ref a1), .val (.long x1), .second, .val (.long (((x1 + (-7046029254386353131 : Int64)) + (-7046029254386353131 : Int64)) + (-7046029254386353131 : Int64))), .second] [])) _
    refine XS.lloadN X13.here hx rfl (hb hby d1_48) rfl ?_
    show Steps p.tables e below (T13.setTop (mkF m 49 #[.val (.ref a1), .val (.long x1), .second, .val (.long (((x1 + (-7046029254386353131 : Int64)) + (-7046029254386353131 : Int64)) + (-7046029254386353131 : Int64))), .second] [(.long (((x1 + (-7046029254386353131 : Int64)) + (-7046029254386353131 : Int64)) + (-7046029254386353131 : Int64)))])) _
    refine X13.ldc2Long hx hown (mvT hZ (hw _ (List.mem_of_getElem? (i := 11) rfl))) (g := (mkF m 49 #[.val (.ref a1), .val (.long x1), .second, .val (.long (((x1 + (-7046029254386353131 : Int64)) + (-7046029254386353131 : Int64)) + (-7046029254386353131 : Int64))), .second] [(.long (((x1 + (-7046029254386353131 : Int64)) + (-7046029254386353131 : Int64)) + (-7046029254386353131 : Int64)))])) rfl (hb hby d1_49) _ ?_
    show Steps p.tables e below (T13.setTop (mkF m 52 #[.val (.ref a1), .val (.long x1), .second, .val (.long (((x1 + (-7046029254386353131 : Int64)) + (-7046029254386353131 : Int64)) + (-7046029254386353131 : Int64))), .second] [(.long (-7046029254386353131 : Int64)), (.long (((x1 + (-7046029254386353131 : Int64)) + (-7046029254386353131 : Int64)) + (-7046029254386353131 : Int64)))])) _
    refine XS.ladd X13.here hx rfl (hb hby d1_52) rfl ?_
    show Steps p.tables e below (T13.setTop (mkF m 53 #[.val (.ref a1), .val (.long x1), .second, .val (.long (((x1 + (-7046029254386353131 : Int64)) + (-7046029254386353131 : Int64)) + (-7046029254386353131 : Int64))), .second] [(.long ((((x1 + (-7046029254386353131 : Int64)) + (-7046029254386353131 : Int64)) + (-7046029254386353131 : Int64)) + (-7046029254386353131 : Int64)))])) _
    refine XS.lstoreN X13.here hx rfl (hb hby d1_53) rfl (l' := #[.val (.ref a1), .val (.long x1), .second, .val (.long ((((x1 + (-7046029254386353131 : Int64)) + (-7046029254386353131 : Int64)) + (-7046029254386353131 : Int64)) + (-7046029254386353131 : Int64))), .second]) rfl ?_
    show Steps p.tables e below (T13.setTop (mkF m 54 #[.val (.ref a1), .val (.long x1), .second, .val (.long ((((x1 + (-7046029254386353131 : Int64)) + (-7046029254386353131 : Int64)) + (-7046029254386353131 : Int64)) + (-7046029254386353131 : Int64))), .second] [])) _
    refine XS.aloadN X13.here hx rfl (hb hby d1_54) rfl rfl ?_
    show Steps p.tables e below (T13.setTop (mkF m 55 #[.val (.ref a1), .val (.long x1), .second, .val (.long ((((x1 + (-7046029254386353131 : Int64)) + (-7046029254386353131 : Int64)) + (-7046029254386353131 : Int64)) + (-7046029254386353131 : Int64))), .second] [(.ref a1)])) _
    refine XS.lloadN X13.here hx rfl (hb hby d1_55) rfl ?_
    exact k
  obtain ⟨_, _, ⟨T15, L15, k15, n15⟩, -, X15, ⟨Lc15, hQ15, l15, y15, z15⟩, st15⟩ := Jvm.LawKit.callS X13 hx (y := (⟨"com/example/mutatune/mutatune/engine/SeededRandom", "mix64", "(J)J"⟩ : MethodName)) hown (mvT hZ (hw _ (List.mem_of_getElem? (i := 12) rfl))) (mvT hZ (hw _ (List.mem_of_getElem? (i := 13) rfl))) (mvT hZ (hw _ (List.mem_of_getElem? (i := 4) rfl))) (mvT hZ (hw _ (List.mem_of_getElem? (i := 14) rfl))) (by decide) (backOf (W := 1) (rm3 l Z a0 hw [] ((((x1 + (-7046029254386353131 : Int64)) + (-7046029254386353131 : Int64)) + (-7046029254386353131 : Int64)) + (-7046029254386353131 : Int64)) h13 n0 Z13) hZ (hw _ (List.mem_of_getElem? (i := 14) rfl)) (hw _ (List.mem_of_getElem? (i := 4) rfl)) (by decide) (by decide)) (g := (mkF m 56 #[.val (.ref a1), .val (.long x1), .second, .val (.long ((((x1 + (-7046029254386353131 : Int64)) + (-7046029254386353131 : Int64)) + (-7046029254386353131 : Int64)) + (-7046029254386353131 : Int64))), .second] [(.long ((((x1 + (-7046029254386353131 : Int64)) + (-7046029254386353131 : Int64)) + (-7046029254386353131 : Int64)) + (-7046029254386353131 : Int64))), (.ref a1)])) rfl (by rw [hml]; rfl) (argsL := [(.long ((((x1 + (-7046029254386353131 : Int64)) + (-7046029254386353131 : Int64)) + (-7046029254386353131 : Int64)) + (-7046029254386353131 : Int64)))]) (rest := [(.ref a1)]) (lenOf pd0 rfl) rfl (by show 2 * 0 + _ ≤ _; exact Nat.le_of_eq rfl) (hb hby d1_56) (fun _ _ => ⟨rfl, e13, (by decide : 0 + 0 ≤ _), (by decide : 0 + 0 ≤ _)⟩)
  dsimp only [Pt.U, Pt.locs, Pt.cells, Pt.slots] at X15 l15 y15 z15 st15 hQ15
  subst l15 y15 z15
  obtain ⟨rfl, N15q, q15⟩ := hQ15
  have N15 := Fr.app N13 N15q
  have C15 : ∀ t, Steps p.tables e below (T15.setTop (mkF m 59 #[.val (.ref a1), .val (.long x1), .second, .val (.long ((((x1 + (-7046029254386353131 : Int64)) + (-7046029254386353131 : Int64)) + (-7046029254386353131 : Int64)) + (-7046029254386353131 : Int64))), .second] [(.long (own_mix ((((x1 + (-7046029254386353131 : Int64)) + (-7046029254386353131 : Int64)) + (-7046029254386353131 : Int64)) + (-7046029254386353131 : Int64)))), (.ref a1)])) t → Steps p.tables e below (s₁.setTop (entryFrame m #[(.ref a1), (.long x1)] 5)) t := fun t k => C14 t (st15 t k)
  obtain ⟨T16, h16, X16, e16, W16, st16⟩ := putF X15 hx hZ hown (host := "") (Or.inl (hw _ (List.mem_of_getElem? (i := 23) rfl))) Via.refl q15 F13_s3 E13x (Or.inl (hw _ (List.mem_of_getElem? (i := 24) rfl))) (hw _ (List.mem_of_getElem? (i := 3) rfl)) (ty := .long) (by decide) rfl rfl (g := (mkF m 59 #[.val (.ref a1), .val (.long x1), .second, .val (.long ((((x1 + (-7046029254386353131 : Int64)) + (-7046029254386353131 : Int64)) + (-7046029254386353131 : Int64)) + (-7046029254386353131 : Int64))), .second] [(.long (own_mix ((((x1 + (-7046029254386353131 : Int64)) + (-7046029254386353131 : Int64)) + (-7046029254386353131 : Int64)) + (-7046029254386353131 : Int64)))), (.ref a1)])) rfl rfl (hb hby d1_59)
  have N16 := Fr.snoc X16 N15 g1
  have C16 : ∀ t, Steps p.tables e below (T16.setTop (mkF m 62 #[.val (.ref a1), .val (.long x1), .second, .val (.long ((((x1 + (-7046029254386353131 : Int64)) + (-7046029254386353131 : Int64)) + (-7046029254386353131 : Int64)) + (-7046029254386353131 : Int64))), .second] [])) t → Steps p.tables e below (s₁.setTop (entryFrame m #[(.ref a1), (.long x1)] 5)) t := fun t k => C15 t (st16 t k)
  have F16_s0 := F13_s0.other W16 (Or.inr (slot_ne (Or.inl (hw _ (List.mem_of_getElem? (i := 18) rfl))) (Or.inl (hw _ (List.mem_of_getElem? (i := 24) rfl))) (by decide) (t := .long) (t' := .long) (by decide) (by decide)))
  have F16_s1 := F13_s1.other W16 (Or.inr (slot_ne (Or.inl (hw _ (List.mem_of_getElem? (i := 20) rfl))) (Or.inl (hw _ (List.mem_of_getElem? (i := 24) rfl))) (by decide) (t := .long) (t' := .long) (by decide) (by decide)))
  have F16_s2 := F13_s2.other W16 (Or.inr (slot_ne (Or.inl (hw _ (List.mem_of_getElem? (i := 22) rfl))) (Or.inl (hw _ (List.mem_of_getElem? (i := 24) rfl))) (by decide) (t := .long) (t' := .long) (by decide) (by decide)))
  have F16_s3 := F13_s3.same W16
  have E16x := E13x.wr W16
  have K16 : Keep h0 h16 [a1] := (K13.wr W16 (Or.inl (List.mem_of_getElem? (i := 0) rfl)))
  have Z16 : n0 ≤ h16.size := Nat.le_trans Z0 K16.1
  obtain ⟨fs, hr, hrun, hended, hW, hsame⟩ := X16.leave (v := none) (fun _ => rfl)
  refine ⟨_, _, C16 _ ?_, hrun, hended, _, _, rfl, ?_, ⟨_, rfl⟩, hW, hsame.mono (by decide) (by decide)⟩
  · show Steps p.tables e below (T16.setTop (mkF m 62 #[.val (.ref a1), .val (.long x1), .second, .val (.long ((((x1 + (-7046029254386353131 : Int64)) + (-7046029254386353131 : Int64)) + (-7046029254386353131 : Int64)) + (-7046029254386353131 : Int64))), .second] [])) _
    exact X16.returnOut hx Bd.returns (hb hby d1_62) hr
  · show Q1 Z a1 x1 h0 n0 _ T16.heap _
    rw [e16]
    exact ⟨rfl, N16, ⟨E16x, F16_s0, F16_s1, F16_s2, F16_s3⟩, K16⟩
theorem pd1 : parseMethodDescriptor "(JI)J" = some ⟨[.long, .int], some .long⟩ := by decide +kernel
def Q7 (Z : State) (a1 : Addr) (w0 w1 w2 w3 : Int64) (h0 : Heap) (n0 : Nat) (v : Option Value) (h : Heap) (L : List Loc) : Prop := v = some (.long (own_res w0 w1 w2 w3)) ∧ Fr n0 L ∧ OwnR Z h a1 (own_s0 w0 w1 w2 w3) (own_s1 w0 w1 w2 w3) (own_s2 w0 w1 w2 w3) (own_s3 w0 w1 w2 w3) ∧ Keep h0 h [a1]
theorem ef7 (m : MethodId) (x0 : Addr) : entryFrame m #[(.ref x0)] 5 = mkF m 0 #[.val (.ref x0), .unset, .unset, .unset, .unset] [] := by first | (simp [entryFrame, mkF, argsToLocals, Value.category]; done) | rfl
theorem d7_0 : decode prog_47_method_2_code 0 = .ok (.aload_n 0, 1) := by decide +kernel
theorem d7_1 : decode prog_47_method_2_code 1 = .ok (.getfield 15, 3) := by decide +kernel
theorem d7_4 : decode prog_47_method_2_code 4 = .ok (.aload_n 0, 1) := by decide +kernel
theorem d7_5 : decode prog_47_method_2_code 5 = .ok (.getfield 25, 3) := by decide +kernel
theorem d7_8 : decode prog_47_method_2_code 8 = .ok (.ladd, 1) := by decide +kernel
theorem d7_9 : decode prog_47_method_2_code 9 = .ok (.bipush 23, 2) := by decide +kernel
theorem d7_11 : decode prog_47_method_2_code 11 = .ok (.invokestatic 28, 3) := by decide +kernel
theorem d7_14 : decode prog_47_method_2_code 14 = .ok (.aload_n 0, 1) := by decide +kernel
theorem d7_15 : decode prog_47_method_2_code 15 = .ok (.getfield 15, 3) := by decide +kernel
theorem d7_18 : decode prog_47_method_2_code 18 = .ok (.ladd, 1) := by decide +kernel
theorem d7_19 : decode prog_47_method_2_code 19 = .ok (.lstore_n 1, 1) := by decide +kernel
theorem d7_20 : decode prog_47_method_2_code 20 = .ok (.aload_n 0, 1) := by decide +kernel
theorem d7_21 : decode prog_47_method_2_code 21 = .ok (.getfield 19, 3) := by decide +kernel
theorem d7_24 : decode prog_47_method_2_code 24 = .ok (.bipush 17, 2) := by decide +kernel
theorem d7_26 : decode prog_47_method_2_code 26 = .ok (.lshl, 1) := by decide +kernel
theorem d7_27 : decode prog_47_method_2_code 27 = .ok (.lstore_n 3, 1) := by decide +kernel
theorem d7_28 : decode prog_47_method_2_code 28 = .ok (.aload_n 0, 1) := by decide +kernel
theorem d7_29 : decode prog_47_method_2_code 29 = .ok (.dup, 1) := by decide +kernel
theorem d7_30 : decode prog_47_method_2_code 30 = .ok (.getfield 22, 3) := by decide +kernel
theorem d7_33 : decode prog_47_method_2_code 33 = .ok (.aload_n 0, 1) := by decide +kernel
theorem d7_34 : decode prog_47_method_2_code 34 = .ok (.getfield 15, 3) := by decide +kernel
theorem d7_37 : decode prog_47_method_2_code 37 = .ok (.lxor, 1) := by decide +kernel
theorem d7_38 : decode prog_47_method_2_code 38 = .ok (.putfield 22, 3) := by decide +kernel
theorem d7_41 : decode prog_47_method_2_code 41 = .ok (.aload_n 0, 1) := by decide +kernel
theorem d7_42 : decode prog_47_method_2_code 42 = .ok (.dup, 1) := by decide +kernel
theorem d7_43 : decode prog_47_method_2_code 43 = .ok (.getfield 25, 3) := by decide +kernel
theorem d7_46 : decode prog_47_method_2_code 46 = .ok (.aload_n 0, 1) := by decide +kernel
theorem d7_47 : decode prog_47_method_2_code 47 = .ok (.getfield 19, 3) := by decide +kernel
theorem d7_50 : decode prog_47_method_2_code 50 = .ok (.lxor, 1) := by decide +kernel
theorem d7_51 : decode prog_47_method_2_code 51 = .ok (.putfield 25, 3) := by decide +kernel
theorem d7_54 : decode prog_47_method_2_code 54 = .ok (.aload_n 0, 1) := by decide +kernel
theorem d7_55 : decode prog_47_method_2_code 55 = .ok (.dup, 1) := by decide +kernel
theorem d7_56 : decode prog_47_method_2_code 56 = .ok (.getfield 19, 3) := by decide +kernel
theorem d7_59 : decode prog_47_method_2_code 59 = .ok (.aload_n 0, 1) := by decide +kernel
theorem d7_60 : decode prog_47_method_2_code 60 = .ok (.getfield 22, 3) := by decide +kernel
theorem d7_63 : decode prog_47_method_2_code 63 = .ok (.lxor, 1) := by decide +kernel
theorem d7_64 : decode prog_47_method_2_code 64 = .ok (.putfield 19, 3) := by decide +kernel
theorem d7_67 : decode prog_47_method_2_code 67 = .ok (.aload_n 0, 1) := by decide +kernel
theorem d7_68 : decode prog_47_method_2_code 68 = .ok (.dup, 1) := by decide +kernel
theorem d7_69 : decode prog_47_method_2_code 69 = .ok (.getfield 15, 3) := by decide +kernel
theorem d7_72 : decode prog_47_method_2_code 72 = .ok (.aload_n 0, 1) := by decide +kernel
theorem d7_73 : decode prog_47_method_2_code 73 = .ok (.getfield 25, 3) := by decide +kernel
theorem d7_76 : decode prog_47_method_2_code 76 = .ok (.lxor, 1) := by decide +kernel
theorem d7_77 : decode prog_47_method_2_code 77 = .ok (.putfield 15, 3) := by decide +kernel
theorem d7_80 : decode prog_47_method_2_code 80 = .ok (.aload_n 0, 1) := by decide +kernel
theorem d7_81 : decode prog_47_method_2_code 81 = .ok (.dup, 1) := by decide +kernel
theorem d7_82 : decode prog_47_method_2_code 82 = .ok (.getfield 22, 3) := by decide +kernel
theorem d7_85 : decode prog_47_method_2_code 85 = .ok (.lload_n 3, 1) := by decide +kernel
theorem d7_86 : decode prog_47_method_2_code 86 = .ok (.lxor, 1) := by decide +kernel
theorem d7_87 : decode prog_47_method_2_code 87 = .ok (.putfield 22, 3) := by decide +kernel
theorem d7_90 : decode prog_47_method_2_code 90 = .ok (.aload_n 0, 1) := by decide +kernel
theorem d7_91 : decode prog_47_method_2_code 91 = .ok (.aload_n 0, 1) := by decide +kernel
theorem d7_92 : decode prog_47_method_2_code 92 = .ok (.getfield 25, 3) := by decide +kernel
theorem d7_95 : decode prog_47_method_2_code 95 = .ok (.bipush 45, 2) := by decide +kernel
theorem d7_97 : decode prog_47_method_2_code 97 = .ok (.invokestatic 28, 3) := by decide +kernel
theorem d7_100 : decode prog_47_method_2_code 100 = .ok (.putfield 25, 3) := by decide +kernel
theorem d7_103 : decode prog_47_method_2_code 103 = .ok (.lload_n 1, 1) := by decide +kernel
theorem d7_104 : decode prog_47_method_2_code 104 = .ok (.lreturn, 1) := by decide +kernel
set_option maxRecDepth 65536 in
set_option maxHeartbeats 40000000 in
theorem rm7 (l : Launch) (Z : State) (a0 : Array Value) (hw : ∀ d ∈ tables_1, d.before a0 Z = true) (ws : List Jvm.Cond) (a1 : Addr) (w0 w1 w2 w3 : Int64) (h0 : Heap) (n0 : Nat) (Z0 : n0 ≤ h0.size) (R : OwnR Z h0 a1 w0 w1 w2 w3) (g1 : n0 ≤ a1) :
    MetFree l (⟨"com/example/mutatune/mutatune/engine/SeededRandom", "nextLong", "()J"⟩ : MethodName) (head1 (Jvm.Cond.code (⟨"com/example/mutatune/mutatune/engine/SeededRandom", "nextLong", "()J"⟩ : MethodName) prog_47_method_2_code 5 (some .long) :: ws) ({ frames := 1, cells := 0, slots := 0, locals := 15 } : Room)) (fun a U => a = #[(.ref a1)] ∧ Z.Warmed39 U.vm ∧ U.heap = h0) (fun _ _ _ _ _ => True) (fun _ U o U' => ∃ v L, o = .returned v ∧ Q7 Z a1 w0 w1 w2 w3 h0 n0 v U'.heap L ∧ FrameEnd U o U' L ({ frames := 1, cells := 0, slots := 0, locals := 15 } : Room).cells ({ frames := 1, cells := 0, slots := 0, locals := 15 } : Room).slots) := by
  refine MetFree.of_bodySF (plainFor_of_name pn1) hisR ?_
  intro p e s m args below meth c s₁ Bd hml0 hP hK
  obtain ⟨rfl, hZ, hh⟩ := hP
  have hx := Bd.exec
  have hby := Bd.bytes
  have hml : c.maxLocals = 5 := hml0
  have hown : s.vm.findClass "com/example/mutatune/mutatune/engine/SeededRandom" = some m.cls := findClass_of_methodNamed Bd.named
  have hnm := (name_of_methodNamed Bd.named Bd.method).1
  have X0 : Stand p l e ({ frames := 1, cells := 0, slots := 0, locals := 15 } : Room) s m #[(.ref a1)] below meth c s₁ [] 0 0 := Stand.of_body Bd
  have e0 : s₁.heap = h0 := by rw [← hh, Bd.state]; rfl
  have N0 := Fr.nil n0
  have pre0 : ∀ t, Steps p.tables e below (s₁.setTop (mkF m 0 #[.val (.ref a1), .unset, .unset, .unset, .unset] [])) t → Steps p.tables e below (s₁.setTop (entryFrame m #[(.ref a1)] 5)) t := fun t k => castTop (ef7 m a1) k
  obtain ⟨E0, F_s0, F_s1, F_s2, F_s3⟩ := R
  have C17 : ∀ t, Steps p.tables e below (s₁.setTop (mkF m 1 #[.val (.ref a1), .unset, .unset, .unset, .unset] [(.ref a1)])) t → Steps p.tables e below (s₁.setTop (entryFrame m #[(.ref a1)] 5)) t := by
    intro t k
    refine pre0 t ?_
    show Steps p.tables e below (s₁.setTop (mkF m 0 #[.val (.ref a1), .unset, .unset, .unset, .unset] [])) _
    refine XS.aloadN X0.here hx rfl (hb hby d7_0) rfl rfl ?_
    exact k
  obtain ⟨T18, X18, e18, st18⟩ := getF X0 hx hZ hown (host := "") (Or.inl (hw _ (List.mem_of_getElem? (i := 17) rfl))) Via.refl e0 F_s0 (g := (mkF m 1 #[.val (.ref a1), .unset, .unset, .unset, .unset] [(.ref a1)])) rfl rfl (hb hby d7_1)
  have C18 : ∀ t, Steps p.tables e below (T18.setTop (mkF m 4 #[.val (.ref a1), .unset, .unset, .unset, .unset] [(.long w0)])) t → Steps p.tables e below (s₁.setTop (entryFrame m #[(.ref a1)] 5)) t := fun t k => C17 t (st18 t k)
  have C19 : ∀ t, Steps p.tables e below (T18.setTop (mkF m 5 #[.val (.ref a1), .unset, .unset, .unset, .unset] [(.ref a1), (.long w0)])) t → Steps p.tables e below (s₁.setTop (entryFrame m #[(.ref a1)] 5)) t := by
    intro t k
    refine C18 t ?_
    show Steps p.tables e below (T18.setTop (mkF m 4 #[.val (.ref a1), .unset, .unset, .unset, .unset] [(.long w0)])) _
    refine XS.aloadN X18.here hx rfl (hb hby d7_4) rfl rfl ?_
    exact k
  obtain ⟨T20, X20, e20, st20⟩ := getF X18 hx hZ hown (host := "") (Or.inl (hw _ (List.mem_of_getElem? (i := 23) rfl))) Via.refl e18 F_s3 (g := (mkF m 5 #[.val (.ref a1), .unset, .unset, .unset, .unset] [(.ref a1), (.long w0)])) rfl rfl (hb hby d7_5)
  have C20 : ∀ t, Steps p.tables e below (T20.setTop (mkF m 8 #[.val (.ref a1), .unset, .unset, .unset, .unset] [(.long w3), (.long w0)])) t → Steps p.tables e below (s₁.setTop (entryFrame m #[(.ref a1)] 5)) t := fun t k => C19 t (st20 t k)
  have C21 : ∀ t, Steps p.tables e below (T20.setTop (mkF m 11 #[.val (.ref a1), .unset, .unset, .unset, .unset] [(.int (23 : Int32)), (.long (w0 + w3))])) t → Steps p.tables e below (s₁.setTop (entryFrame m #[(.ref a1)] 5)) t := by
    intro t k
    refine C20 t ?_
    show Steps p.tables e below (T20.setTop (mkF m 8 #[.val (.ref a1), .unset, .unset, .unset, .unset] [(.long w3), (.long w0)])) _
    refine XS.ladd X20.here hx rfl (hb hby d7_8) rfl ?_
    show Steps p.tables e below (T20.setTop (mkF m 9 #[.val (.ref a1), .unset, .unset, .unset, .unset] [(.long (w0 + w3))])) _
    refine XS.bipush X20.here hx rfl (hb hby d7_9) ?_
    exact k
  obtain ⟨_, _, ⟨T22, L22, k22, n22⟩, -, X22, ⟨Lc22, hQ22, l22, y22, z22⟩, st22⟩ := Jvm.LawKit.callS X20 hx (y := (⟨"java/lang/Long", "rotateLeft", "(JI)J"⟩ : MethodName)) hown (mvT hZ (hw _ (List.mem_of_getElem? (i := 45) rfl))) (mvT hZ (hw _ (List.mem_of_getElem? (i := 46) rfl))) (mvT hZ (hw _ (List.mem_of_getElem? (i := 47) rfl))) (mvT hZ (hw _ (List.mem_of_getElem? (i := 48) rfl))) (by decide) (backOf (W := 0) (rm8 l Z a0 hw [] (w0 + w3) 23 h0 n0 Z0) hZ (hw _ (List.mem_of_getElem? (i := 48) rfl)) (hw _ (List.mem_of_getElem? (i := 47) rfl)) (by decide) (by decide)) (g := (mkF m 11 #[.val (.ref a1), .unset, .unset, .unset, .unset] [(.int (23 : Int32)), (.long (w0 + w3))])) rfl (by rw [hml]; rfl) (argsL := [(.long (w0 + w3)), (.int (23 : Int32))]) (rest := []) (lenOf pd1 rfl) rfl (by show 2 * 0 + _ ≤ _; exact Nat.le_of_eq rfl) (hb hby d7_11) (fun _ _ => ⟨rfl, e20, (by decide : 0 + 0 ≤ _), (by decide : 0 + 0 ≤ _)⟩)
  dsimp only [Pt.U, Pt.locs, Pt.cells, Pt.slots] at X22 l22 y22 z22 st22 hQ22
  subst l22 y22 z22
  obtain ⟨rfl, N22q, q22⟩ := hQ22
  have N22 := Fr.app N0 N22q
  have C22 : ∀ t, Steps p.tables e below (T22.setTop (mkF m 14 #[.val (.ref a1), .unset, .unset, .unset, .unset] [(.long (own_rotl (w0 + w3) (23 : Int32)))])) t → Steps p.tables e below (s₁.setTop (entryFrame m #[(.ref a1)] 5)) t := fun t k => C21 t (st22 t k)
  have C23 : ∀ t, Steps p.tables e below (T22.setTop (mkF m 15 #[.val (.ref a1), .unset, .unset, .unset, .unset] [(.ref a1), (.long (own_rotl (w0 + w3) (23 : Int32)))])) t → Steps p.tables e below (s₁.setTop (entryFrame m #[(.ref a1)] 5)) t := by
    intro t k
    refine C22 t ?_
    show Steps p.tables e below (T22.setTop (mkF m 14 #[.val (.ref a1), .unset, .unset, .unset, .unset] [(.long (own_rotl (w0 + w3) (23 : Int32)))])) _
    refine XS.aloadN X22.here hx rfl (hb hby d7_14) rfl rfl ?_
    exact k
  obtain ⟨T24, X24, e24, st24⟩ := getF X22 hx hZ hown (host := "") (Or.inl (hw _ (List.mem_of_getElem? (i := 17) rfl))) Via.refl q22 F_s0 (g := (mkF m 15 #[.val (.ref a1), .unset, .unset, .unset, .unset] [(.ref a1), (.long (own_rotl (w0 + w3) (23 : Int32)))])) rfl rfl (hb hby d7_15)
  have C24 : ∀ t, Steps p.tables e below (T24.setTop (mkF m 18 #[.val (.ref a1), .unset, .unset, .unset, .unset] [(.long w0), (.long (own_rotl (w0 + w3) (23 : Int32)))])) t → Steps p.tables e below (s₁.setTop (entryFrame m #[(.ref a1)] 5)) t := fun t k => C23 t (st24 t k)
  have C25 : ∀ t, Steps p.tables e below (T24.setTop (mkF m 21 #[.val (.ref a1), .val (.long (own_res w0 w1 w2 w3)), .second, .unset, .unset] [(.ref a1)])) t → Steps p.tables e below (s₁.setTop (entryFrame m #[(.ref a1)] 5)) t := by
    intro t k
    refine C24 t ?_
    show Steps p.tables e below (T24.setTop (mkF m 18 #[.val (.ref a1), .unset, .unset, .unset, .unset] [(.long w0), (.long (own_rotl (w0 + w3) (23 : Int32)))])) _
    refine XS.ladd X24.here hx rfl (hb hby d7_18) rfl ?_
    show Steps p.tables e below (T24.setTop (mkF m 19 #[.val (.ref a1), .unset, .unset, .unset, .unset] [(.long (own_res w0 w1 w2 w3))])) _
    refine XS.lstoreN X24.here hx rfl (hb hby d7_19) rfl (l' := #[.val (.ref a1), .val (.long (own_res w0 w1 w2 w3)), .second, .unset, .unset]) rfl ?_
    show Steps p.tables e below (T24.setTop (mkF m 20 #[.val (.ref a1), .val (.long (own_res w0 w1 w2 w3)), .second, .unset, .unset] [])) _
    refine XS.aloadN X24.here hx rfl (hb hby d7_20) rfl rfl ?_
    exact k
  obtain ⟨T26, X26, e26, st26⟩ := getF X24 hx hZ hown (host := "") (Or.inl (hw _ (List.mem_of_getElem? (i := 19) rfl))) Via.refl e24 F_s1 (g := (mkF m 21 #[.val (.ref a1), .val (.long (own_res w0 w1 w2 w3)), .second, .unset, .unset] [(.ref a1)])) rfl rfl (hb hby d7_21)
  have C26 : ∀ t, Steps p.tables e below (T26.setTop (mkF m 24 #[.val (.ref a1), .val (.long (own_res w0 w1 w2 w3)), .second, .unset, .unset] [(.long w1)])) t → Steps p.tables e below (s₁.setTop (entryFrame m #[(.ref a1)] 5)) t := fun t k => C25 t (st26 t k)
  have C27 : ∀ t, Steps p.tables e below (T26.setTop (mkF m 30 #[.val (.ref a1), .val (.long (own_res w0 w1 w2 w3)), .second, .val (.long (own_shl w1 (17 : Int32))), .second] [(.ref a1), (.ref a1)])) t → Steps p.tables e below (s₁.setTop (entryFrame m #[(.ref a1)] 5)) t := by
    intro t k
    refine C26 t ?_
    show Steps p.tables e below (T26.setTop (mkF m 24 #[.val (.ref a1), .val (.long (own_res w0 w1 w2 w3)), .second, .unset, .unset] [(.long w1)])) _
    refine XS.bipush X26.here hx rfl (hb hby d7_24) ?_
    show Steps p.tables e below (T26.setTop (mkF m 26 #[.val (.ref a1), .val (.long (own_res w0 w1 w2 w3)), .second, .unset, .unset] [(.int (17 : Int32)), (.long w1)])) _
    refine XS.lshl X26.here hx rfl (hb hby d7_26) rfl ?_
    show Steps p.tables e below (T26.setTop (mkF m 27 #[.val (.ref a1), .val (.long (own_res w0 w1 w2 w3)), .second, .unset, .unset] [(.long (own_shl w1 (17 : Int32)))])) _
    refine XS.lstoreN X26.here hx rfl (hb hby d7_27) rfl (l' := #[.val (.ref a1), .val (.long (own_res w0 w1 w2 w3)), .second, .val (.long (own_shl w1 (17 : Int32))), .second]) rfl ?_
    show Steps p.tables e below (T26.setTop (mkF m 28 #[.val (.ref a1), .val (.long (own_res w0 w1 w2 w3)), .second, .val (.long (own_shl w1 (17 : Int32))), .second] [])) _
    refine XS.aloadN X26.here hx rfl (hb hby d7_28) rfl rfl ?_
    show Steps p.tables e below (T26.setTop (mkF m 29 #[.val (.ref a1), .val (.long (own_res w0 w1 w2 w3)), .second, .val (.long (own_shl w1 (17 : Int32))), .second] [(.ref a1)])) _
    refine XS.dup X26.here hx rfl (hb hby d7_29) rfl rfl ?_
    exact k
  obtain ⟨T28, X28, e28, st28⟩ := getF X26 hx hZ hown (host := "") (Or.inl (hw _ (List.mem_of_getElem? (i := 21) rfl))) Via.refl e26 F_s2 (g := (mkF m 30 #[.val (.ref a1), .val (.long (own_res w0 w1 w2 w3)), .second, .val (.long (own_shl w1 (17 : Int32))), .second] [(.ref a1), (.ref a1)])) rfl rfl (hb hby d7_30)
  have C28 : ∀ t, Steps p.tables e below (T28.setTop (mkF m 33 #[.val (.ref a1), .val (.long (own_res w0 w1 w2 w3)), .second, .val (.long (own_shl w1 (17 : Int32))), .second] [(.long w2), (.ref a1)])) t → Steps p.tables e below (s₁.setTop (entryFrame m #[(.ref a1)] 5)) t := fun t k => C27 t (st28 t k)
  have C29 : ∀ t, Steps p.tables e below (T28.setTop (mkF m 34 #[.val (.ref a1), .val (.long (own_res w0 w1 w2 w3)), .second, .val (.long (own_shl w1 (17 : Int32))), .second] [(.ref a1), (.long w2), (.ref a1)])) t → Steps p.tables e below (s₁.setTop (entryFrame m #[(.ref a1)] 5)) t := by
    intro t k
    refine C28 t ?_
    show Steps p.tables e below (T28.setTop (mkF m 33 #[.val (.ref a1), .val (.long (own_res w0 w1 w2 w3)), .second, .val (.long (own_shl w1 (17 : Int32))), .second] [(.long w2), (.ref a1)])) _
    refine XS.aloadN X28.here hx rfl (hb hby d7_33) rfl rfl ?_
    exact k
  obtain ⟨T30, X30, e30, st30⟩ := getF X28 hx hZ hown (host := "") (Or.inl (hw _ (List.mem_of_getElem? (i := 17) rfl))) Via.refl e28 F_s0 (g := (mkF m 34 #[.val (.ref a1), .val (.long (own_res w0 w1 w2 w3)), .second, .val (.long (own_shl w1 (17 : Int32))), .second] [(.ref a1), (.long w2), (.ref a1)])) rfl rfl (hb hby d7_34)
  have C30 : ∀ t, Steps p.tables e below (T30.setTop (mkF m 37 #[.val (.ref a1), .val (.long (own_res w0 w1 w2 w3)), .second, .val (.long (own_shl w1 (17 : Int32))), .second] [(.long w0), (.long w2), (.ref a1)])) t → Steps p.tables e below (s₁.setTop (entryFrame m #[(.ref a1)] 5)) t := fun t k => C29 t (st30 t k)
  have C31 : ∀ t, Steps p.tables e below (T30.setTop (mkF m 38 #[.val (.ref a1), .val (.long (own_res w0 w1 w2 w3)), .second, .val (.long (own_shl w1 (17 : Int32))), .second] [(.long (w2 ^^^ w0)), (.ref a1)])) t → Steps p.tables e below (s₁.setTop (entryFrame m #[(.ref a1)] 5)) t := by
    intro t k
    refine C30 t ?_
    show Steps p.tables e below (T30.setTop (mkF m 37 #[.val (.ref a1), .val (.long (own_res w0 w1 w2 w3)), .second, .val (.long (own_shl w1 (17 : Int32))), .second] [(.long w0), (.long w2), (.ref a1)])) _
    refine XS.lxor X30.here hx rfl (hb hby d7_37) rfl ?_
    exact k
  obtain ⟨T32, h32, X32, e32, W32, st32⟩ := putF X30 hx hZ hown (host := "") (Or.inl (hw _ (List.mem_of_getElem? (i := 21) rfl))) Via.refl e30 F_s2 E0 (Or.inl (hw _ (List.mem_of_getElem? (i := 22) rfl))) (hw _ (List.mem_of_getElem? (i := 3) rfl)) (ty := .long) (by decide) rfl rfl (g := (mkF m 38 #[.val (.ref a1), .val (.long (own_res w0 w1 w2 w3)), .second, .val (.long (own_shl w1 (17 : Int32))), .second] [(.long (w2 ^^^ w0)), (.ref a1)])) rfl rfl (hb hby d7_38)
  have N32 := Fr.snoc X32 N22 g1
  have C32 : ∀ t, Steps p.tables e below (T32.setTop (mkF m 41 #[.val (.ref a1), .val (.long (own_res w0 w1 w2 w3)), .second, .val (.long (own_shl w1 (17 : Int32))), .second] [])) t → Steps p.tables e below (s₁.setTop (entryFrame m #[(.ref a1)] 5)) t := fun t k => C31 t (st32 t k)
  have F32_s0 := F_s0.other W32 (Or.inr (slot_ne (Or.inl (hw _ (List.mem_of_getElem? (i := 18) rfl))) (Or.inl (hw _ (List.mem_of_getElem? (i := 22) rfl))) (by decide) (t := .long) (t' := .long) (by decide) (by decide)))
  have F32_s1 := F_s1.other W32 (Or.inr (slot_ne (Or.inl (hw _ (List.mem_of_getElem? (i := 20) rfl))) (Or.inl (hw _ (List.mem_of_getElem? (i := 22) rfl))) (by decide) (t := .long) (t' := .long) (by decide) (by decide)))
  have F32_s2 := F_s2.same W32
  have F32_s3 := F_s3.other W32 (Or.inr (slot_ne (Or.inl (hw _ (List.mem_of_getElem? (i := 24) rfl))) (Or.inl (hw _ (List.mem_of_getElem? (i := 22) rfl))) (by decide) (t := .long) (t' := .long) (by decide) (by decide)))
  have E32x := E0.wr W32
  have K32 : Keep h0 h32 [a1] := ((Keep.refl h0 [a1]).wr W32 (Or.inl (List.mem_of_getElem? (i := 0) rfl)))
  have Z32 : n0 ≤ h32.size := Nat.le_trans Z0 K32.1
  have C33 : ∀ t, Steps p.tables e below (T32.setTop (mkF m 43 #[.val (.ref a1), .val (.long (own_res w0 w1 w2 w3)), .second, .val (.long (own_shl w1 (17 : Int32))), .second] [(.ref a1), (.ref a1)])) t → Steps p.tables e below (s₁.setTop (entryFrame m #[(.ref a1)] 5)) t := by
    intro t k
    refine C32 t ?_
    show Steps p.tables e below (T32.setTop (mkF m 41 #[.val (.ref a1), .val (.long (own_res w0 w1 w2 w3)), .second, .val (.long (own_shl w1 (17 : Int32))), .second] [])) _
    refine XS.aloadN X32.here hx rfl (hb hby d7_41) rfl rfl ?_
    show Steps p.tables e below (T32.setTop (mkF m 42 #[.val (.ref a1), .val (.long (own_res w0 w1 w2 w3)), .second, .val (.long (own_shl w1 (17 : Int32))), .second] [(.ref a1)])) _
    refine XS.dup X32.here hx rfl (hb hby d7_42) rfl rfl ?_
    exact k
  obtain ⟨T34, X34, e34, st34⟩ := getF X32 hx hZ hown (host := "") (Or.inl (hw _ (List.mem_of_getElem? (i := 23) rfl))) Via.refl e32 F32_s3 (g := (mkF m 43 #[.val (.ref a1), .val (.long (own_res w0 w1 w2 w3)), .second, .val (.long (own_shl w1 (17 : Int32))), .second] [(.ref a1), (.ref a1)])) rfl rfl (hb hby d7_43)
  have C34 : ∀ t, Steps p.tables e below (T34.setTop (mkF m 46 #[.val (.ref a1), .val (.long (own_res w0 w1 w2 w3)), .second, .val (.long (own_shl w1 (17 : Int32))), .second] [(.long w3), (.ref a1)])) t → Steps p.tables e below (s₁.setTop (entryFrame m #[(.ref a1)] 5)) t := fun t k => C33 t (st34 t k)
  have C35 : ∀ t, Steps p.tables e below (T34.setTop (mkF m 47 #[.val (.ref a1), .val (.long (own_res w0 w1 w2 w3)), .second, .val (.long (own_shl w1 (17 : Int32))), .second] [(.ref a1), (.long w3), (.ref a1)])) t → Steps p.tables e below (s₁.setTop (entryFrame m #[(.ref a1)] 5)) t := by
    intro t k
    refine C34 t ?_
    show Steps p.tables e below (T34.setTop (mkF m 46 #[.val (.ref a1), .val (.long (own_res w0 w1 w2 w3)), .second, .val (.long (own_shl w1 (17 : Int32))), .second] [(.long w3), (.ref a1)])) _
    refine XS.aloadN X34.here hx rfl (hb hby d7_46) rfl rfl ?_
    exact k
  obtain ⟨T36, X36, e36, st36⟩ := getF X34 hx hZ hown (host := "") (Or.inl (hw _ (List.mem_of_getElem? (i := 19) rfl))) Via.refl e34 F32_s1 (g := (mkF m 47 #[.val (.ref a1), .val (.long (own_res w0 w1 w2 w3)), .second, .val (.long (own_shl w1 (17 : Int32))), .second] [(.ref a1), (.long w3), (.ref a1)])) rfl rfl (hb hby d7_47)
  have C36 : ∀ t, Steps p.tables e below (T36.setTop (mkF m 50 #[.val (.ref a1), .val (.long (own_res w0 w1 w2 w3)), .second, .val (.long (own_shl w1 (17 : Int32))), .second] [(.long w1), (.long w3), (.ref a1)])) t → Steps p.tables e below (s₁.setTop (entryFrame m #[(.ref a1)] 5)) t := fun t k => C35 t (st36 t k)
  have C37 : ∀ t, Steps p.tables e below (T36.setTop (mkF m 51 #[.val (.ref a1), .val (.long (own_res w0 w1 w2 w3)), .second, .val (.long (own_shl w1 (17 : Int32))), .second] [(.long (w3 ^^^ w1)), (.ref a1)])) t → Steps p.tables e below (s₁.setTop (entryFrame m #[(.ref a1)] 5)) t := by
    intro t k
    refine C36 t ?_
    show Steps p.tables e below (T36.setTop (mkF m 50 #[.val (.ref a1), .val (.long (own_res w0 w1 w2 w3)), .second, .val (.long (own_shl w1 (17 : Int32))), .second] [(.long w1), (.long w3), (.ref a1)])) _
    refine XS.lxor X36.here hx rfl (hb hby d7_50) rfl ?_
    exact k
  obtain ⟨T38, h38, X38, e38, W38, st38⟩ := putF X36 hx hZ hown (host := "") (Or.inl (hw _ (List.mem_of_getElem? (i := 23) rfl))) Via.refl e36 F32_s3 E32x (Or.inl (hw _ (List.mem_of_getElem? (i := 24) rfl))) (hw _ (List.mem_of_getElem? (i := 3) rfl)) (ty := .long) (by decide) rfl rfl (g := (mkF m 51 #[.val (.ref a1), .val (.long (own_res w0 w1 w2 w3)), .second, .val (.long (own_shl w1 (17 : Int32))), .second] [(.long (w3 ^^^ w1)), (.ref a1)])) rfl rfl (hb hby d7_51)
  have N38 := Fr.snoc X38 N32 g1
  have C38 : ∀ t, Steps p.tables e below (T38.setTop (mkF m 54 #[.val (.ref a1), .val (.long (own_res w0 w1 w2 w3)), .second, .val (.long (own_shl w1 (17 : Int32))), .second] [])) t → Steps p.tables e below (s₁.setTop (entryFrame m #[(.ref a1)] 5)) t := fun t k => C37 t (st38 t k)
  have F38_s0 := F32_s0.other W38 (Or.inr (slot_ne (Or.inl (hw _ (List.mem_of_getElem? (i := 18) rfl))) (Or.inl (hw _ (List.mem_of_getElem? (i := 24) rfl))) (by decide) (t := .long) (t' := .long) (by decide) (by decide)))
  have F38_s1 := F32_s1.other W38 (Or.inr (slot_ne (Or.inl (hw _ (List.mem_of_getElem? (i := 20) rfl))) (Or.inl (hw _ (List.mem_of_getElem? (i := 24) rfl))) (by decide) (t := .long) (t' := .long) (by decide) (by decide)))
  have F38_s2 := F32_s2.other W38 (Or.inr (slot_ne (Or.inl (hw _ (List.mem_of_getElem? (i := 22) rfl))) (Or.inl (hw _ (List.mem_of_getElem? (i := 24) rfl))) (by decide) (t := .long) (t' := .long) (by decide) (by decide)))
  have F38_s3 := F32_s3.same W38
  have E38x := E32x.wr W38
  have K38 : Keep h0 h38 [a1] := (K32.wr W38 (Or.inl (List.mem_of_getElem? (i := 0) rfl)))
  have Z38 : n0 ≤ h38.size := Nat.le_trans Z0 K38.1
  have C39 : ∀ t, Steps p.tables e below (T38.setTop (mkF m 56 #[.val (.ref a1), .val (.long (own_res w0 w1 w2 w3)), .second, .val (.long (own_shl w1 (17 : Int32))), .second] [(.ref a1), (.ref a1)])) t → Steps p.tables e below (s₁.setTop (entryFrame m #[(.ref a1)] 5)) t := by
    intro t k
    refine C38 t ?_
    show Steps p.tables e below (T38.setTop (mkF m 54 #[.val (.ref a1), .val (.long (own_res w0 w1 w2 w3)), .second, .val (.long (own_shl w1 (17 : Int32))), .second] [])) _
    refine XS.aloadN X38.here hx rfl (hb hby d7_54) rfl rfl ?_
    show Steps p.tables e below (T38.setTop (mkF m 55 #[.val (.ref a1), .val (.long (own_res w0 w1 w2 w3)), .second, .val (.long (own_shl w1 (17 : Int32))), .second] [(.ref a1)])) _
    refine XS.dup X38.here hx rfl (hb hby d7_55) rfl rfl ?_
    exact k
  obtain ⟨T40, X40, e40, st40⟩ := getF X38 hx hZ hown (host := "") (Or.inl (hw _ (List.mem_of_getElem? (i := 19) rfl))) Via.refl e38 F38_s1 (g := (mkF m 56 #[.val (.ref a1), .val (.long (own_res w0 w1 w2 w3)), .second, .val (.long (own_shl w1 (17 : Int32))), .second] [(.ref a1), (.ref a1)])) rfl rfl (hb hby d7_56)
  have C40 : ∀ t, Steps p.tables e below (T40.setTop (mkF m 59 #[.val (.ref a1), .val (.long (own_res w0 w1 w2 w3)), .second, .val (.long (own_shl w1 (17 : Int32))), .second] [(.long w1), (.ref a1)])) t → Steps p.tables e below (s₁.setTop (entryFrame m #[(.ref a1)] 5)) t := fun t k => C39 t (st40 t k)
  have C41 : ∀ t, Steps p.tables e below (T40.setTop (mkF m 60 #[.val (.ref a1), .val (.long (own_res w0 w1 w2 w3)), .second, .val (.long (own_shl w1 (17 : Int32))), .second] [(.ref a1), (.long w1), (.ref a1)])) t → Steps p.tables e below (s₁.setTop (entryFrame m #[(.ref a1)] 5)) t := by
    intro t k
    refine C40 t ?_
    show Steps p.tables e below (T40.setTop (mkF m 59 #[.val (.ref a1), .val (.long (own_res w0 w1 w2 w3)), .second, .val (.long (own_shl w1 (17 : Int32))), .second] [(.long w1), (.ref a1)])) _
    refine XS.aloadN X40.here hx rfl (hb hby d7_59) rfl rfl ?_
    exact k
  obtain ⟨T42, X42, e42, st42⟩ := getF X40 hx hZ hown (host := "") (Or.inl (hw _ (List.mem_of_getElem? (i := 21) rfl))) Via.refl e40 F38_s2 (g := (mkF m 60 #[.val (.ref a1), .val (.long (own_res w0 w1 w2 w3)), .second, .val (.long (own_shl w1 (17 : Int32))), .second] [(.ref a1), (.long w1), (.ref a1)])) rfl rfl (hb hby d7_60)
  have C42 : ∀ t, Steps p.tables e below (T42.setTop (mkF m 63 #[.val (.ref a1), .val (.long (own_res w0 w1 w2 w3)), .second, .val (.long (own_shl w1 (17 : Int32))), .second] [(.long (w2 ^^^ w0)), (.long w1), (.ref a1)])) t → Steps p.tables e below (s₁.setTop (entryFrame m #[(.ref a1)] 5)) t := fun t k => C41 t (st42 t k)
  have C43 : ∀ t, Steps p.tables e below (T42.setTop (mkF m 64 #[.val (.ref a1), .val (.long (own_res w0 w1 w2 w3)), .second, .val (.long (own_shl w1 (17 : Int32))), .second] [(.long (own_s1 w0 w1 w2 w3)), (.ref a1)])) t → Steps p.tables e below (s₁.setTop (entryFrame m #[(.ref a1)] 5)) t := by
    intro t k
    refine C42 t ?_
    show Steps p.tables e below (T42.setTop (mkF m 63 #[.val (.ref a1), .val (.long (own_res w0 w1 w2 w3)), .second, .val (.long (own_shl w1 (17 : Int32))), .second] [(.long (w2 ^^^ w0)), (.long w1), (.ref a1)])) _
    refine XS.lxor X42.here hx rfl (hb hby d7_63) rfl ?_
    exact k
  obtain ⟨T44, h44, X44, e44, W44, st44⟩ := putF X42 hx hZ hown (host := "") (Or.inl (hw _ (List.mem_of_getElem? (i := 19) rfl))) Via.refl e42 F38_s1 E38x (Or.inl (hw _ (List.mem_of_getElem? (i := 20) rfl))) (hw _ (List.mem_of_getElem? (i := 3) rfl)) (ty := .long) (by decide) rfl rfl (g := (mkF m 64 #[.val (.ref a1), .val (.long (own_res w0 w1 w2 w3)), .second, .val (.long (own_shl w1 (17 : Int32))), .second] [(.long (own_s1 w0 w1 w2 w3)), (.ref a1)])) rfl rfl (hb hby d7_64)
  have N44 := Fr.snoc X44 N38 g1
  have C44 : ∀ t, Steps p.tables e below (T44.setTop (mkF m 67 #[.val (.ref a1), .val (.long (own_res w0 w1 w2 w3)), .second, .val (.long (own_shl w1 (17 : Int32))), .second] [])) t → Steps p.tables e below (s₁.setTop (entryFrame m #[(.ref a1)] 5)) t := fun t k => C43 t (st44 t k)
  have F44_s0 := F38_s0.other W44 (Or.inr (slot_ne (Or.inl (hw _ (List.mem_of_getElem? (i := 18) rfl))) (Or.inl (hw _ (List.mem_of_getElem? (i := 20) rfl))) (by decide) (t := .long) (t' := .long) (by decide) (by decide)))
  have F44_s1 := F38_s1.same W44
  have F44_s2 := F38_s2.other W44 (Or.inr (slot_ne (Or.inl (hw _ (List.mem_of_getElem? (i := 22) rfl))) (Or.inl (hw _ (List.mem_of_getElem? (i := 20) rfl))) (by decide) (t := .long) (t' := .long) (by decide) (by decide)))
  have F44_s3 := F38_s3.other W44 (Or.inr (slot_ne (Or.inl (hw _ (List.mem_of_getElem? (i := 24) rfl))) (Or.inl (hw _ (List.mem_of_getElem? (i := 20) rfl))) (by decide) (t := .long) (t' := .long) (by decide) (by decide)))
  have E44x := E38x.wr W44
  have K44 : Keep h0 h44 [a1] := (K38.wr W44 (Or.inl (List.mem_of_getElem? (i := 0) rfl)))
  have Z44 : n0 ≤ h44.size := Nat.le_trans Z0 K44.1
  have C45 : ∀ t, Steps p.tables e below (T44.setTop (mkF m 69 #[.val (.ref a1), .val (.long (own_res w0 w1 w2 w3)), .second, .val (.long (own_shl w1 (17 : Int32))), .second] [(.ref a1), (.ref a1)])) t → Steps p.tables e below (s₁.setTop (entryFrame m #[(.ref a1)] 5)) t := by
    intro t k
    refine C44 t ?_
    show Steps p.tables e below (T44.setTop (mkF m 67 #[.val (.ref a1), .val (.long (own_res w0 w1 w2 w3)), .second, .val (.long (own_shl w1 (17 : Int32))), .second] [])) _
    refine XS.aloadN X44.here hx rfl (hb hby d7_67) rfl rfl ?_
    show Steps p.tables e below (T44.setTop (mkF m 68 #[.val (.ref a1), .val (.long (own_res w0 w1 w2 w3)), .second, .val (.long (own_shl w1 (17 : Int32))), .second] [(.ref a1)])) _
    refine XS.dup X44.here hx rfl (hb hby d7_68) rfl rfl ?_
    exact k
  obtain ⟨T46, X46, e46, st46⟩ := getF X44 hx hZ hown (host := "") (Or.inl (hw _ (List.mem_of_getElem? (i := 17) rfl))) Via.refl e44 F44_s0 (g := (mkF m 69 #[.val (.ref a1), .val (.long (own_res w0 w1 w2 w3)), .second, .val (.long (own_shl w1 (17 : Int32))), .second] [(.ref a1), (.ref a1)])) rfl rfl (hb hby d7_69)
  have C46 : ∀ t, Steps p.tables e below (T46.setTop (mkF m 72 #[.val (.ref a1), .val (.long (own_res w0 w1 w2 w3)), .second, .val (.long (own_shl w1 (17 : Int32))), .second] [(.long w0), (.ref a1)])) t → Steps p.tables e below (s₁.setTop (entryFrame m #[(.ref a1)] 5)) t := fun t k => C45 t (st46 t k)
  have C47 : ∀ t, Steps p.tables e below (T46.setTop (mkF m 73 #[.val (.ref a1), .val (.long (own_res w0 w1 w2 w3)), .second, .val (.long (own_shl w1 (17 : Int32))), .second] [(.ref a1), (.long w0), (.ref a1)])) t → Steps p.tables e below (s₁.setTop (entryFrame m #[(.ref a1)] 5)) t := by
    intro t k
    refine C46 t ?_
    show Steps p.tables e below (T46.setTop (mkF m 72 #[.val (.ref a1), .val (.long (own_res w0 w1 w2 w3)), .second, .val (.long (own_shl w1 (17 : Int32))), .second] [(.long w0), (.ref a1)])) _
    refine XS.aloadN X46.here hx rfl (hb hby d7_72) rfl rfl ?_
    exact k
  obtain ⟨T48, X48, e48, st48⟩ := getF X46 hx hZ hown (host := "") (Or.inl (hw _ (List.mem_of_getElem? (i := 23) rfl))) Via.refl e46 F44_s3 (g := (mkF m 73 #[.val (.ref a1), .val (.long (own_res w0 w1 w2 w3)), .second, .val (.long (own_shl w1 (17 : Int32))), .second] [(.ref a1), (.long w0), (.ref a1)])) rfl rfl (hb hby d7_73)
  have C48 : ∀ t, Steps p.tables e below (T48.setTop (mkF m 76 #[.val (.ref a1), .val (.long (own_res w0 w1 w2 w3)), .second, .val (.long (own_shl w1 (17 : Int32))), .second] [(.long (w3 ^^^ w1)), (.long w0), (.ref a1)])) t → Steps p.tables e below (s₁.setTop (entryFrame m #[(.ref a1)] 5)) t := fun t k => C47 t (st48 t k)
  have C49 : ∀ t, Steps p.tables e below (T48.setTop (mkF m 77 #[.val (.ref a1), .val (.long (own_res w0 w1 w2 w3)), .second, .val (.long (own_shl w1 (17 : Int32))), .second] [(.long (own_s0 w0 w1 w2 w3)), (.ref a1)])) t → Steps p.tables e below (s₁.setTop (entryFrame m #[(.ref a1)] 5)) t := by
    intro t k
    refine C48 t ?_
    show Steps p.tables e below (T48.setTop (mkF m 76 #[.val (.ref a1), .val (.long (own_res w0 w1 w2 w3)), .second, .val (.long (own_shl w1 (17 : Int32))), .second] [(.long (w3 ^^^ w1)), (.long w0), (.ref a1)])) _
    refine XS.lxor X48.here hx rfl (hb hby d7_76) rfl ?_
    exact k
  obtain ⟨T50, h50, X50, e50, W50, st50⟩ := putF X48 hx hZ hown (host := "") (Or.inl (hw _ (List.mem_of_getElem? (i := 17) rfl))) Via.refl e48 F44_s0 E44x (Or.inl (hw _ (List.mem_of_getElem? (i := 18) rfl))) (hw _ (List.mem_of_getElem? (i := 3) rfl)) (ty := .long) (by decide) rfl rfl (g := (mkF m 77 #[.val (.ref a1), .val (.long (own_res w0 w1 w2 w3)), .second, .val (.long (own_shl w1 (17 : Int32))), .second] [(.long (own_s0 w0 w1 w2 w3)), (.ref a1)])) rfl rfl (hb hby d7_77)
  have N50 := Fr.snoc X50 N44 g1
  have C50 : ∀ t, Steps p.tables e below (T50.setTop (mkF m 80 #[.val (.ref a1), .val (.long (own_res w0 w1 w2 w3)), .second, .val (.long (own_shl w1 (17 : Int32))), .second] [])) t → Steps p.tables e below (s₁.setTop (entryFrame m #[(.ref a1)] 5)) t := fun t k => C49 t (st50 t k)
  have F50_s0 := F44_s0.same W50
  have F50_s1 := F44_s1.other W50 (Or.inr (slot_ne (Or.inl (hw _ (List.mem_of_getElem? (i := 20) rfl))) (Or.inl (hw _ (List.mem_of_getElem? (i := 18) rfl))) (by decide) (t := .long) (t' := .long) (by decide) (by decide)))
  have F50_s2 := F44_s2.other W50 (Or.inr (slot_ne (Or.inl (hw _ (List.mem_of_getElem? (i := 22) rfl))) (Or.inl (hw _ (List.mem_of_getElem? (i := 18) rfl))) (by decide) (t := .long) (t' := .long) (by decide) (by decide)))
  have F50_s3 := F44_s3.other W50 (Or.inr (slot_ne (Or.inl (hw _ (List.mem_of_getElem? (i := 24) rfl))) (Or.inl (hw _ (List.mem_of_getElem? (i := 18) rfl))) (by decide) (t := .long) (t' := .long) (by decide) (by decide)))
  have E50x := E44x.wr W50
  have K50 : Keep h0 h50 [a1] := (K44.wr W50 (Or.inl (List.mem_of_getElem? (i := 0) rfl)))
  have Z50 : n0 ≤ h50.size := Nat.le_trans Z0 K50.1
  have C51 : ∀ t, Steps p.tables e below (T50.setTop (mkF m 82 #[.val (.ref a1), .val (.long (own_res w0 w1 w2 w3)), .second, .val (.long (own_shl w1 (17 : Int32))), .second] [(.ref a1), (.ref a1)])) t → Steps p.tables e below (s₁.setTop (entryFrame m #[(.ref a1)] 5)) t := by
    intro t k
    refine C50 t ?_
    show Steps p.tables e below (T50.setTop (mkF m 80 #[.val (.ref a1), .val (.long (own_res w0 w1 w2 w3)), .second, .val (.long (own_shl w1 (17 : Int32))), .second] [])) _
    refine XS.aloadN X50.here hx rfl (hb hby d7_80) rfl rfl ?_
    show Steps p.tables e below (T50.setTop (mkF m 81 #[.val (.ref a1), .val (.long (own_res w0 w1 w2 w3)), .second, .val (.long (own_shl w1 (17 : Int32))), .second] [(.ref a1)])) _
    refine XS.dup X50.here hx rfl (hb hby d7_81) rfl rfl ?_
    exact k
  obtain ⟨T52, X52, e52, st52⟩ := getF X50 hx hZ hown (host := "") (Or.inl (hw _ (List.mem_of_getElem? (i := 21) rfl))) Via.refl e50 F50_s2 (g := (mkF m 82 #[.val (.ref a1), .val (.long (own_res w0 w1 w2 w3)), .second, .val (.long (own_shl w1 (17 : Int32))), .second] [(.ref a1), (.ref a1)])) rfl rfl (hb hby d7_82)
  have C52 : ∀ t, Steps p.tables e below (T52.setTop (mkF m 85 #[.val (.ref a1), .val (.long (own_res w0 w1 w2 w3)), .second, .val (.long (own_shl w1 (17 : Int32))), .second] [(.long (w2 ^^^ w0)), (.ref a1)])) t → Steps p.tables e below (s₁.setTop (entryFrame m #[(.ref a1)] 5)) t := fun t k => C51 t (st52 t k)
  have C53 : ∀ t, Steps p.tables e below (T52.setTop (mkF m 87 #[.val (.ref a1), .val (.long (own_res w0 w1 w2 w3)), .second, .val (.long (own_shl w1 (17 : Int32))), .second] [(.long (own_s2 w0 w1 w2 w3)), (.ref a1)])) t → Steps p.tables e below (s₁.setTop (entryFrame m #[(.ref a1)] 5)) t := by
    intro t k
    refine C52 t ?_
    show Steps p.tables e below (T52.setTop (mkF m 85 #[.val (.ref a1), .val (.long (own_res w0 w1 w2 w3)), .second, .val (.long (own_shl w1 (17 : Int32))), .second] [(.long (w2 ^^^ w0)), (.ref a1)])) _
    refine XS.lloadN X52.here hx rfl (hb hby d7_85) rfl ?_
    show Steps p.tables e below (T52.setTop (mkF m 86 #[.val (.ref a1), .val (.long (own_res w0 w1 w2 w3)), .second, .val (.long (own_shl w1 (17 : Int32))), .second] [(.long (own_shl w1 (17 : Int32))), (.long (w2 ^^^ w0)), (.ref a1)])) _
    refine XS.lxor X52.here hx rfl (hb hby d7_86) rfl ?_
    exact k
  obtain ⟨T54, h54, X54, e54, W54, st54⟩ := putF X52 hx hZ hown (host := "") (Or.inl (hw _ (List.mem_of_getElem? (i := 21) rfl))) Via.refl e52 F50_s2 E50x (Or.inl (hw _ (List.mem_of_getElem? (i := 22) rfl))) (hw _ (List.mem_of_getElem? (i := 3) rfl)) (ty := .long) (by decide) rfl rfl (g := (mkF m 87 #[.val (.ref a1), .val (.long (own_res w0 w1 w2 w3)), .second, .val (.long (own_shl w1 (17 : Int32))), .second] [(.long (own_s2 w0 w1 w2 w3)), (.ref a1)])) rfl rfl (hb hby d7_87)
  have N54 := Fr.snoc X54 N50 g1
  have C54 : ∀ t, Steps p.tables e below (T54.setTop (mkF m 90 #[.val (.ref a1), .val (.long (own_res w0 w1 w2 w3)), .second, .val (.long (own_shl w1 (17 : Int32))), .second] [])) t → Steps p.tables e below (s₁.setTop (entryFrame m #[(.ref a1)] 5)) t := fun t k => C53 t (st54 t k)
  have F54_s0 := F50_s0.other W54 (Or.inr (slot_ne (Or.inl (hw _ (List.mem_of_getElem? (i := 18) rfl))) (Or.inl (hw _ (List.mem_of_getElem? (i := 22) rfl))) (by decide) (t := .long) (t' := .long) (by decide) (by decide)))
  have F54_s1 := F50_s1.other W54 (Or.inr (slot_ne (Or.inl (hw _ (List.mem_of_getElem? (i := 20) rfl))) (Or.inl (hw _ (List.mem_of_getElem? (i := 22) rfl))) (by decide) (t := .long) (t' := .long) (by decide) (by decide)))
  have F54_s2 := F50_s2.same W54
  have F54_s3 := F50_s3.other W54 (Or.inr (slot_ne (Or.inl (hw _ (List.mem_of_getElem? (i := 24) rfl))) (Or.inl (hw _ (List.mem_of_getElem? (i := 22) rfl))) (by decide) (t := .long) (t' := .long) (by decide) (by decide)))
  have E54x := E50x.wr W54
  have K54 : Keep h0 h54 [a1] := (K50.wr W54 (Or.inl (List.mem_of_getElem? (i := 0) rfl)))
  have Z54 : n0 ≤ h54.size := Nat.le_trans Z0 K54.1
  have C55 : ∀ t, Steps p.tables e below (T54.setTop (mkF m 92 #[.val (.ref a1), .val (.long (own_res w0 w1 w2 w3)), .second, .val (.long (own_shl w1 (17 : Int32))), .second] [(.ref a1), (.ref a1)])) t → Steps p.tables e below (s₁.setTop (entryFrame m #[(.ref a1)] 5)) t := by
    intro t k
    refine C54 t ?_
    show Steps p.tables e below (T54.setTop (mkF m 90 #[.val (.ref a1), .val (.long (own_res w0 w1 w2 w3)), .second, .val (.long (own_shl w1 (17 : Int32))), .second] [])) _
    refine XS.aloadN X54.here hx rfl (hb hby d7_90) rfl rfl ?_
    show Steps p.tables e below (T54.setTop (mkF m 91 #[.val (.ref a1), .val (.long (own_res w0 w1 w2 w3)), .second, .val (.long (own_shl w1 (17 : Int32))), .second] [(.ref a1)])) _
    refine XS.aloadN X54.here hx rfl (hb hby d7_91) rfl rfl ?_
    exact k
  obtain ⟨T56, X56, e56, st56⟩ := getF X54 hx hZ hown (host := "") (Or.inl (hw _ (List.mem_of_getElem? (i := 23) rfl))) Via.refl e54 F54_s3 (g := (mkF m 92 #[.val (.ref a1), .val (.long (own_res w0 w1 w2 w3)), .second, .val (.long (own_shl w1 (17 : Int32))), .second] [(.ref a1), (.ref a1)])) rfl rfl (hb hby d7_92)
  have C56 : ∀ t, Steps p.tables e below (T56.setTop (mkF m 95 #[.val (.ref a1), .val (.long (own_res w0 w1 w2 w3)), .second, .val (.long (own_shl w1 (17 : Int32))), .second] [(.long (w3 ^^^ w1)), (.ref a1)])) t → Steps p.tables e below (s₁.setTop (entryFrame m #[(.ref a1)] 5)) t := fun t k => C55 t (st56 t k)
  have C57 : ∀ t, Steps p.tables e below (T56.setTop (mkF m 97 #[.val (.ref a1), .val (.long (own_res w0 w1 w2 w3)), .second, .val (.long (own_shl w1 (17 : Int32))), .second] [(.int (45 : Int32)), (.long (w3 ^^^ w1)), (.ref a1)])) t → Steps p.tables e below (s₁.setTop (entryFrame m #[(.ref a1)] 5)) t := by
    intro t k
    refine C56 t ?_
    show Steps p.tables e below (T56.setTop (mkF m 95 #[.val (.ref a1), .val (.long (own_res w0 w1 w2 w3)), .second, .val (.long (own_shl w1 (17 : Int32))), .second] [(.long (w3 ^^^ w1)), (.ref a1)])) _
    refine XS.bipush X56.here hx rfl (hb hby d7_95) ?_
    exact k
  obtain ⟨_, _, ⟨T58, L58, k58, n58⟩, -, X58, ⟨Lc58, hQ58, l58, y58, z58⟩, st58⟩ := Jvm.LawKit.callS X56 hx (y := (⟨"java/lang/Long", "rotateLeft", "(JI)J"⟩ : MethodName)) hown (mvT hZ (hw _ (List.mem_of_getElem? (i := 45) rfl))) (mvT hZ (hw _ (List.mem_of_getElem? (i := 46) rfl))) (mvT hZ (hw _ (List.mem_of_getElem? (i := 47) rfl))) (mvT hZ (hw _ (List.mem_of_getElem? (i := 48) rfl))) (by decide) (backOf (W := 1) (rm8 l Z a0 hw [] (w3 ^^^ w1) 45 h54 n0 Z54) hZ (hw _ (List.mem_of_getElem? (i := 48) rfl)) (hw _ (List.mem_of_getElem? (i := 47) rfl)) (by decide) (by decide)) (g := (mkF m 97 #[.val (.ref a1), .val (.long (own_res w0 w1 w2 w3)), .second, .val (.long (own_shl w1 (17 : Int32))), .second] [(.int (45 : Int32)), (.long (w3 ^^^ w1)), (.ref a1)])) rfl (by rw [hml]; rfl) (argsL := [(.long (w3 ^^^ w1)), (.int (45 : Int32))]) (rest := [(.ref a1)]) (lenOf pd1 rfl) rfl (by show 2 * 0 + _ ≤ _; exact Nat.le_of_eq rfl) (hb hby d7_97) (fun _ _ => ⟨rfl, e56, (by decide : 0 + 0 ≤ _), (by decide : 0 + 0 ≤ _)⟩)
  dsimp only [Pt.U, Pt.locs, Pt.cells, Pt.slots] at X58 l58 y58 z58 st58 hQ58
  subst l58 y58 z58
  obtain ⟨rfl, N58q, q58⟩ := hQ58
  have N58 := Fr.app N54 N58q
  have C58 : ∀ t, Steps p.tables e below (T58.setTop (mkF m 100 #[.val (.ref a1), .val (.long (own_res w0 w1 w2 w3)), .second, .val (.long (own_shl w1 (17 : Int32))), .second] [(.long (own_rotl (w3 ^^^ w1) (45 : Int32))), (.ref a1)])) t → Steps p.tables e below (s₁.setTop (entryFrame m #[(.ref a1)] 5)) t := fun t k => C57 t (st58 t k)
  obtain ⟨T59, h59, X59, e59, W59, st59⟩ := putF X58 hx hZ hown (host := "") (Or.inl (hw _ (List.mem_of_getElem? (i := 23) rfl))) Via.refl q58 F54_s3 E54x (Or.inl (hw _ (List.mem_of_getElem? (i := 24) rfl))) (hw _ (List.mem_of_getElem? (i := 3) rfl)) (ty := .long) (by decide) rfl rfl (g := (mkF m 100 #[.val (.ref a1), .val (.long (own_res w0 w1 w2 w3)), .second, .val (.long (own_shl w1 (17 : Int32))), .second] [(.long (own_s3 w0 w1 w2 w3)), (.ref a1)])) rfl rfl (hb hby d7_100)
  have N59 := Fr.snoc X59 N58 g1
  have C59 : ∀ t, Steps p.tables e below (T59.setTop (mkF m 103 #[.val (.ref a1), .val (.long (own_res w0 w1 w2 w3)), .second, .val (.long (own_shl w1 (17 : Int32))), .second] [])) t → Steps p.tables e below (s₁.setTop (entryFrame m #[(.ref a1)] 5)) t := fun t k => C58 t (st59 t k)
  have F59_s0 := F54_s0.other W59 (Or.inr (slot_ne (Or.inl (hw _ (List.mem_of_getElem? (i := 18) rfl))) (Or.inl (hw _ (List.mem_of_getElem? (i := 24) rfl))) (by decide) (t := .long) (t' := .long) (by decide) (by decide)))
  have F59_s1 := F54_s1.other W59 (Or.inr (slot_ne (Or.inl (hw _ (List.mem_of_getElem? (i := 20) rfl))) (Or.inl (hw _ (List.mem_of_getElem? (i := 24) rfl))) (by decide) (t := .long) (t' := .long) (by decide) (by decide)))
  have F59_s2 := F54_s2.other W59 (Or.inr (slot_ne (Or.inl (hw _ (List.mem_of_getElem? (i := 22) rfl))) (Or.inl (hw _ (List.mem_of_getElem? (i := 24) rfl))) (by decide) (t := .long) (t' := .long) (by decide) (by decide)))
  have F59_s3 := F54_s3.same W59
  have E59x := E54x.wr W59
  have K59 : Keep h0 h59 [a1] := (K54.wr W59 (Or.inl (List.mem_of_getElem? (i := 0) rfl)))
  have Z59 : n0 ≤ h59.size := Nat.le_trans Z0 K59.1
  have C60 : ∀ t, Steps p.tables e below (T59.setTop (mkF m 104 #[.val (.ref a1), .val (.long (own_res w0 w1 w2 w3)), .second, .val (.long (own_shl w1 (17 : Int32))), .second] [(.long (own_res w0 w1 w2 w3))])) t → Steps p.tables e below (s₁.setTop (entryFrame m #[(.ref a1)] 5)) t := by
    intro t k
    refine C59 t ?_
    show Steps p.tables e below (T59.setTop (mkF m 103 #[.val (.ref a1), .val (.long (own_res w0 w1 w2 w3)), .second, .val (.long (own_shl w1 (17 : Int32))), .second] [])) _
    refine XS.lloadN X59.here hx rfl (hb hby d7_103) rfl ?_
    exact k
  obtain ⟨fs, hr, hrun, hended, hW, hsame⟩ := X59.leave (v := some (.long (own_res w0 w1 w2 w3))) (fun h => by rw [Bd.returns] at h; cases h)
  refine ⟨_, _, C60 _ ?_, hrun, hended, _, _, rfl, ?_, ⟨_, rfl⟩, hW, hsame.mono (by decide) (by decide)⟩
  · show Steps p.tables e below (T59.setTop (mkF m 104 #[.val (.ref a1), .val (.long (own_res w0 w1 w2 w3)), .second, .val (.long (own_shl w1 (17 : Int32))), .second] [(.long (own_res w0 w1 w2 w3))])) _
    exact retOut X59 hx Bd.returns rfl (Or.inr (Or.inl ⟨rfl, rfl, _, rfl⟩)) (hb hby d7_104) hr
  · show Q7 Z a1 w0 w1 w2 w3 h0 n0 _ T59.heap _
    rw [e59]
    exact ⟨rfl, N59, ⟨E59x, F59_s0, F59_s1, F59_s2, F59_s3⟩, K59⟩
theorem pd2 : parseMethodDescriptor "()J" = some ⟨[], some .long⟩ := by decide +kernel
def Q6 (Z : State) (a1 : Addr) (w0 w1 w2 w3 : Int64) (h0 : Heap) (n0 : Nat) (v : Option Value) (h : Heap) (L : List Loc) : Prop := ∃ u : UInt64, v = some (.double u) ∧ Fr n0 L ∧ ∃ y, y < 2 ^ 53 ∧ OwnZ u (y * 2 ^ 1021) ∧ OwnR Z h a1 (own_s0 w0 w1 w2 w3) (own_s1 w0 w1 w2 w3) (own_s2 w0 w1 w2 w3) (own_s3 w0 w1 w2 w3) ∧ Keep h0 h [a1]
theorem ef6 (m : MethodId) (x0 : Addr) : entryFrame m #[(.ref x0)] 1 = mkF m 0 #[.val (.ref x0)] [] := by first | (simp [entryFrame, mkF, argsToLocals, Value.category]; done) | rfl
theorem d6_0 : decode prog_47_method_3_code 0 = .ok (.aload_n 0, 1) := by decide +kernel
theorem d6_1 : decode prog_47_method_3_code 1 = .ok (.invokevirtual 34, 3) := by decide +kernel
theorem d6_4 : decode prog_47_method_3_code 4 = .ok (.bipush 11, 2) := by decide +kernel
theorem d6_6 : decode prog_47_method_3_code 6 = .ok (.lushr, 1) := by decide +kernel
theorem d6_7 : decode prog_47_method_3_code 7 = .ok (.l2d, 1) := by decide +kernel
theorem d6_8 : decode prog_47_method_3_code 8 = .ok (.ldc2_w 38, 3) := by decide +kernel
theorem d6_11 : decode prog_47_method_3_code 11 = .ok (.dmul, 1) := by decide +kernel
theorem d6_12 : decode prog_47_method_3_code 12 = .ok (.dreturn, 1) := by decide +kernel
set_option maxRecDepth 65536 in
set_option maxHeartbeats 40000000 in
theorem rm6 (l : Launch) (Z : State) (a0 : Array Value) (hw : ∀ d ∈ tables_1, d.before a0 Z = true) (ws : List Jvm.Cond) (a1 : Addr) (w0 w1 w2 w3 : Int64) (h0 : Heap) (n0 : Nat) (Z0 : n0 ≤ h0.size) (R : OwnR Z h0 a1 w0 w1 w2 w3) (g1 : n0 ≤ a1) :
    MetFree l (⟨"com/example/mutatune/mutatune/engine/SeededRandom", "nextDouble", "()D"⟩ : MethodName) (head1 (Jvm.Cond.code (⟨"com/example/mutatune/mutatune/engine/SeededRandom", "nextDouble", "()D"⟩ : MethodName) prog_47_method_3_code 1 (some .double) :: ws) ({ frames := 2, cells := 0, slots := 0, locals := 31 } : Room)) (fun a U => a = #[(.ref a1)] ∧ Z.Warmed39 U.vm ∧ U.heap = h0) (fun _ _ _ _ _ => True) (fun _ U o U' => ∃ v L, o = .returned v ∧ Q6 Z a1 w0 w1 w2 w3 h0 n0 v U'.heap L ∧ FrameEnd U o U' L ({ frames := 2, cells := 0, slots := 0, locals := 31 } : Room).cells ({ frames := 2, cells := 0, slots := 0, locals := 31 } : Room).slots) := by
  refine MetFree.of_bodySF (plainFor_of_name pn1) hisR ?_
  intro p e s m args below meth c s₁ Bd hml0 hP hK
  obtain ⟨rfl, hZ, hh⟩ := hP
  have hx := Bd.exec
  have hby := Bd.bytes
  have hml : c.maxLocals = 1 := hml0
  have hown : s.vm.findClass "com/example/mutatune/mutatune/engine/SeededRandom" = some m.cls := findClass_of_methodNamed Bd.named
  have hnm := (name_of_methodNamed Bd.named Bd.method).1
  have X0 : Stand p l e ({ frames := 2, cells := 0, slots := 0, locals := 31 } : Room) s m #[(.ref a1)] below meth c s₁ [] 0 0 := Stand.of_body Bd
  have e0 : s₁.heap = h0 := by rw [← hh, Bd.state]; rfl
  have N0 := Fr.nil n0
  have pre0 : ∀ t, Steps p.tables e below (s₁.setTop (mkF m 0 #[.val (.ref a1)] [])) t → Steps p.tables e below (s₁.setTop (entryFrame m #[(.ref a1)] 1)) t := fun t k => castTop (ef6 m a1) k
  obtain ⟨y, hy, hz⟩ := own_dbl (own_res w0 w1 w2 w3)
  have C61 : ∀ t, Steps p.tables e below (s₁.setTop (mkF m 1 #[.val (.ref a1)] [(.ref a1)])) t → Steps p.tables e below (s₁.setTop (entryFrame m #[(.ref a1)] 1)) t := by
    intro t k
    refine pre0 t ?_
    show Steps p.tables e below (s₁.setTop (mkF m 0 #[.val (.ref a1)] [])) _
    refine XS.aloadN X0.here hx rfl (hb hby d6_0) rfl rfl ?_
    exact k
  obtain ⟨cq62, kq62, q62a, q62b, q62c⟩ := isOf hZ e0 R.1
  obtain ⟨_, _, ⟨T62, L62, k62, n62⟩, -, X62, ⟨Lc62, hQ62, l62, y62, z62⟩, st62⟩ := X0.virtualBack hx (y := (⟨"com/example/mutatune/mutatune/engine/SeededRandom", "nextLong", "()J"⟩ : MethodName)) (z := (⟨"com/example/mutatune/mutatune/engine/SeededRandom", "nextLong", "()J"⟩ : MethodName)) hown (mvT hZ (hw _ (List.mem_of_getElem? (i := 40) rfl))) (mvT hZ (hw _ (List.mem_of_getElem? (i := 41) rfl))) (notFace_of_selects (args := #[]) (mvT hZ (hw _ (List.mem_of_getElem? (i := 43) rfl)))) (mvT hZ (hw _ (List.mem_of_getElem? (i := 43) rfl))) (mvT hZ (hw _ (List.mem_of_getElem? (i := 42) rfl))) (by decide) (backOf (W := 0) (rm7 l Z a0 hw [] a1 w0 w1 w2 w3 h0 n0 Z0 R g1) hZ (hw _ (List.mem_of_getElem? (i := 44) rfl)) (hw _ (List.mem_of_getElem? (i := 4) rfl)) (by decide) (by decide)) q62a q62c (g := (mkF m 1 #[.val (.ref a1)] [(.ref a1)])) rfl (by rw [hml]; rfl) (Steps.refl _) (argsL := []) (rest := []) (lenOf pd2 rfl) rfl (by show 2 * 0 + _ ≤ _; exact Nat.le_of_eq rfl) (hb hby d6_1) (fun _ _ => ⟨rfl, e0, (by decide : 0 + 0 ≤ _), (by decide : 0 + 0 ≤ _)⟩)
  dsimp only [Pt.U, Pt.locs, Pt.cells, Pt.slots] at X62 l62 y62 z62 st62 hQ62
  subst l62 y62 z62
  obtain ⟨rfl, N62q, R62, K62⟩ := hQ62
  have N62 := Fr.app N0 N62q
  have C62 : ∀ t, Steps p.tables e below (T62.setTop (mkF m 4 #[.val (.ref a1)] [(.long (own_res w0 w1 w2 w3))])) t → Steps p.tables e below (s₁.setTop (entryFrame m #[(.ref a1)] 1)) t := fun t k => C61 t (st62.trans k)
  have C63 : ∀ t, Steps p.tables e below (T62.setTop (mkF m 12 #[.val (.ref a1)] [(.double (FP.dmul (FP.l2d (own_shr (own_res w0 w1 w2 w3) (11 : Int32))) 4368491638549381120))])) t → Steps p.tables e below (s₁.setTop (entryFrame m #[(.ref a1)] 1)) t := by
    intro t k
    refine C62 t ?_
    show Steps p.tables e below (T62.setTop (mkF m 4 #[.val (.ref a1)] [(.long (own_res w0 w1 w2 w3))])) _
    refine XS.bipush X62.here hx rfl (hb hby d6_4) ?_
    show Steps p.tables e below (T62.setTop (mkF m 6 #[.val (.ref a1)] [(.int (11 : Int32)), (.long (own_res w0 w1 w2 w3))])) _
    refine XS.lushr X62.here hx rfl (hb hby d6_6) rfl ?_
    show Steps p.tables e below (T62.setTop (mkF m 7 #[.val (.ref a1)] [(.long (own_shr (own_res w0 w1 w2 w3) (11 : Int32)))])) _
    refine XS.l2dS X62.here hx rfl (hb hby d6_7) rfl rfl ?_
    show Steps p.tables e below (T62.setTop (mkF m 8 #[.val (.ref a1)] [(.double (FP.l2d (own_shr (own_res w0 w1 w2 w3) (11 : Int32))))])) _
    refine X62.ldc2DoubleC hx hown (mvT hZ (hw _ (List.mem_of_getElem? (i := 49) rfl))) (g := (mkF m 8 #[.val (.ref a1)] [(.double (FP.l2d (own_shr (own_res w0 w1 w2 w3) (11 : Int32))))])) rfl (hb hby d6_8) _ ?_
    show Steps p.tables e below (T62.setTop (mkF m 11 #[.val (.ref a1)] [(.double 4368491638549381120), (.double (FP.l2d (own_shr (own_res w0 w1 w2 w3) (11 : Int32))))])) _
    refine XS.dmulS X62.here hx rfl (hb hby d6_11) rfl hz.nn rfl ?_
    exact k
  obtain ⟨fs, hr, hrun, hended, hW, hsame⟩ := X62.leave (v := some (.double (FP.dmul (FP.l2d (own_shr (own_res w0 w1 w2 w3) (11 : Int32))) 4368491638549381120))) (fun h => by rw [Bd.returns] at h; cases h)
  refine ⟨_, _, C63 _ ?_, hrun, hended, _, _, rfl, ?_, ⟨_, rfl⟩, hW, hsame.mono (by decide) (by decide)⟩
  · show Steps p.tables e below (T62.setTop (mkF m 12 #[.val (.ref a1)] [(.double (FP.dmul (FP.l2d (own_shr (own_res w0 w1 w2 w3) (11 : Int32))) 4368491638549381120))])) _
    exact retOut X62 hx Bd.returns rfl (Or.inr (Or.inr (Or.inl ⟨rfl, rfl, _, rfl⟩))) (hb hby d6_12) hr
  · show Q6 Z a1 w0 w1 w2 w3 h0 n0 _ T62.heap _
    exact ⟨_, rfl, N62, y, hy, hz, R62, K62⟩
def Q10 (Z : State) (a1 : Addr) (b1 : Int32) (h0 : Heap) (n0 : Nat) (v : Option Value) (h : Heap) (L : List Loc) : Prop := ∃ j : Int32, v = some (.int j) ∧ Fr n0 L ∧ (0 ≤ j.toInt ∧ j.toInt < b1.toInt) ∧ ∃ v0 v1 v2 v3, OwnR Z h a1 v0 v1 v2 v3 ∧ OwnNZ v0 v1 v2 v3 ∧ Keep h0 h [a1]
theorem ef10 (m : MethodId) (x0 : Addr) (x1 : Int32) : entryFrame m #[(.ref x0), (.int x1)] 6 = mkF m 0 #[.val (.ref x0), .val (.int x1), .unset, .unset, .unset, .unset] [] := by first | (simp [entryFrame, mkF, argsToLocals, Value.category]; done) | rfl
theorem d10_0 : decode prog_47_method_4_code 0 = .ok (.iload_n 1, 1) := by decide +kernel
theorem d10_1 : decode prog_47_method_4_code 1 = .ok (.ifCond .gt 17, 3) := by decide +kernel
theorem d10_18 : decode prog_47_method_4_code 18 = .ok (.aload_n 0, 1) := by decide +kernel
theorem d10_19 : decode prog_47_method_4_code 19 = .ok (.invokevirtual 34, 3) := by decide +kernel
theorem d10_22 : decode prog_47_method_4_code 22 = .ok (.bipush 32, 2) := by decide +kernel
theorem d10_24 : decode prog_47_method_4_code 24 = .ok (.lushr, 1) := by decide +kernel
theorem d10_25 : decode prog_47_method_4_code 25 = .ok (.iload_n 1, 1) := by decide +kernel
theorem d10_26 : decode prog_47_method_4_code 26 = .ok (.i2l, 1) := by decide +kernel
theorem d10_27 : decode prog_47_method_4_code 27 = .ok (.lmul, 1) := by decide +kernel
theorem d10_28 : decode prog_47_method_4_code 28 = .ok (.lstore_n 2, 1) := by decide +kernel
theorem d10_29 : decode prog_47_method_4_code 29 = .ok (.lload_n 2, 1) := by decide +kernel
theorem d10_30 : decode prog_47_method_4_code 30 = .ok (.ldc2_w 49, 3) := by decide +kernel
theorem d10_33 : decode prog_47_method_4_code 33 = .ok (.land, 1) := by decide +kernel
theorem d10_34 : decode prog_47_method_4_code 34 = .ok (.iload_n 1, 1) := by decide +kernel
theorem d10_35 : decode prog_47_method_4_code 35 = .ok (.i2l, 1) := by decide +kernel
theorem d10_36 : decode prog_47_method_4_code 36 = .ok (.lcmp, 1) := by decide +kernel
theorem d10_37 : decode prog_47_method_4_code 37 = .ok (.ifCond .ge 36, 3) := by decide +kernel
theorem d10_40 : decode prog_47_method_4_code 40 = .ok (.ldc2_w 51, 3) := by decide +kernel
theorem d10_43 : decode prog_47_method_4_code 43 = .ok (.iload_n 1, 1) := by decide +kernel
theorem d10_44 : decode prog_47_method_4_code 44 = .ok (.i2l, 1) := by decide +kernel
theorem d10_45 : decode prog_47_method_4_code 45 = .ok (.lrem, 1) := by decide +kernel
theorem d10_46 : decode prog_47_method_4_code 46 = .ok (.lstore 4, 2) := by decide +kernel
theorem d10_48 : decode prog_47_method_4_code 48 = .ok (.lload_n 2, 1) := by decide +kernel
theorem d10_49 : decode prog_47_method_4_code 49 = .ok (.ldc2_w 49, 3) := by decide +kernel
theorem d10_52 : decode prog_47_method_4_code 52 = .ok (.land, 1) := by decide +kernel
theorem d10_53 : decode prog_47_method_4_code 53 = .ok (.lload 4, 2) := by decide +kernel
theorem d10_55 : decode prog_47_method_4_code 55 = .ok (.lcmp, 1) := by decide +kernel
theorem d10_56 : decode prog_47_method_4_code 56 = .ok (.ifCond .ge 17, 3) := by decide +kernel
theorem d10_59 : decode prog_47_method_4_code 59 = .ok (.aload_n 0, 1) := by decide +kernel
theorem d10_60 : decode prog_47_method_4_code 60 = .ok (.invokevirtual 34, 3) := by decide +kernel
theorem d10_63 : decode prog_47_method_4_code 63 = .ok (.bipush 32, 2) := by decide +kernel
theorem d10_65 : decode prog_47_method_4_code 65 = .ok (.lushr, 1) := by decide +kernel
theorem d10_66 : decode prog_47_method_4_code 66 = .ok (.iload_n 1, 1) := by decide +kernel
theorem d10_67 : decode prog_47_method_4_code 67 = .ok (.i2l, 1) := by decide +kernel
theorem d10_68 : decode prog_47_method_4_code 68 = .ok (.lmul, 1) := by decide +kernel
theorem d10_69 : decode prog_47_method_4_code 69 = .ok (.lstore_n 2, 1) := by decide +kernel
theorem d10_70 : decode prog_47_method_4_code 70 = .ok (.goto (-22), 3) := by decide +kernel
theorem d10_73 : decode prog_47_method_4_code 73 = .ok (.lload_n 2, 1) := by decide +kernel
theorem d10_74 : decode prog_47_method_4_code 74 = .ok (.bipush 32, 2) := by decide +kernel
theorem d10_76 : decode prog_47_method_4_code 76 = .ok (.lushr, 1) := by decide +kernel
theorem d10_77 : decode prog_47_method_4_code 77 = .ok (.l2i, 1) := by decide +kernel
theorem d10_78 : decode prog_47_method_4_code 78 = .ok (.ireturn, 1) := by decide +kernel
set_option maxRecDepth 65536 in
set_option maxHeartbeats 40000000 in
theorem rm10 (l : Launch) (Z : State) (a0 : Array Value) (hw : ∀ d ∈ tables_1, d.before a0 Z = true) (ws : List Jvm.Cond) (a1 : Addr) (b1 : Int32) (w0 w1 w2 w3 : Int64) (h0 : Heap) (n0 : Nat) (Z0 : n0 ≤ h0.size) (R : OwnR Z h0 a1 w0 w1 w2 w3) (NZ : OwnNZ w0 w1 w2 w3) (g1 : n0 ≤ a1) (hb1 : 2 ≤ b1.toInt) (hb2 : b1.toInt ≤ 6) :
    MetFree l (⟨"com/example/mutatune/mutatune/engine/SeededRandom", "nextInt", "(I)I"⟩ : MethodName) (head1 (Jvm.Cond.code (⟨"com/example/mutatune/mutatune/engine/SeededRandom", "nextInt", "(I)I"⟩ : MethodName) prog_47_method_4_code 6 (some .int) :: ws) ({ frames := 2, cells := 0, slots := 0, locals := 31 } : Room)) (fun a U => a = #[(.ref a1), (.int b1)] ∧ Z.Warmed39 U.vm ∧ U.heap = h0) (fun _ _ _ _ _ => True) (fun _ U o U' => ∃ v L, o = .returned v ∧ Q10 Z a1 b1 h0 n0 v U'.heap L ∧ FrameEnd U o U' L ({ frames := 2, cells := 0, slots := 0, locals := 31 } : Room).cells ({ frames := 2, cells := 0, slots := 0, locals := 31 } : Room).slots) := by
  refine MetFree.of_bodySF (plainFor_of_name pn1) hisR ?_
  intro p e s m args below meth c s₁ Bd hml0 hP hK
  obtain ⟨rfl, hZ, hh⟩ := hP
  have hx := Bd.exec
  have hby := Bd.bytes
  have hml : c.maxLocals = 6 := hml0
  have hown : s.vm.findClass "com/example/mutatune/mutatune/engine/SeededRandom" = some m.cls := findClass_of_methodNamed Bd.named
  have hnm := (name_of_methodNamed Bd.named Bd.method).1
  have X0 : Stand p l e ({ frames := 2, cells := 0, slots := 0, locals := 31 } : Room) s m #[(.ref a1), (.int b1)] below meth c s₁ [] 0 0 := Stand.of_body Bd
  have e0 : s₁.heap = h0 := by rw [← hh, Bd.state]; rfl
  have N0 := Fr.nil n0
  have pre0 : ∀ t, Steps p.tables e below (s₁.setTop (mkF m 0 #[.val (.ref a1), .val (.int b1), .unset, .unset, .unset, .unset] [])) t → Steps p.tables e below (s₁.setTop (entryFrame m #[(.ref a1), (.int b1)] 6)) t := fun t k => castTop (ef10 m a1 b1) k
  have bp : 0 < b1 := by rw [Int32.lt_iff_toInt_lt, show (0 : Int32).toInt = 0 from rfl]; omega
  have C64 : ∀ t, Steps p.tables e below (s₁.setTop (mkF m 19 #[.val (.ref a1), .val (.int b1), .unset, .unset, .unset, .unset] [(.ref a1)])) t → Steps p.tables e below (s₁.setTop (entryFrame m #[(.ref a1), (.int b1)] 6)) t := by
    intro t k
    refine pre0 t ?_
    show Steps p.tables e below (s₁.setTop (mkF m 0 #[.val (.ref a1), .val (.int b1), .unset, .unset, .unset, .unset] [])) _
    refine XS.iloadN X0.here hx rfl (hb hby d10_0) rfl ?_
    show Steps p.tables e below (s₁.setTop (mkF m 1 #[.val (.ref a1), .val (.int b1), .unset, .unset, .unset, .unset] [(.int b1)])) _
    refine XS.ifYes X0.here hx rfl (pc0 := 1) (pc' := 18) rfl (hb hby d10_1) rfl (XT.i0_gt_t bp) (by decide) (by decide) ?_
    show Steps p.tables e below (s₁.setTop (mkF m 18 #[.val (.ref a1), .val (.int b1), .unset, .unset, .unset, .unset] [])) _
    refine XS.aloadN X0.here hx rfl (hb hby d10_18) rfl rfl ?_
    exact k
  obtain ⟨cq65, kq65, q65a, q65b, q65c⟩ := isOf hZ e0 R.1
  obtain ⟨_, _, ⟨T65, L65, k65, n65⟩, -, X65, ⟨Lc65, hQ65, l65, y65, z65⟩, st65⟩ := X0.virtualBack hx (y := (⟨"com/example/mutatune/mutatune/engine/SeededRandom", "nextLong", "()J"⟩ : MethodName)) (z := (⟨"com/example/mutatune/mutatune/engine/SeededRandom", "nextLong", "()J"⟩ : MethodName)) hown (mvT hZ (hw _ (List.mem_of_getElem? (i := 40) rfl))) (mvT hZ (hw _ (List.mem_of_getElem? (i := 41) rfl))) (notFace_of_selects (args := #[]) (mvT hZ (hw _ (List.mem_of_getElem? (i := 43) rfl)))) (mvT hZ (hw _ (List.mem_of_getElem? (i := 43) rfl))) (mvT hZ (hw _ (List.mem_of_getElem? (i := 42) rfl))) (by decide) (backOf (W := 0) (rm7 l Z a0 hw [] a1 w0 w1 w2 w3 h0 n0 Z0 R g1) hZ (hw _ (List.mem_of_getElem? (i := 44) rfl)) (hw _ (List.mem_of_getElem? (i := 4) rfl)) (by decide) (by decide)) q65a q65c (g := (mkF m 19 #[.val (.ref a1), .val (.int b1), .unset, .unset, .unset, .unset] [(.ref a1)])) rfl (by rw [hml]; rfl) (Steps.refl _) (argsL := []) (rest := []) (lenOf pd2 rfl) rfl (by show 2 * 0 + _ ≤ _; exact Nat.le_of_eq rfl) (hb hby d10_19) (fun _ _ => ⟨rfl, e0, (by decide : 0 + 0 ≤ _), (by decide : 0 + 0 ≤ _)⟩)
  dsimp only [Pt.U, Pt.locs, Pt.cells, Pt.slots] at X65 l65 y65 z65 st65 hQ65
  subst l65 y65 z65
  obtain ⟨rfl, N65q, R65, K65⟩ := hQ65
  have N65 := Fr.app N0 N65q
  have C65 : ∀ t, Steps p.tables e below (T65.setTop (mkF m 22 #[.val (.ref a1), .val (.int b1), .unset, .unset, .unset, .unset] [(.long (own_res w0 w1 w2 w3))])) t → Steps p.tables e below (s₁.setTop (entryFrame m #[(.ref a1), (.int b1)] 6)) t := fun t k => C64 t (st65.trans k)
  have C66 : ∀ t, Steps p.tables e below (T65.setTop (mkF m 37 #[.val (.ref a1), .val (.int b1), .val (.long (own_prod (own_res w0 w1 w2 w3) b1)), .second, .unset, .unset] [(.int (lcmpW ((own_prod (own_res w0 w1 w2 w3) b1) &&& (4294967295 : Int64)) (b1.toInt64)))])) t → Steps p.tables e below (s₁.setTop (entryFrame m #[(.ref a1), (.int b1)] 6)) t := by
    intro t k
    refine C65 t ?_
    show Steps p.tables e below (T65.setTop (mkF m 22 #[.val (.ref a1), .val (.int b1), .unset, .unset, .unset, .unset] [(.long (own_res w0 w1 w2 w3))])) _
    refine XS.bipush X65.here hx rfl (hb hby d10_22) ?_
    show Steps p.tables e below (T65.setTop (mkF m 24 #[.val (.ref a1), .val (.int b1), .unset, .unset, .unset, .unset] [(.int (32 : Int32)), (.long (own_res w0 w1 w2 w3))])) _
    refine XS.lushr X65.here hx rfl (hb hby d10_24) rfl ?_
    show Steps p.tables e below (T65.setTop (mkF m 25 #[.val (.ref a1), .val (.int b1), .unset, .unset, .unset, .unset] [(.long (own_shr (own_res w0 w1 w2 w3) (32 : Int32)))])) _
    refine XS.iloadN X65.here hx rfl (hb hby d10_25) rfl ?_
    show Steps p.tables e below (T65.setTop (mkF m 26 #[.val (.ref a1), .val (.int b1), .unset, .unset, .unset, .unset] [(.int b1), (.long (own_shr (own_res w0 w1 w2 w3) (32 : Int32)))])) _
    refine XS.i2l X65.here hx rfl (hb hby d10_26) rfl ?_
    show Steps p.tables e below (T65.setTop (mkF m 27 #[.val (.ref a1), .val (.int b1), .unset, .unset, .unset, .unset] [(.long (b1.toInt64)), (.long (own_shr (own_res w0 w1 w2 w3) (32 : Int32)))])) _
    refine XS.lmul X65.here hx rfl (hb hby d10_27) rfl ?_
    show Steps p.tables e below (T65.setTop (mkF m 28 #[.val (.ref a1), .val (.int b1), .unset, .unset, .unset, .unset] [(.long (own_prod (own_res w0 w1 w2 w3) b1))])) _
    refine XS.lstoreN X65.here hx rfl (hb hby d10_28) rfl (l' := #[.val (.ref a1), .val (.int b1), .val (.long (own_prod (own_res w0 w1 w2 w3) b1)), .second, .unset, .unset]) rfl ?_
    show Steps p.tables e below (T65.setTop (mkF m 29 #[.val (.ref a1), .val (.int b1), .val (.long (own_prod (own_res w0 w1 w2 w3) b1)), .second, .unset, .unset] [])) _
    refine XS.lloadN X65.here hx rfl (hb hby d10_29) rfl ?_
    show Steps p.tables e below (T65.setTop (mkF m 30 #[.val (.ref a1), .val (.int b1), .val (.long (own_prod (own_res w0 w1 w2 w3) b1)), .second, .unset, .unset] [(.long (own_prod (own_res w0 w1 w2 w3) b1))])) _
    refine X65.ldc2Long hx hown (mvT hZ (hw _ (List.mem_of_getElem? (i := 63) rfl))) (g := (mkF m 30 #[.val (.ref a1), .val (.int b1), .val (.long (own_prod (own_res w0 w1 w2 w3) b1)), .second, .unset, .unset] [(.long (own_prod (own_res w0 w1 w2 w3) b1))])) rfl (hb hby d10_30) _ ?_
    show Steps p.tables e below (T65.setTop (mkF m 33 #[.val (.ref a1), .val (.int b1), .val (.long (own_prod (own_res w0 w1 w2 w3) b1)), .second, .unset, .unset] [(.long (4294967295 : Int64)), (.long (own_prod (own_res w0 w1 w2 w3) b1))])) _
    refine XS.land X65.here hx rfl (hb hby d10_33) rfl ?_
    show Steps p.tables e below (T65.setTop (mkF m 34 #[.val (.ref a1), .val (.int b1), .val (.long (own_prod (own_res w0 w1 w2 w3) b1)), .second, .unset, .unset] [(.long ((own_prod (own_res w0 w1 w2 w3) b1) &&& (4294967295 : Int64)))])) _
    refine XS.iloadN X65.here hx rfl (hb hby d10_34) rfl ?_
    show Steps p.tables e below (T65.setTop (mkF m 35 #[.val (.ref a1), .val (.int b1), .val (.long (own_prod (own_res w0 w1 w2 w3) b1)), .second, .unset, .unset] [(.int b1), (.long ((own_prod (own_res w0 w1 w2 w3) b1) &&& (4294967295 : Int64)))])) _
    refine XS.i2l X65.here hx rfl (hb hby d10_35) rfl ?_
    show Steps p.tables e below (T65.setTop (mkF m 36 #[.val (.ref a1), .val (.int b1), .val (.long (own_prod (own_res w0 w1 w2 w3) b1)), .second, .unset, .unset] [(.long (b1.toInt64)), (.long ((own_prod (own_res w0 w1 w2 w3) b1) &&& (4294967295 : Int64)))])) _
    refine XS.lcmp X65.here hx rfl (hb hby d10_36) rfl ?_
    exact k
  have Z1 : n0 ≤ T65.heap.size := Nat.le_trans Z0 K65.1
  have loop : ∀ (n : Nat) (u0 u1 u2 u3 : Int64) (T : State) (lo : List Loc) (h : Heap), Stand p l e ({ frames := 2, cells := 0, slots := 0, locals := 31 } : Room) s m #[(.ref a1), (.int b1)] below meth c T lo 0 0 → T.heap = h → Fr n0 lo → Keep h0 h [a1] → OwnR Z h a1 (own_s0 u0 u1 u2 u3) (own_s1 u0 u1 u2 u3) (own_s2 u0 u1 u2 u3) (own_s3 u0 u1 u2 u3) → OwnNZ u0 u1 u2 u3 → ¬ OwnRej b1.toInt.toNat (own_it n (own_pk u0 u1 u2 u3)) → ∃ (T' : State) (lo' : List Loc) (h' : Heap) (rr : Int64) (s4 s5 : Slot) (v0 v1 v2 v3 : Int64), Stand p l e ({ frames := 2, cells := 0, slots := 0, locals := 31 } : Room) s m #[(.ref a1), (.int b1)] below meth c T' lo' 0 0 ∧ T'.heap = h' ∧ Fr n0 lo' ∧ Keep h0 h' [a1] ∧ OwnR Z h' a1 v0 v1 v2 v3 ∧ OwnNZ v0 v1 v2 v3 ∧ ∀ t, Steps p.tables e below (T'.setTop (mkF m 73 #[.val (.ref a1), .val (.int b1), .val (.long (own_prod rr b1)), .second, s4, s5] [])) t → Steps p.tables e below (T.setTop (mkF m 48 #[.val (.ref a1), .val (.int b1), .val (.long (own_prod (own_res u0 u1 u2 u3) b1)), .second, .val (.long (own_thr b1)), .second] [])) t := by
    intro n
    induction n with
    | zero =>
      intro u0 u1 u2 u3 T lo h XX eT NN KK RR NZ hk
      have hlt := own_keep_draw hb1 hb2 hk
      refine ⟨T, lo, h, own_res u0 u1 u2 u3, .val (.long (own_thr b1)), .second, _, _, _, _, XX, eT, NN, KK, RR, own_nz_step NZ, ?_⟩
      intro t kk
      show Steps p.tables e below (T.setTop (mkF m 48 #[.val (.ref a1), .val (.int b1), .val (.long (own_prod (own_res u0 u1 u2 u3) b1)), .second, .val (.long (own_thr b1)), .second] [])) _
      refine XS.lloadN XX.here hx rfl (hb hby d10_48) rfl ?_
      show Steps p.tables e below (T.setTop (mkF m 49 #[.val (.ref a1), .val (.int b1), .val (.long (own_prod (own_res u0 u1 u2 u3) b1)), .second, .val (.long (own_thr b1)), .second] [(.long (own_prod (own_res u0 u1 u2 u3) b1))])) _
      refine XX.ldc2Long hx hown (mvT hZ (hw _ (List.mem_of_getElem? (i := 63) rfl))) (g := (mkF m 49 #[.val (.ref a1), .val (.int b1), .val (.long (own_prod (own_res u0 u1 u2 u3) b1)), .second, .val (.long (own_thr b1)), .second] [(.long (own_prod (own_res u0 u1 u2 u3) b1))])) rfl (hb hby d10_49) _ ?_
      show Steps p.tables e below (T.setTop (mkF m 52 #[.val (.ref a1), .val (.int b1), .val (.long (own_prod (own_res u0 u1 u2 u3) b1)), .second, .val (.long (own_thr b1)), .second] [(.long (4294967295 : Int64)), (.long (own_prod (own_res u0 u1 u2 u3) b1))])) _
      refine XS.land XX.here hx rfl (hb hby d10_52) rfl ?_
      show Steps p.tables e below (T.setTop (mkF m 53 #[.val (.ref a1), .val (.int b1), .val (.long (own_prod (own_res u0 u1 u2 u3) b1)), .second, .val (.long (own_thr b1)), .second] [(.long ((own_prod (own_res u0 u1 u2 u3) b1) &&& (4294967295 : Int64)))])) _
      refine XS.lload XX.here hx rfl (hb hby d10_53) rfl ?_
      show Steps p.tables e below (T.setTop (mkF m 55 #[.val (.ref a1), .val (.int b1), .val (.long (own_prod (own_res u0 u1 u2 u3) b1)), .second, .val (.long (own_thr b1)), .second] [(.long (own_thr b1)), (.long ((own_prod (own_res u0 u1 u2 u3) b1) &&& (4294967295 : Int64)))])) _
      refine XS.lcmp XX.here hx rfl (hb hby d10_55) rfl ?_
      show Steps p.tables e below (T.setTop (mkF m 56 #[.val (.ref a1), .val (.int b1), .val (.long (own_prod (own_res u0 u1 u2 u3) b1)), .second, .val (.long (own_thr b1)), .second] [(.int (lcmpW ((own_prod (own_res u0 u1 u2 u3) b1) &&& (4294967295 : Int64)) (own_thr b1)))])) _
      refine XS.ifYes XX.here hx rfl (pc0 := 56) (pc' := 73) rfl (hb hby d10_56) rfl (own_ge_t hlt) (by decide) (by decide) ?_
      exact kk
    | succ n ih =>
      intro u0 u1 u2 u3 T lo h XX eT NN KK RR NZ hk
      by_cases hlt : ((own_prod (own_res u0 u1 u2 u3) b1) &&& (4294967295 : Int64)) < (own_thr b1)
      · have ID : ∀ t, Steps p.tables e below (T.setTop (mkF m 48 #[.val (.ref a1), .val (.int b1), .val (.long (own_prod (own_res u0 u1 u2 u3) b1)), .second, .val (.long (own_thr b1)), .second] [])) t → Steps p.tables e below (T.setTop (mkF m 48 #[.val (.ref a1), .val (.int b1), .val (.long (own_prod (own_res u0 u1 u2 u3) b1)), .second, .val (.long (own_thr b1)), .second] [])) t := fun t kk => kk
        have Zh : n0 ≤ h.size := Nat.le_trans Z0 KK.1
        have C67 : ∀ t, Steps p.tables e below (T.setTop (mkF m 60 #[.val (.ref a1), .val (.int b1), .val (.long (own_prod (own_res u0 u1 u2 u3) b1)), .second, .val (.long (own_thr b1)), .second] [(.ref a1)])) t → Steps p.tables e below (T.setTop (mkF m 48 #[.val (.ref a1), .val (.int b1), .val (.long (own_prod (own_res u0 u1 u2 u3) b1)), .second, .val (.long (own_thr b1)), .second] [])) t := by
          intro t k
          refine ID t ?_
          show Steps p.tables e below (T.setTop (mkF m 48 #[.val (.ref a1), .val (.int b1), .val (.long (own_prod (own_res u0 u1 u2 u3) b1)), .second, .val (.long (own_thr b1)), .second] [])) _
          refine XS.lloadN XX.here hx rfl (hb hby d10_48) rfl ?_
          show Steps p.tables e below (T.setTop (mkF m 49 #[.val (.ref a1), .val (.int b1), .val (.long (own_prod (own_res u0 u1 u2 u3) b1)), .second, .val (.long (own_thr b1)), .second] [(.long (own_prod (own_res u0 u1 u2 u3) b1))])) _
          refine XX.ldc2Long hx hown (mvT hZ (hw _ (List.mem_of_getElem? (i := 63) rfl))) (g := (mkF m 49 #[.val (.ref a1), .val (.int b1), .val (.long (own_prod (own_res u0 u1 u2 u3) b1)), .second, .val (.long (own_thr b1)), .second] [(.long (own_prod (own_res u0 u1 u2 u3) b1))])) rfl (hb hby d10_49) _ ?_
          show Steps p.tables e below (T.setTop (mkF m 52 #[.val (.ref a1), .val (.int b1), .val (.long (own_prod (own_res u0 u1 u2 u3) b1)), .second, .val (.long (own_thr b1)), .second] [(.long (4294967295 : Int64)), (.long (own_prod (own_res u0 u1 u2 u3) b1))])) _
          refine XS.land XX.here hx rfl (hb hby d10_52) rfl ?_
          show Steps p.tables e below (T.setTop (mkF m 53 #[.val (.ref a1), .val (.int b1), .val (.long (own_prod (own_res u0 u1 u2 u3) b1)), .second, .val (.long (own_thr b1)), .second] [(.long ((own_prod (own_res u0 u1 u2 u3) b1) &&& (4294967295 : Int64)))])) _
          refine XS.lload XX.here hx rfl (hb hby d10_53) rfl ?_
          show Steps p.tables e below (T.setTop (mkF m 55 #[.val (.ref a1), .val (.int b1), .val (.long (own_prod (own_res u0 u1 u2 u3) b1)), .second, .val (.long (own_thr b1)), .second] [(.long (own_thr b1)), (.long ((own_prod (own_res u0 u1 u2 u3) b1) &&& (4294967295 : Int64)))])) _
          refine XS.lcmp XX.here hx rfl (hb hby d10_55) rfl ?_
          show Steps p.tables e below (T.setTop (mkF m 56 #[.val (.ref a1), .val (.int b1), .val (.long (own_prod (own_res u0 u1 u2 u3) b1)), .second, .val (.long (own_thr b1)), .second] [(.int (lcmpW ((own_prod (own_res u0 u1 u2 u3) b1) &&& (4294967295 : Int64)) (own_thr b1)))])) _
          refine XS.ifNo XX.here hx rfl (hb hby d10_56) rfl (own_ge_f hlt) ?_
          show Steps p.tables e below (T.setTop (mkF m 59 #[.val (.ref a1), .val (.int b1), .val (.long (own_prod (own_res u0 u1 u2 u3) b1)), .second, .val (.long (own_thr b1)), .second] [])) _
          refine XS.aloadN XX.here hx rfl (hb hby d10_59) rfl rfl ?_
          exact k
        obtain ⟨cq68, kq68, q68a, q68b, q68c⟩ := isOf hZ eT RR.1
        obtain ⟨_, _, ⟨T68, L68, k68, n68⟩, -, X68, ⟨Lc68, hQ68, l68, y68, z68⟩, st68⟩ := XX.virtualBack hx (y := (⟨"com/example/mutatune/mutatune/engine/SeededRandom", "nextLong", "()J"⟩ : MethodName)) (z := (⟨"com/example/mutatune/mutatune/engine/SeededRandom", "nextLong", "()J"⟩ : MethodName)) hown (mvT hZ (hw _ (List.mem_of_getElem? (i := 40) rfl))) (mvT hZ (hw _ (List.mem_of_getElem? (i := 41) rfl))) (notFace_of_selects (args := #[]) (mvT hZ (hw _ (List.mem_of_getElem? (i := 43) rfl)))) (mvT hZ (hw _ (List.mem_of_getElem? (i := 43) rfl))) (mvT hZ (hw _ (List.mem_of_getElem? (i := 42) rfl))) (by decide) (backOf (W := 0) (rm7 l Z a0 hw [] a1 (own_s0 u0 u1 u2 u3) (own_s1 u0 u1 u2 u3) (own_s2 u0 u1 u2 u3) (own_s3 u0 u1 u2 u3) h n0 Zh RR g1) hZ (hw _ (List.mem_of_getElem? (i := 44) rfl)) (hw _ (List.mem_of_getElem? (i := 4) rfl)) (by decide) (by decide)) q68a q68c (g := (mkF m 60 #[.val (.ref a1), .val (.int b1), .val (.long (own_prod (own_res u0 u1 u2 u3) b1)), .second, .val (.long (own_thr b1)), .second] [(.ref a1)])) rfl (by rw [hml]; rfl) (Steps.refl _) (argsL := []) (rest := []) (lenOf pd2 rfl) rfl (by show 2 * 0 + _ ≤ _; exact Nat.le_of_eq rfl) (hb hby d10_60) (fun _ _ => ⟨rfl, eT, (by decide : 0 + 0 ≤ _), (by decide : 0 + 0 ≤ _)⟩)
        dsimp only [Pt.U, Pt.locs, Pt.cells, Pt.slots] at X68 l68 y68 z68 st68 hQ68
        subst l68 y68 z68
        obtain ⟨rfl, N68q, R68, K68⟩ := hQ68
        have N68 := Fr.app NN N68q
        have C68 : ∀ t, Steps p.tables e below (T68.setTop (mkF m 63 #[.val (.ref a1), .val (.int b1), .val (.long (own_prod (own_res u0 u1 u2 u3) b1)), .second, .val (.long (own_thr b1)), .second] [(.long (own_res (own_s0 u0 u1 u2 u3) (own_s1 u0 u1 u2 u3) (own_s2 u0 u1 u2 u3) (own_s3 u0 u1 u2 u3)))])) t → Steps p.tables e below (T.setTop (mkF m 48 #[.val (.ref a1), .val (.int b1), .val (.long (own_prod (own_res u0 u1 u2 u3) b1)), .second, .val (.long (own_thr b1)), .second] [])) t := fun t k => C67 t (st68.trans k)
        have C69 : ∀ t, Steps p.tables e below (T68.setTop (mkF m 48 #[.val (.ref a1), .val (.int b1), .val (.long (own_prod (own_res (own_s0 u0 u1 u2 u3) (own_s1 u0 u1 u2 u3) (own_s2 u0 u1 u2 u3) (own_s3 u0 u1 u2 u3)) b1)), .second, .val (.long (own_thr b1)), .second] [])) t → Steps p.tables e below (T.setTop (mkF m 48 #[.val (.ref a1), .val (.int b1), .val (.long (own_prod (own_res u0 u1 u2 u3) b1)), .second, .val (.long (own_thr b1)), .second] [])) t := by
          intro t k
          refine C68 t ?_
          show Steps p.tables e below (T68.setTop (mkF m 63 #[.val (.ref a1), .val (.int b1), .val (.long (own_prod (own_res u0 u1 u2 u3) b1)), .second, .val (.long (own_thr b1)), .second] [(.long (own_res (own_s0 u0 u1 u2 u3) (own_s1 u0 u1 u2 u3) (own_s2 u0 u1 u2 u3) (own_s3 u0 u1 u2 u3)))])) _
          refine XS.bipush X68.here hx rfl (hb hby d10_63) ?_
          show Steps p.tables e below (T68.setTop (mkF m 65 #[.val (.ref a1), .val (.int b1), .val (.long (own_prod (own_res u0 u1 u2 u3) b1)), .second, .val (.long (own_thr b1)), .second] [(.int (32 : Int32)), (.long (own_res (own_s0 u0 u1 u2 u3) (own_s1 u0 u1 u2 u3) (own_s2 u0 u1 u2 u3) (own_s3 u0 u1 u2 u3)))])) _
          refine XS.lushr X68.here hx rfl (hb hby d10_65) rfl ?_
          show Steps p.tables e below (T68.setTop (mkF m 66 #[.val (.ref a1), .val (.int b1), .val (.long (own_prod (own_res u0 u1 u2 u3) b1)), .second, .val (.long (own_thr b1)), .second] [(.long (own_shr (own_res (own_s0 u0 u1 u2 u3) (own_s1 u0 u1 u2 u3) (own_s2 u0 u1 u2 u3) (own_s3 u0 u1 u2 u3)) (32 : Int32)))])) _
          refine XS.iloadN X68.here hx rfl (hb hby d10_66) rfl ?_
          show Steps p.tables e below (T68.setTop (mkF m 67 #[.val (.ref a1), .val (.int b1), .val (.long (own_prod (own_res u0 u1 u2 u3) b1)), .second, .val (.long (own_thr b1)), .second] [(.int b1), (.long (own_shr (own_res (own_s0 u0 u1 u2 u3) (own_s1 u0 u1 u2 u3) (own_s2 u0 u1 u2 u3) (own_s3 u0 u1 u2 u3)) (32 : Int32)))])) _
          refine XS.i2l X68.here hx rfl (hb hby d10_67) rfl ?_
          show Steps p.tables e below (T68.setTop (mkF m 68 #[.val (.ref a1), .val (.int b1), .val (.long (own_prod (own_res u0 u1 u2 u3) b1)), .second, .val (.long (own_thr b1)), .second] [(.long (b1.toInt64)), (.long (own_shr (own_res (own_s0 u0 u1 u2 u3) (own_s1 u0 u1 u2 u3) (own_s2 u0 u1 u2 u3) (own_s3 u0 u1 u2 u3)) (32 : Int32)))])) _
          refine XS.lmul X68.here hx rfl (hb hby d10_68) rfl ?_
          show Steps p.tables e below (T68.setTop (mkF m 69 #[.val (.ref a1), .val (.int b1), .val (.long (own_prod (own_res u0 u1 u2 u3) b1)), .second, .val (.long (own_thr b1)), .second] [(.long (own_prod (own_res (own_s0 u0 u1 u2 u3) (own_s1 u0 u1 u2 u3) (own_s2 u0 u1 u2 u3) (own_s3 u0 u1 u2 u3)) b1))])) _
          refine XS.lstoreN X68.here hx rfl (hb hby d10_69) rfl (l' := #[.val (.ref a1), .val (.int b1), .val (.long (own_prod (own_res (own_s0 u0 u1 u2 u3) (own_s1 u0 u1 u2 u3) (own_s2 u0 u1 u2 u3) (own_s3 u0 u1 u2 u3)) b1)), .second, .val (.long (own_thr b1)), .second]) rfl ?_
          show Steps p.tables e below (T68.setTop (mkF m 70 #[.val (.ref a1), .val (.int b1), .val (.long (own_prod (own_res (own_s0 u0 u1 u2 u3) (own_s1 u0 u1 u2 u3) (own_s2 u0 u1 u2 u3) (own_s3 u0 u1 u2 u3)) b1)), .second, .val (.long (own_thr b1)), .second] [])) _
          refine XS.goto X68.here hx rfl (pc0 := 70) (pc' := 48) rfl (hb hby d10_70) (by decide) (by decide) ?_
          exact k
        obtain ⟨T', lo', h', rr, s4, s5, v0, v1, v2, v3, Y1, Y2, Y3, Y4, Y5, Y6, Y7⟩ := ih (own_s0 u0 u1 u2 u3) (own_s1 u0 u1 u2 u3) (own_s2 u0 u1 u2 u3) (own_s3 u0 u1 u2 u3) T68 _ T68.heap X68 rfl N68 (KK.trans K68 (fun x hx => Or.inl hx)) R68 (own_nz_step NZ) (by rw [own_it_step]; exact hk)
        exact ⟨T', lo', h', rr, s4, s5, v0, v1, v2, v3, Y1, Y2, Y3, Y4, Y5, Y6, fun t kk => C69 t (Y7 t kk)⟩
      · refine ⟨T, lo, h, own_res u0 u1 u2 u3, .val (.long (own_thr b1)), .second, _, _, _, _, XX, eT, NN, KK, RR, own_nz_step NZ, ?_⟩
        intro t kk
        show Steps p.tables e below (T.setTop (mkF m 48 #[.val (.ref a1), .val (.int b1), .val (.long (own_prod (own_res u0 u1 u2 u3) b1)), .second, .val (.long (own_thr b1)), .second] [])) _
        refine XS.lloadN XX.here hx rfl (hb hby d10_48) rfl ?_
        show Steps p.tables e below (T.setTop (mkF m 49 #[.val (.ref a1), .val (.int b1), .val (.long (own_prod (own_res u0 u1 u2 u3) b1)), .second, .val (.long (own_thr b1)), .second] [(.long (own_prod (own_res u0 u1 u2 u3) b1))])) _
        refine XX.ldc2Long hx hown (mvT hZ (hw _ (List.mem_of_getElem? (i := 63) rfl))) (g := (mkF m 49 #[.val (.ref a1), .val (.int b1), .val (.long (own_prod (own_res u0 u1 u2 u3) b1)), .second, .val (.long (own_thr b1)), .second] [(.long (own_prod (own_res u0 u1 u2 u3) b1))])) rfl (hb hby d10_49) _ ?_
        show Steps p.tables e below (T.setTop (mkF m 52 #[.val (.ref a1), .val (.int b1), .val (.long (own_prod (own_res u0 u1 u2 u3) b1)), .second, .val (.long (own_thr b1)), .second] [(.long (4294967295 : Int64)), (.long (own_prod (own_res u0 u1 u2 u3) b1))])) _
        refine XS.land XX.here hx rfl (hb hby d10_52) rfl ?_
        show Steps p.tables e below (T.setTop (mkF m 53 #[.val (.ref a1), .val (.int b1), .val (.long (own_prod (own_res u0 u1 u2 u3) b1)), .second, .val (.long (own_thr b1)), .second] [(.long ((own_prod (own_res u0 u1 u2 u3) b1) &&& (4294967295 : Int64)))])) _
        refine XS.lload XX.here hx rfl (hb hby d10_53) rfl ?_
        show Steps p.tables e below (T.setTop (mkF m 55 #[.val (.ref a1), .val (.int b1), .val (.long (own_prod (own_res u0 u1 u2 u3) b1)), .second, .val (.long (own_thr b1)), .second] [(.long (own_thr b1)), (.long ((own_prod (own_res u0 u1 u2 u3) b1) &&& (4294967295 : Int64)))])) _
        refine XS.lcmp XX.here hx rfl (hb hby d10_55) rfl ?_
        show Steps p.tables e below (T.setTop (mkF m 56 #[.val (.ref a1), .val (.int b1), .val (.long (own_prod (own_res u0 u1 u2 u3) b1)), .second, .val (.long (own_thr b1)), .second] [(.int (lcmpW ((own_prod (own_res u0 u1 u2 u3) b1) &&& (4294967295 : Int64)) (own_thr b1)))])) _
        refine XS.ifYes XX.here hx rfl (pc0 := 56) (pc' := 73) rfl (hb hby d10_56) rfl (own_ge_t hlt) (by decide) (by decide) ?_
        exact kk
  have out : ∃ (T' : State) (lo' : List Loc) (h' : Heap) (rr : Int64) (s4 s5 : Slot) (v0 v1 v2 v3 : Int64), Stand p l e ({ frames := 2, cells := 0, slots := 0, locals := 31 } : Room) s m #[(.ref a1), (.int b1)] below meth c T' lo' 0 0 ∧ T'.heap = h' ∧ Fr n0 lo' ∧ Keep h0 h' [a1] ∧ OwnR Z h' a1 v0 v1 v2 v3 ∧ OwnNZ v0 v1 v2 v3 ∧ ∀ t, Steps p.tables e below (T'.setTop (mkF m 73 #[.val (.ref a1), .val (.int b1), .val (.long (own_prod rr b1)), .second, s4, s5] [])) t → Steps p.tables e below (s₁.setTop (entryFrame m #[(.ref a1), (.int b1)] 6)) t := by
    by_cases hlt : ((own_prod (own_res w0 w1 w2 w3) b1) &&& (4294967295 : Int64)) < b1.toInt64
    · obtain ⟨n, hn⟩ := own_kept (b := b1.toInt.toNat) (by omega) (by omega) (own_pk_lt w0 w1 w2 w3) NZ
      have C70 : ∀ t, Steps p.tables e below (T65.setTop (mkF m 48 #[.val (.ref a1), .val (.int b1), .val (.long (own_prod (own_res w0 w1 w2 w3) b1)), .second, .val (.long (own_thr b1)), .second] [])) t → Steps p.tables e below (s₁.setTop (entryFrame m #[(.ref a1), (.int b1)] 6)) t := by
        intro t k
        refine C66 t ?_
        show Steps p.tables e below (T65.setTop (mkF m 37 #[.val (.ref a1), .val (.int b1), .val (.long (own_prod (own_res w0 w1 w2 w3) b1)), .second, .unset, .unset] [(.int (lcmpW ((own_prod (own_res w0 w1 w2 w3) b1) &&& (4294967295 : Int64)) (b1.toInt64)))])) _
        refine XS.ifNo X65.here hx rfl (hb hby d10_37) rfl (own_ge_f hlt) ?_
        show Steps p.tables e below (T65.setTop (mkF m 40 #[.val (.ref a1), .val (.int b1), .val (.long (own_prod (own_res w0 w1 w2 w3) b1)), .second, .unset, .unset] [])) _
        refine X65.ldc2Long hx hown (mvT hZ (hw _ (List.mem_of_getElem? (i := 83) rfl))) (g := (mkF m 40 #[.val (.ref a1), .val (.int b1), .val (.long (own_prod (own_res w0 w1 w2 w3) b1)), .second, .unset, .unset] [])) rfl (hb hby d10_40) _ ?_
        show Steps p.tables e below (T65.setTop (mkF m 43 #[.val (.ref a1), .val (.int b1), .val (.long (own_prod (own_res w0 w1 w2 w3) b1)), .second, .unset, .unset] [(.long (4294967296 : Int64))])) _
        refine XS.iloadN X65.here hx rfl (hb hby d10_43) rfl ?_
        show Steps p.tables e below (T65.setTop (mkF m 44 #[.val (.ref a1), .val (.int b1), .val (.long (own_prod (own_res w0 w1 w2 w3) b1)), .second, .unset, .unset] [(.int b1), (.long (4294967296 : Int64))])) _
        refine XS.i2l X65.here hx rfl (hb hby d10_44) rfl ?_
        show Steps p.tables e below (T65.setTop (mkF m 45 #[.val (.ref a1), .val (.int b1), .val (.long (own_prod (own_res w0 w1 w2 w3) b1)), .second, .unset, .unset] [(.long (b1.toInt64)), (.long (4294967296 : Int64))])) _
        refine XS.lrem X65.here hx rfl (hb hby d10_45) rfl (own_b64 hb1) ?_
        show Steps p.tables e below (T65.setTop (mkF m 46 #[.val (.ref a1), .val (.int b1), .val (.long (own_prod (own_res w0 w1 w2 w3) b1)), .second, .unset, .unset] [(.long (own_thr b1))])) _
        refine XS.lstore X65.here hx rfl (hb hby d10_46) rfl (l' := #[.val (.ref a1), .val (.int b1), .val (.long (own_prod (own_res w0 w1 w2 w3) b1)), .second, .val (.long (own_thr b1)), .second]) rfl ?_
        exact k
      obtain ⟨T', lo', h', rr, s4, s5, v0, v1, v2, v3, Y1, Y2, Y3, Y4, Y5, Y6, Y7⟩ := loop n w0 w1 w2 w3 T65 _ T65.heap X65 rfl N65 K65 R65 NZ hn
      exact ⟨T', lo', h', rr, s4, s5, v0, v1, v2, v3, Y1, Y2, Y3, Y4, Y5, Y6, fun t kk => C70 t (Y7 t kk)⟩
    · refine ⟨T65, _, T65.heap, own_res w0 w1 w2 w3, .unset, .unset, _, _, _, _, X65, rfl, N65, K65, R65, own_nz_step NZ, ?_⟩
      intro t k
      refine C66 t ?_
      show Steps p.tables e below (T65.setTop (mkF m 37 #[.val (.ref a1), .val (.int b1), .val (.long (own_prod (own_res w0 w1 w2 w3) b1)), .second, .unset, .unset] [(.int (lcmpW ((own_prod (own_res w0 w1 w2 w3) b1) &&& (4294967295 : Int64)) (b1.toInt64)))])) _
      refine XS.ifYes X65.here hx rfl (pc0 := 37) (pc' := 73) rfl (hb hby d10_37) rfl (own_ge_t hlt) (by decide) (by decide) ?_
      exact k
  obtain ⟨T9, lo9, h9, rr, s4, s5, v0, v1, v2, v3, X9, e9, N9, K9, R9, Z9, C9⟩ := out
  have C71 : ∀ t, Steps p.tables e below (T9.setTop (mkF m 78 #[.val (.ref a1), .val (.int b1), .val (.long (own_prod rr b1)), .second, s4, s5] [(.int ((own_shr (own_prod rr b1) (32 : Int32)).toInt32))])) t → Steps p.tables e below (s₁.setTop (entryFrame m #[(.ref a1), (.int b1)] 6)) t := by
    intro t k
    refine C9 t ?_
    show Steps p.tables e below (T9.setTop (mkF m 73 #[.val (.ref a1), .val (.int b1), .val (.long (own_prod rr b1)), .second, s4, s5] [])) _
    refine XS.lloadN X9.here hx rfl (hb hby d10_73) rfl ?_
    show Steps p.tables e below (T9.setTop (mkF m 74 #[.val (.ref a1), .val (.int b1), .val (.long (own_prod rr b1)), .second, s4, s5] [(.long (own_prod rr b1))])) _
    refine XS.bipush X9.here hx rfl (hb hby d10_74) ?_
    show Steps p.tables e below (T9.setTop (mkF m 76 #[.val (.ref a1), .val (.int b1), .val (.long (own_prod rr b1)), .second, s4, s5] [(.int (32 : Int32)), (.long (own_prod rr b1))])) _
    refine XS.lushr X9.here hx rfl (hb hby d10_76) rfl ?_
    show Steps p.tables e below (T9.setTop (mkF m 77 #[.val (.ref a1), .val (.int b1), .val (.long (own_prod rr b1)), .second, s4, s5] [(.long (own_shr (own_prod rr b1) (32 : Int32)))])) _
    refine XS.l2i X9.here hx rfl (hb hby d10_77) rfl ?_
    exact k
  obtain ⟨fs, hr, hrun, hended, hW, hsame⟩ := X9.leave (v := some (.int ((own_shr (own_prod rr b1) (32 : Int32)).toInt32))) (fun h => by rw [Bd.returns] at h; cases h)
  refine ⟨_, _, C71 _ ?_, hrun, hended, _, _, rfl, ?_, ⟨_, rfl⟩, hW, hsame.mono (by decide) (by decide)⟩
  · show Steps p.tables e below (T9.setTop (mkF m 78 #[.val (.ref a1), .val (.int b1), .val (.long (own_prod rr b1)), .second, s4, s5] [(.int ((own_shr (own_prod rr b1) (32 : Int32)).toInt32))])) _
    exact retOut X9 hx Bd.returns rfl (Or.inl ⟨rfl, Or.inl rfl, _, rfl⟩) (hb hby d10_78) hr
  · show Q10 Z a1 b1 h0 n0 _ T9.heap _
    rw [e9]
    exact ⟨_, rfl, N9, own_pick (by omega) (by omega), v0, v1, v2, v3, R9, Z9, K9⟩
theorem pd3 : parseMethodDescriptor "(I)I" = some ⟨[.int], some .int⟩ := by decide +kernel
def Q9 (Z : State) (a1 r1 : Addr) (n : Nat) (A B : Int32) (h0 : Heap) (n0 : Nat) (v : Option Value) (h : Heap) (L : List Loc) : Prop := v = none ∧ Fr n0 L ∧ ∃ q, OwnA Z h r1 .int n (own_hot q A B) ∧ q < n ∧ Keep h0 h [a1, r1]
theorem ef9 (m : MethodId) (x0 : Addr) (x1 : Addr) : entryFrame m #[(.ref x0), (.ref x1)] 5 = mkF m 0 #[.val (.ref x0), .val (.ref x1), .unset, .unset, .unset] [] := by first | (simp [entryFrame, mkF, argsToLocals, Value.category]; done) | rfl
theorem d9_0 : decode prog_47_method_5_code 0 = .ok (.aload_n 1, 1) := by decide +kernel
theorem d9_1 : decode prog_47_method_5_code 1 = .ok (.arraylength, 1) := by decide +kernel
theorem d9_2 : decode prog_47_method_5_code 2 = .ok (.iconst 1, 1) := by decide +kernel
theorem d9_3 : decode prog_47_method_5_code 3 = .ok (.isub, 1) := by decide +kernel
theorem d9_4 : decode prog_47_method_5_code 4 = .ok (.istore_n 2, 1) := by decide +kernel
theorem d9_5 : decode prog_47_method_5_code 5 = .ok (.iload_n 2, 1) := by decide +kernel
theorem d9_6 : decode prog_47_method_5_code 6 = .ok (.ifCond .le 33, 3) := by decide +kernel
theorem d9_9 : decode prog_47_method_5_code 9 = .ok (.aload_n 0, 1) := by decide +kernel
theorem d9_10 : decode prog_47_method_5_code 10 = .ok (.iload_n 2, 1) := by decide +kernel
theorem d9_11 : decode prog_47_method_5_code 11 = .ok (.iconst 1, 1) := by decide +kernel
theorem d9_12 : decode prog_47_method_5_code 12 = .ok (.iadd, 1) := by decide +kernel
theorem d9_13 : decode prog_47_method_5_code 13 = .ok (.invokevirtual 53, 3) := by decide +kernel
theorem d9_16 : decode prog_47_method_5_code 16 = .ok (.istore_n 3, 1) := by decide +kernel
theorem d9_17 : decode prog_47_method_5_code 17 = .ok (.aload_n 1, 1) := by decide +kernel
theorem d9_18 : decode prog_47_method_5_code 18 = .ok (.iload_n 2, 1) := by decide +kernel
theorem d9_19 : decode prog_47_method_5_code 19 = .ok (.iaload, 1) := by decide +kernel
theorem d9_20 : decode prog_47_method_5_code 20 = .ok (.istore 4, 2) := by decide +kernel
theorem d9_22 : decode prog_47_method_5_code 22 = .ok (.aload_n 1, 1) := by decide +kernel
theorem d9_23 : decode prog_47_method_5_code 23 = .ok (.iload_n 2, 1) := by decide +kernel
theorem d9_24 : decode prog_47_method_5_code 24 = .ok (.aload_n 1, 1) := by decide +kernel
theorem d9_25 : decode prog_47_method_5_code 25 = .ok (.iload_n 3, 1) := by decide +kernel
theorem d9_26 : decode prog_47_method_5_code 26 = .ok (.iaload, 1) := by decide +kernel
theorem d9_27 : decode prog_47_method_5_code 27 = .ok (.iastore, 1) := by decide +kernel
theorem d9_28 : decode prog_47_method_5_code 28 = .ok (.aload_n 1, 1) := by decide +kernel
theorem d9_29 : decode prog_47_method_5_code 29 = .ok (.iload_n 3, 1) := by decide +kernel
theorem d9_30 : decode prog_47_method_5_code 30 = .ok (.iload 4, 2) := by decide +kernel
theorem d9_32 : decode prog_47_method_5_code 32 = .ok (.iastore, 1) := by decide +kernel
theorem d9_33 : decode prog_47_method_5_code 33 = .ok (.iinc 2 (-1), 3) := by decide +kernel
theorem d9_36 : decode prog_47_method_5_code 36 = .ok (.goto (-31), 3) := by decide +kernel
theorem d9_39 : decode prog_47_method_5_code 39 = .ok (.return_, 1) := by decide +kernel
set_option maxRecDepth 65536 in
set_option maxHeartbeats 40000000 in
theorem rm9 (l : Launch) (Z : State) (a0 : Array Value) (hw : ∀ d ∈ tables_1, d.before a0 Z = true) (ws : List Jvm.Cond) (a1 r1 : Addr) (n : Nat) (zn A B : Int32) (q : Nat) (w0 w1 w2 w3 : Int64) (h0 : Heap) (n0 : Nat) (Z0 : n0 ≤ h0.size) (R : OwnR Z h0 a1 w0 w1 w2 w3) (NZ : OwnNZ w0 w1 w2 w3) (H : OwnA Z h0 r1 .int n (own_hot q A B)) (hq : q < n) (hn1 : 2 ≤ n) (hn2 : n ≤ 6) (hlen : n.toInt32 = zn) (hzn : zn.toInt = (n : Int)) (g1 : n0 ≤ a1) (gr : n0 ≤ r1) :
    MetFree l (⟨"com/example/mutatune/mutatune/engine/SeededRandom", "shuffle", "([I)V"⟩ : MethodName) (head1 (Jvm.Cond.code (⟨"com/example/mutatune/mutatune/engine/SeededRandom", "shuffle", "([I)V"⟩ : MethodName) prog_47_method_5_code 5 none :: ws) ({ frames := 3, cells := 0, slots := 0, locals := 48 } : Room)) (fun a U => a = #[(.ref a1), (.ref r1)] ∧ Z.Warmed39 U.vm ∧ U.heap = h0) (fun _ _ _ _ _ => True) (fun _ U o U' => ∃ v L, o = .returned v ∧ Q9 Z a1 r1 n A B h0 n0 v U'.heap L ∧ FrameEnd U o U' L ({ frames := 3, cells := 0, slots := 0, locals := 48 } : Room).cells ({ frames := 3, cells := 0, slots := 0, locals := 48 } : Room).slots) := by
  refine MetFree.of_bodySF (plainFor_of_name pn1) hisR ?_
  intro p e s m args below meth c s₁ Bd hml0 hP hK
  obtain ⟨rfl, hZ, hh⟩ := hP
  have hx := Bd.exec
  have hby := Bd.bytes
  have hml : c.maxLocals = 5 := hml0
  have hown : s.vm.findClass "com/example/mutatune/mutatune/engine/SeededRandom" = some m.cls := findClass_of_methodNamed Bd.named
  have hnm := (name_of_methodNamed Bd.named Bd.method).1
  have X0 : Stand p l e ({ frames := 3, cells := 0, slots := 0, locals := 48 } : Room) s m #[(.ref a1), (.ref r1)] below meth c s₁ [] 0 0 := Stand.of_body Bd
  have e0 : s₁.heap = h0 := by rw [← hh, Bd.state]; rfl
  have N0 := Fr.nil n0
  have pre0 : ∀ t, Steps p.tables e below (s₁.setTop (mkF m 0 #[.val (.ref a1), .val (.ref r1), .unset, .unset, .unset] [])) t → Steps p.tables e below (s₁.setTop (entryFrame m #[(.ref a1), (.ref r1)] 5)) t := fun t k => castTop (ef9 m a1 r1) k
  have a_r := own_ne R.1 (hw _ (List.mem_of_getElem? (i := 3) rfl)) H
  obtain ⟨c72, A72, S72, V72⟩ := id H
  have C73 : ∀ t, Steps p.tables e below (s₁.setTop (mkF m 5 #[.val (.ref a1), .val (.ref r1), .val (.int (zn - (1 : Int32))), .unset, .unset] [])) t → Steps p.tables e below (s₁.setTop (entryFrame m #[(.ref a1), (.ref r1)] 5)) t := by
    intro t k
    refine pre0 t ?_
    show Steps p.tables e below (s₁.setTop (mkF m 0 #[.val (.ref a1), .val (.ref r1), .unset, .unset, .unset] [])) _
    refine XS.aloadN X0.here hx rfl (hb hby d9_0) rfl rfl ?_
    show Steps p.tables e below (s₁.setTop (mkF m 1 #[.val (.ref a1), .val (.ref r1), .unset, .unset, .unset] [(.ref r1)])) _
    refine X0.arraylength hx (by rw [e0]; exact A72.1) (State.isArrayOf_alike hZ.alike A72.2.1) (g := (mkF m 1 #[.val (.ref a1), .val (.ref r1), .unset, .unset, .unset] [(.ref r1)])) rfl rfl (hb hby d9_1) _ ?_
    rw [S72, hlen]
    show Steps p.tables e below (s₁.setTop (mkF m 2 #[.val (.ref a1), .val (.ref r1), .unset, .unset, .unset] [(.int zn)])) _
    refine XS.iconst X0.here hx rfl (hb hby d9_2) ?_
    show Steps p.tables e below (s₁.setTop (mkF m 3 #[.val (.ref a1), .val (.ref r1), .unset, .unset, .unset] [(.int (1 : Int32)), (.int zn)])) _
    refine XS.isub X0.here hx rfl (hb hby d9_3) rfl ?_
    show Steps p.tables e below (s₁.setTop (mkF m 4 #[.val (.ref a1), .val (.ref r1), .unset, .unset, .unset] [(.int (zn - (1 : Int32)))])) _
    refine XS.istoreN X0.here hx rfl (hb hby d9_4) rfl (l' := #[.val (.ref a1), .val (.ref r1), .val (.int (zn - (1 : Int32))), .unset, .unset]) rfl ?_
    exact k
  have loop : ∀ (k : Nat) (i : Int32) (s3 s4 : Slot) (q : Nat) (w0 w1 w2 w3 : Int64) (T : State) (lo : List Loc) (h : Heap), Stand p l e ({ frames := 3, cells := 0, slots := 0, locals := 48 } : Room) s m #[(.ref a1), (.ref r1)] below meth c T lo 0 0 → T.heap = h → Fr n0 lo → Keep h0 h [a1, r1] → OwnR Z h a1 w0 w1 w2 w3 → OwnNZ w0 w1 w2 w3 → OwnA Z h r1 .int n (own_hot q A B) → q < n → One s3 → One s4 → i.toInt = (k : Int) → k < n → ∃ (T' : State) (lo' : List Loc) (h' : Heap) (i' : Int32) (s3' s4' : Slot) (p' : Nat) (v0 v1 v2 v3 : Int64), Stand p l e ({ frames := 3, cells := 0, slots := 0, locals := 48 } : Room) s m #[(.ref a1), (.ref r1)] below meth c T' lo' 0 0 ∧ T'.heap = h' ∧ Fr n0 lo' ∧ Keep h0 h' [a1, r1] ∧ OwnR Z h' a1 v0 v1 v2 v3 ∧ OwnNZ v0 v1 v2 v3 ∧ OwnA Z h' r1 .int n (own_hot p' A B) ∧ p' < n ∧ ∀ t, Steps p.tables e below (T'.setTop (mkF m 39 #[.val (.ref a1), .val (.ref r1), .val (.int i'), s3', s4'] [])) t → Steps p.tables e below (T.setTop (mkF m 5 #[.val (.ref a1), .val (.ref r1), .val (.int i), s3, s4] [])) t := by
    intro k
    induction k with
    | zero =>
      intro i s3 s4 q w0 w1 w2 w3 T lo h XX eT NN KK RR NZ HH hq O3 O4 hi hk
      refine ⟨T, lo, h, i, s3, s4, q, w0, w1, w2, w3, XX, eT, NN, KK, RR, NZ, HH, hq, ?_⟩
      intro t kk
      show Steps p.tables e below (T.setTop (mkF m 5 #[.val (.ref a1), .val (.ref r1), .val (.int i), s3, s4] [])) _
      refine XS.iloadN XX.here hx rfl (hb hby d9_5) rfl ?_
      show Steps p.tables e below (T.setTop (mkF m 6 #[.val (.ref a1), .val (.ref r1), .val (.int i), s3, s4] [(.int i)])) _
      refine XS.ifYes XX.here hx rfl (pc0 := 6) (pc' := 39) rfl (hb hby d9_6) rfl (XT.i0_le_t (fun y => by rw [own_lt32, hi, show (0 : Int32).toInt = 0 from rfl] at y; omega)) (by decide) (by decide) ?_
      exact kk
    | succ k ih =>
      intro i s3 s4 q w0 w1 w2 w3 T lo h XX eT NN KK RR NZ HH hq O3 O4 hi hk
      have ID : ∀ t, Steps p.tables e below (T.setTop (mkF m 5 #[.val (.ref a1), .val (.ref r1), .val (.int i), s3, s4] [])) t → Steps p.tables e below (T.setTop (mkF m 5 #[.val (.ref a1), .val (.ref r1), .val (.int i), s3, s4] [])) t := fun t kk => kk
      have Zh : n0 ≤ h.size := Nat.le_trans Z0 KK.1
      have hpos : 0 < i := by rw [own_lt32, hi, show (0 : Int32).toInt = 0 from rfl]; omega
      have hi1 : (i + (1 : Int32)).toInt = ((k + 1 : Nat) : Int) + 1 := own_add_c hi (show (1 : Int32).toInt = 1 from rfl) (by omega) (by omega)
      have hI : ¬ i < 0 ∧ i.toNatClampNeg < n := own_idx hi hk
      have C74 : ∀ t, Steps p.tables e below (T.setTop (mkF m 13 #[.val (.ref a1), .val (.ref r1), .val (.int i), s3, s4] [(.int (i + (1 : Int32))), (.ref a1)])) t → Steps p.tables e below (T.setTop (mkF m 5 #[.val (.ref a1), .val (.ref r1), .val (.int i), s3, s4] [])) t := by
        intro t k
        refine ID t ?_
        show Steps p.tables e below (T.setTop (mkF m 5 #[.val (.ref a1), .val (.ref r1), .val (.int i), s3, s4] [])) _
        refine XS.iloadN XX.here hx rfl (hb hby d9_5) rfl ?_
        show Steps p.tables e below (T.setTop (mkF m 6 #[.val (.ref a1), .val (.ref r1), .val (.int i), s3, s4] [(.int i)])) _
        refine XS.ifNo XX.here hx rfl (hb hby d9_6) rfl (XT.i0_le_f hpos) ?_
        show Steps p.tables e below (T.setTop (mkF m 9 #[.val (.ref a1), .val (.ref r1), .val (.int i), s3, s4] [])) _
        refine XS.aloadN XX.here hx rfl (hb hby d9_9) rfl rfl ?_
        show Steps p.tables e below (T.setTop (mkF m 10 #[.val (.ref a1), .val (.ref r1), .val (.int i), s3, s4] [(.ref a1)])) _
        refine XS.iloadN XX.here hx rfl (hb hby d9_10) rfl ?_
        show Steps p.tables e below (T.setTop (mkF m 11 #[.val (.ref a1), .val (.ref r1), .val (.int i), s3, s4] [(.int i), (.ref a1)])) _
        refine XS.iconst XX.here hx rfl (hb hby d9_11) ?_
        show Steps p.tables e below (T.setTop (mkF m 12 #[.val (.ref a1), .val (.ref r1), .val (.int i), s3, s4] [(.int (1 : Int32)), (.int i), (.ref a1)])) _
        refine XS.iadd XX.here hx rfl (hb hby d9_12) rfl ?_
        exact k
      obtain ⟨cq75, kq75, q75a, q75b, q75c⟩ := isOf hZ eT RR.1
      obtain ⟨_, _, ⟨T75, L75, k75, n75⟩, -, X75, ⟨Lc75, hQ75, l75, y75, z75⟩, st75⟩ := XX.virtualBack hx (y := (⟨"com/example/mutatune/mutatune/engine/SeededRandom", "nextInt", "(I)I"⟩ : MethodName)) (z := (⟨"com/example/mutatune/mutatune/engine/SeededRandom", "nextInt", "(I)I"⟩ : MethodName)) hown (mvT hZ (hw _ (List.mem_of_getElem? (i := 58) rfl))) (mvT hZ (hw _ (List.mem_of_getElem? (i := 59) rfl))) (notFace_of_selects (args := #[]) (mvT hZ (hw _ (List.mem_of_getElem? (i := 61) rfl)))) (mvT hZ (hw _ (List.mem_of_getElem? (i := 61) rfl))) (mvT hZ (hw _ (List.mem_of_getElem? (i := 60) rfl))) (by decide) (backOf (W := 0) (rm10 l Z a0 hw [] a1 (i + (1 : Int32)) w0 w1 w2 w3 h n0 Zh RR NZ g1 (by omega) (by omega)) hZ (hw _ (List.mem_of_getElem? (i := 62) rfl)) (hw _ (List.mem_of_getElem? (i := 4) rfl)) (by decide) (by decide)) q75a q75c (g := (mkF m 13 #[.val (.ref a1), .val (.ref r1), .val (.int i), s3, s4] [(.int (i + (1 : Int32))), (.ref a1)])) rfl (by rw [hml]; rfl) (Steps.refl _) (argsL := [(.int (i + (1 : Int32)))]) (rest := []) (lenOf pd3 rfl) rfl (by show 2 * 0 + _ ≤ _; exact Nat.le_of_eq rfl) (hb hby d9_13) (fun _ _ => ⟨rfl, eT, (by decide : 0 + 0 ≤ _), (by decide : 0 + 0 ≤ _)⟩)
      dsimp only [Pt.U, Pt.locs, Pt.cells, Pt.slots] at X75 l75 y75 z75 st75 hQ75
      subst l75 y75 z75
      obtain ⟨j, rfl, N75q, hj, v0, v1, v2, v3, R75, NZ75, K75⟩ := hQ75
      have N75 := Fr.app NN N75q
      have C75 : ∀ t, Steps p.tables e below (T75.setTop (mkF m 16 #[.val (.ref a1), .val (.ref r1), .val (.int i), s3, s4] [(.int j)])) t → Steps p.tables e below (T.setTop (mkF m 5 #[.val (.ref a1), .val (.ref r1), .val (.int i), s3, s4] [])) t := fun t k => C74 t (st75.trans k)
      have H1 := HH.keep K75 (own_nin1 (Ne.symm a_r))
      have hjn : j.toInt = ((j.toInt.toNat : Nat) : Int) := by omega
      have hJ : ¬ j < 0 ∧ j.toNatClampNeg < n := own_idx hjn (by omega)
      obtain ⟨xi, hxi⟩ : ∃ z : Int32, z = (if i.toNatClampNeg = q then A else B) := ⟨_, rfl⟩
      obtain ⟨xj, hxj⟩ : ∃ z : Int32, z = (if j.toNatClampNeg = q then A else B) := ⟨_, rfl⟩
      obtain ⟨c76, A76, S76, V76⟩ := id H1
      obtain ⟨c77, A77, S77, V77⟩ := id H1
      have C78 : ∀ t, Steps p.tables e below (T75.setTop (mkF m 27 #[.val (.ref a1), .val (.ref r1), .val (.int i), .val (.int j), .val (.int xi)] [(.int xj), (.int i), (.ref r1)])) t → Steps p.tables e below (T.setTop (mkF m 5 #[.val (.ref a1), .val (.ref r1), .val (.int i), s3, s4] [])) t := by
        intro t k
        refine C75 t ?_
        show Steps p.tables e below (T75.setTop (mkF m 16 #[.val (.ref a1), .val (.ref r1), .val (.int i), s3, s4] [(.int j)])) _
        refine XS.istoreN X75.here hx rfl (hb hby d9_16) rfl (l' := #[.val (.ref a1), .val (.ref r1), .val (.int i), .val (.int j), s4]) (XS.store1 rfl O3 rfl) ?_
        show Steps p.tables e below (T75.setTop (mkF m 17 #[.val (.ref a1), .val (.ref r1), .val (.int i), .val (.int j), s4] [])) _
        refine XS.aloadN X75.here hx rfl (hb hby d9_17) rfl rfl ?_
        show Steps p.tables e below (T75.setTop (mkF m 18 #[.val (.ref a1), .val (.ref r1), .val (.int i), .val (.int j), s4] [(.ref r1)])) _
        refine XS.iloadN X75.here hx rfl (hb hby d9_18) rfl ?_
        show Steps p.tables e below (T75.setTop (mkF m 19 #[.val (.ref a1), .val (.ref r1), .val (.int i), .val (.int j), s4] [(.int i), (.ref r1)])) _
        refine X75.iaload hx (j := i) (v := (.int xi)) A76.1 (State.isArrayOf_alike hZ.alike A76.2.1) A76.2.2 (own_in hI S76) ((by rw [hxi]; exact V76 _ hI.2)) (g := (mkF m 19 #[.val (.ref a1), .val (.ref r1), .val (.int i), .val (.int j), s4] [(.int i), (.ref r1)])) rfl rfl (hb hby d9_19) _ ?_
        show Steps p.tables e below (T75.setTop (mkF m 20 #[.val (.ref a1), .val (.ref r1), .val (.int i), .val (.int j), s4] [(.int xi)])) _
        refine XS.istore X75.here hx rfl (hb hby d9_20) rfl (l' := #[.val (.ref a1), .val (.ref r1), .val (.int i), .val (.int j), .val (.int xi)]) (XS.store1 rfl O4 rfl) ?_
        show Steps p.tables e below (T75.setTop (mkF m 22 #[.val (.ref a1), .val (.ref r1), .val (.int i), .val (.int j), .val (.int xi)] [])) _
        refine XS.aloadN X75.here hx rfl (hb hby d9_22) rfl rfl ?_
        show Steps p.tables e below (T75.setTop (mkF m 23 #[.val (.ref a1), .val (.ref r1), .val (.int i), .val (.int j), .val (.int xi)] [(.ref r1)])) _
        refine XS.iloadN X75.here hx rfl (hb hby d9_23) rfl ?_
        show Steps p.tables e below (T75.setTop (mkF m 24 #[.val (.ref a1), .val (.ref r1), .val (.int i), .val (.int j), .val (.int xi)] [(.int i), (.ref r1)])) _
        refine XS.aloadN X75.here hx rfl (hb hby d9_24) rfl rfl ?_
        show Steps p.tables e below (T75.setTop (mkF m 25 #[.val (.ref a1), .val (.ref r1), .val (.int i), .val (.int j), .val (.int xi)] [(.ref r1), (.int i), (.ref r1)])) _
        refine XS.iloadN X75.here hx rfl (hb hby d9_25) rfl ?_
        show Steps p.tables e below (T75.setTop (mkF m 26 #[.val (.ref a1), .val (.ref r1), .val (.int i), .val (.int j), .val (.int xi)] [(.int j), (.ref r1), (.int i), (.ref r1)])) _
        refine X75.iaload hx (j := j) (v := (.int xj)) A77.1 (State.isArrayOf_alike hZ.alike A77.2.1) A77.2.2 (own_in hJ S77) ((by rw [hxj]; exact V77 _ hJ.2)) (g := (mkF m 26 #[.val (.ref a1), .val (.ref r1), .val (.int i), .val (.int j), .val (.int xi)] [(.int j), (.ref r1), (.int i), (.ref r1)])) rfl rfl (hb hby d9_26) _ ?_
        exact k
      obtain ⟨c79, A79, S79, V79⟩ := id H1
      obtain ⟨T79, h79, X79, e79, W79, st79⟩ := stI X75 hx hZ rfl A79 (j := i) (own_in hI S79) (g := (mkF m 27 #[.val (.ref a1), .val (.ref r1), .val (.int i), .val (.int j), .val (.int xi)] [(.int xj), (.int i), (.ref r1)])) rfl rfl (hb hby d9_27)
      have N79 := Fr.snoc X79 N75 gr
      have C79 : ∀ t, Steps p.tables e below (T79.setTop (mkF m 28 #[.val (.ref a1), .val (.ref r1), .val (.int i), .val (.int j), .val (.int xi)] [])) t → Steps p.tables e below (T.setTop (mkF m 5 #[.val (.ref a1), .val (.ref r1), .val (.int i), s3, s4] [])) t := fun t k => C78 t (st79 t k)
      have H2 := H1.set W79
      have C80 : ∀ t, Steps p.tables e below (T79.setTop (mkF m 32 #[.val (.ref a1), .val (.ref r1), .val (.int i), .val (.int j), .val (.int xi)] [(.int xi), (.int j), (.ref r1)])) t → Steps p.tables e below (T.setTop (mkF m 5 #[.val (.ref a1), .val (.ref r1), .val (.int i), s3, s4] [])) t := by
        intro t k
        refine C79 t ?_
        show Steps p.tables e below (T79.setTop (mkF m 28 #[.val (.ref a1), .val (.ref r1), .val (.int i), .val (.int j), .val (.int xi)] [])) _
        refine XS.aloadN X79.here hx rfl (hb hby d9_28) rfl rfl ?_
        show Steps p.tables e below (T79.setTop (mkF m 29 #[.val (.ref a1), .val (.ref r1), .val (.int i), .val (.int j), .val (.int xi)] [(.ref r1)])) _
        refine XS.iloadN X79.here hx rfl (hb hby d9_29) rfl ?_
        show Steps p.tables e below (T79.setTop (mkF m 30 #[.val (.ref a1), .val (.ref r1), .val (.int i), .val (.int j), .val (.int xi)] [(.int j), (.ref r1)])) _
        refine XS.iload X79.here hx rfl (hb hby d9_30) rfl ?_
        exact k
      obtain ⟨c81, A81, S81, V81⟩ := id H2
      obtain ⟨T81, h81, X81, e81, W81, st81⟩ := stI X79 hx hZ e79 A81 (j := j) (own_in hJ S81) (g := (mkF m 32 #[.val (.ref a1), .val (.ref r1), .val (.int i), .val (.int j), .val (.int xi)] [(.int xi), (.int j), (.ref r1)])) rfl rfl (hb hby d9_32)
      have N81 := Fr.snoc X81 N79 gr
      have C81 : ∀ t, Steps p.tables e below (T81.setTop (mkF m 33 #[.val (.ref a1), .val (.ref r1), .val (.int i), .val (.int j), .val (.int xi)] [])) t → Steps p.tables e below (T.setTop (mkF m 5 #[.val (.ref a1), .val (.ref r1), .val (.int i), s3, s4] [])) t := fun t k => C80 t (st81 t k)
      have H3 := (H2.set W81).congr (fun k hk => own_swap hxi hxj k)
      have C82 : ∀ t, Steps p.tables e below (T81.setTop (mkF m 5 #[.val (.ref a1), .val (.ref r1), .val (.int (i + (-1 : Int32))), .val (.int j), .val (.int xi)] [])) t → Steps p.tables e below (T.setTop (mkF m 5 #[.val (.ref a1), .val (.ref r1), .val (.int i), s3, s4] [])) t := by
        intro t k
        refine C81 t ?_
        show Steps p.tables e below (T81.setTop (mkF m 33 #[.val (.ref a1), .val (.ref r1), .val (.int i), .val (.int j), .val (.int xi)] [])) _
        refine XS.iinc X81.here hx rfl (hb hby d9_33) rfl (l' := #[.val (.ref a1), .val (.ref r1), .val (.int (i + (-1 : Int32))), .val (.int j), .val (.int xi)]) rfl ?_
        show Steps p.tables e below (T81.setTop (mkF m 36 #[.val (.ref a1), .val (.ref r1), .val (.int (i + (-1 : Int32))), .val (.int j), .val (.int xi)] [])) _
        refine XS.goto X81.here hx rfl (pc0 := 36) (pc' := 5) rfl (hb hby d9_36) (by decide) (by decide) ?_
        exact k
      have R1 := (R75.wr W79 a_r).wr W81 a_r
      have K1 : Keep h0 h81 [a1, r1] := ((KK.trans K75 (fun x hx => Or.inl (by cases List.mem_singleton.mp hx; exact List.mem_cons_self ..))).wr W79 (Or.inl (List.mem_of_getElem? (i := 1) rfl))).wr W81 (Or.inl (List.mem_of_getElem? (i := 1) rfl))
      have hi2 : (i + (-1 : Int32)).toInt = (k : Int) := own_dec_c hi (by clear hi1; omega)
      have hq' : (if q = i.toNatClampNeg then j.toNatClampNeg else if q = j.toNatClampNeg then i.toNatClampNeg else q) < n := by
        split
        · exact hJ.2
        · split
          · exact hI.2
          · exact hq
      obtain ⟨T', lo', h', i', s3', s4', p', u0, u1, u2, u3, Y1, Y2, Y3, Y4, Y5, Y6, Y7, Y8, Y9⟩ := ih (i + (-1 : Int32)) (.val (.int j)) (.val (.int xi)) _ v0 v1 v2 v3 T81 _ h81 X81 e81 N81 K1 R1 NZ75 H3 hq' (Or.inr ⟨_, rfl, rfl⟩) (Or.inr ⟨_, rfl, rfl⟩) hi2 (Nat.lt_of_succ_lt hk)
      exact ⟨T', lo', h', i', s3', s4', p', u0, u1, u2, u3, Y1, Y2, Y3, Y4, Y5, Y6, Y7, Y8, fun t kk => C82 t (Y9 t kk)⟩
  have hz1 : (zn - (1 : Int32)).toInt = ((n - 1 : Nat) : Int) := by have y := own_sub_c hzn (show (1 : Int32).toInt = 1 from rfl) (by omega) (by omega); omega
  obtain ⟨T9, lo9, h9, i9, s3', s4', p', u0, u1, u2, u3, X9, e9, N9, K9, R9, Z9, H9, hp9, st9⟩ := loop (n - 1) (zn - (1 : Int32)) .unset .unset q w0 w1 w2 w3 s₁ _ h0 X0 e0 N0 (Keep.refl _ _) R NZ H hq (Or.inl rfl) (Or.inl rfl) hz1 (by omega)
  have C39 : ∀ t, Steps p.tables e below (T9.setTop (mkF m 39 #[.val (.ref a1), .val (.ref r1), .val (.int i9), s3', s4'] [])) t → Steps p.tables e below (s₁.setTop (entryFrame m #[(.ref a1), (.ref r1)] 5)) t := fun t k => C73 t (st9 t k)
  obtain ⟨fs, hr, hrun, hended, hW, hsame⟩ := X9.leave (v := none) (fun _ => rfl)
  refine ⟨_, _, C39 _ ?_, hrun, hended, _, _, rfl, ?_, ⟨_, rfl⟩, hW, hsame.mono (by decide) (by decide)⟩
  · show Steps p.tables e below (T9.setTop (mkF m 39 #[.val (.ref a1), .val (.ref r1), .val (.int i9), s3', s4'] [])) _
    exact X9.returnOut hx Bd.returns (hb hby d9_39) hr
  · show Q9 Z a1 r1 n A B h0 n0 _ T9.heap _
    rw [e9]
    exact ⟨rfl, N9, p', H9, hp9, K9⟩
def Q11 (Z : State) (r1 : Addr) (n mp : Nat) (A B : Int32) (h0 : Heap) (n0 : Nat) (v : Option Value) (h : Heap) (L : List Loc) : Prop := v = none ∧ Fr n0 L ∧ ∃ q, OwnA Z h r1 .int n (own_hot q A B) ∧ q < 2 * mp ∧ Keep h0 h [r1]
theorem own_xor1 {oi : Int32} {on mp n : Nat} (hoi : oi.toInt = (on : Int)) (h : on < 2 * mp) (hm : mp ≤ 2) (hn : 2 * mp ≤ n) : ¬ (oi ^^^ (1 : Int32)) < 0 ∧ (oi ^^^ (1 : Int32)).toNatClampNeg < n := by
  have h4 : oi = 0 ∨ oi = 1 ∨ oi = 2 ∨ oi = 3 := by
    have e0 : (0 : Int32).toInt = 0 := rfl
    have e1 : (1 : Int32).toInt = 1 := rfl
    have e2 : (2 : Int32).toInt = 2 := rfl
    have e3 : (3 : Int32).toInt = 3 := rfl
    simp only [← Int32.toInt_inj, e0, e1, e2, e3]
    omega
  rcases h4 with r | r | r | r <;> subst r
  · have : (0 : Int32).toInt = 0 := rfl
    exact ⟨by decide, Nat.lt_of_lt_of_le (show (0 ^^^ 1 : Int32).toNatClampNeg < 2 by decide) (by omega)⟩
  · have : (1 : Int32).toInt = 1 := rfl
    exact ⟨by decide, Nat.lt_of_lt_of_le (show (1 ^^^ 1 : Int32).toNatClampNeg < 2 by decide) (by omega)⟩
  · have : (2 : Int32).toInt = 2 := rfl
    exact ⟨by decide, Nat.lt_of_lt_of_le (show (2 ^^^ 1 : Int32).toNatClampNeg < 4 by decide) (by omega)⟩
  · have : (3 : Int32).toInt = 3 := rfl
    exact ⟨by decide, Nat.lt_of_lt_of_le (show (3 ^^^ 1 : Int32).toNatClampNeg < 4 by decide) (by omega)⟩
theorem own_moved {q e : Nat} {A B : Int32} (h : q ≠ e) (k : Nat) : (if k = q then Value.int B else if k = e then .int A else own_hot q A B k) = own_hot e A B k := by
  unfold own_hot
  by_cases h1 : k = q <;> by_cases h2 : k = e <;> simp_all
theorem own_pair_eq {q Pn : Nat} {A B y0 y1 : Int32} (hAB : A ≠ B) (h0 : y0 = if 2 * Pn = q then A else B) (h1 : y1 = if 2 * Pn + 1 = q then A else B) (h : y1 = y0) : q ≠ 2 * Pn ∧ q ≠ 2 * Pn + 1 ∧ y0 = B := by
  subst h0 h1
  by_cases a : 2 * Pn = q
  · rw [if_pos a, if_neg (by omega)] at h
    exact absurd h.symm hAB
  · by_cases b : 2 * Pn + 1 = q
    · rw [if_neg a, if_pos b] at h
      exact absurd h hAB
    · exact ⟨fun y => a y.symm, fun y => b y.symm, if_neg a⟩
theorem own_pair_ne {q Pn : Nat} {A B y0 y1 : Int32} (h0 : y0 = if 2 * Pn = q then A else B) (h1 : y1 = if 2 * Pn + 1 = q then A else B) (h : ¬ y1 = y0) : q ≤ 2 * Pn + 1 := by
  subst h0 h1
  by_cases a : 2 * Pn = q
  · omega
  · by_cases b : 2 * Pn + 1 = q
    · omega
    · rw [if_neg a, if_neg b] at h
      exact absurd rfl h
theorem pn2 : plainName "com/example/mutatune/mutatune/engine/UniversalSampling" = true := by first | (simp [plainName, overriddenIn]; done) | decide +kernel
theorem ef11 (m : MethodId) (x0 : Addr) (x1 : Int32) : entryFrame m #[(.ref x0), (.int x1)] 7 = mkF m 0 #[.val (.ref x0), .val (.int x1), .unset, .unset, .unset, .unset, .unset] [] := by first | (simp [entryFrame, mkF, argsToLocals, Value.category]; done) | rfl
theorem d11_0 : decode prog_59_method_5_code 0 = .ok (.iconst 0, 1) := by decide +kernel
theorem d11_1 : decode prog_59_method_5_code 1 = .ok (.istore_n 2, 1) := by decide +kernel
theorem d11_2 : decode prog_59_method_5_code 2 = .ok (.iload_n 2, 1) := by decide +kernel
theorem d11_3 : decode prog_59_method_5_code 3 = .ok (.iload_n 1, 1) := by decide +kernel
theorem d11_4 : decode prog_59_method_5_code 4 = .ok (.if_icmp .ge 113, 3) := by decide +kernel
theorem d11_7 : decode prog_59_method_5_code 7 = .ok (.aload_n 0, 1) := by decide +kernel
theorem d11_8 : decode prog_59_method_5_code 8 = .ok (.iconst 2, 1) := by decide +kernel
theorem d11_9 : decode prog_59_method_5_code 9 = .ok (.iload_n 2, 1) := by decide +kernel
theorem d11_10 : decode prog_59_method_5_code 10 = .ok (.imul, 1) := by decide +kernel
theorem d11_11 : decode prog_59_method_5_code 11 = .ok (.iaload, 1) := by decide +kernel
theorem d11_12 : decode prog_59_method_5_code 12 = .ok (.istore_n 3, 1) := by decide +kernel
theorem d11_13 : decode prog_59_method_5_code 13 = .ok (.aload_n 0, 1) := by decide +kernel
theorem d11_14 : decode prog_59_method_5_code 14 = .ok (.iconst 2, 1) := by decide +kernel
theorem d11_15 : decode prog_59_method_5_code 15 = .ok (.iload_n 2, 1) := by decide +kernel
theorem d11_16 : decode prog_59_method_5_code 16 = .ok (.imul, 1) := by decide +kernel
theorem d11_17 : decode prog_59_method_5_code 17 = .ok (.iconst 1, 1) := by decide +kernel
theorem d11_18 : decode prog_59_method_5_code 18 = .ok (.iadd, 1) := by decide +kernel
theorem d11_19 : decode prog_59_method_5_code 19 = .ok (.iaload, 1) := by decide +kernel
theorem d11_20 : decode prog_59_method_5_code 20 = .ok (.iload_n 3, 1) := by decide +kernel
theorem d11_21 : decode prog_59_method_5_code 21 = .ok (.if_icmp .eq 6, 3) := by decide +kernel
theorem d11_24 : decode prog_59_method_5_code 24 = .ok (.goto 87, 3) := by decide +kernel
theorem d11_27 : decode prog_59_method_5_code 27 = .ok (.iconst 2, 1) := by decide +kernel
theorem d11_28 : decode prog_59_method_5_code 28 = .ok (.istore 4, 2) := by decide +kernel
theorem d11_30 : decode prog_59_method_5_code 30 = .ok (.iload 4, 2) := by decide +kernel
theorem d11_32 : decode prog_59_method_5_code 32 = .ok (.aload_n 0, 1) := by decide +kernel
theorem d11_33 : decode prog_59_method_5_code 33 = .ok (.arraylength, 1) := by decide +kernel
theorem d11_34 : decode prog_59_method_5_code 34 = .ok (.if_icmp .ge 77, 3) := by decide +kernel
theorem d11_37 : decode prog_59_method_5_code 37 = .ok (.iconst 2, 1) := by decide +kernel
theorem d11_38 : decode prog_59_method_5_code 38 = .ok (.iload_n 2, 1) := by decide +kernel
theorem d11_39 : decode prog_59_method_5_code 39 = .ok (.imul, 1) := by decide +kernel
theorem d11_40 : decode prog_59_method_5_code 40 = .ok (.iload 4, 2) := by decide +kernel
theorem d11_42 : decode prog_59_method_5_code 42 = .ok (.iadd, 1) := by decide +kernel
theorem d11_43 : decode prog_59_method_5_code 43 = .ok (.aload_n 0, 1) := by decide +kernel
theorem d11_44 : decode prog_59_method_5_code 44 = .ok (.arraylength, 1) := by decide +kernel
theorem d11_45 : decode prog_59_method_5_code 45 = .ok (.irem, 1) := by decide +kernel
theorem d11_46 : decode prog_59_method_5_code 46 = .ok (.istore 5, 2) := by decide +kernel
theorem d11_48 : decode prog_59_method_5_code 48 = .ok (.iload 5, 2) := by decide +kernel
theorem d11_50 : decode prog_59_method_5_code 50 = .ok (.iconst 2, 1) := by decide +kernel
theorem d11_51 : decode prog_59_method_5_code 51 = .ok (.iload_n 1, 1) := by decide +kernel
theorem d11_52 : decode prog_59_method_5_code 52 = .ok (.imul, 1) := by decide +kernel
theorem d11_53 : decode prog_59_method_5_code 53 = .ok (.if_icmp .ge 17, 3) := by decide +kernel
theorem d11_56 : decode prog_59_method_5_code 56 = .ok (.aload_n 0, 1) := by decide +kernel
theorem d11_57 : decode prog_59_method_5_code 57 = .ok (.iload 5, 2) := by decide +kernel
theorem d11_59 : decode prog_59_method_5_code 59 = .ok (.iconst 1, 1) := by decide +kernel
theorem d11_60 : decode prog_59_method_5_code 60 = .ok (.ixor, 1) := by decide +kernel
theorem d11_61 : decode prog_59_method_5_code 61 = .ok (.iaload, 1) := by decide +kernel
theorem d11_62 : decode prog_59_method_5_code 62 = .ok (.iload_n 3, 1) := by decide +kernel
theorem d11_63 : decode prog_59_method_5_code 63 = .ok (.if_icmp .ne 7, 3) := by decide +kernel
theorem d11_66 : decode prog_59_method_5_code 66 = .ok (.iconst 1, 1) := by decide +kernel
theorem d11_67 : decode prog_59_method_5_code 67 = .ok (.goto 4, 3) := by decide +kernel
theorem d11_70 : decode prog_59_method_5_code 70 = .ok (.iconst 0, 1) := by decide +kernel
theorem d11_71 : decode prog_59_method_5_code 71 = .ok (.istore 6, 2) := by decide +kernel
theorem d11_73 : decode prog_59_method_5_code 73 = .ok (.aload_n 0, 1) := by decide +kernel
theorem d11_74 : decode prog_59_method_5_code 74 = .ok (.iload 5, 2) := by decide +kernel
theorem d11_76 : decode prog_59_method_5_code 76 = .ok (.iaload, 1) := by decide +kernel
theorem d11_77 : decode prog_59_method_5_code 77 = .ok (.iload_n 3, 1) := by decide +kernel
theorem d11_78 : decode prog_59_method_5_code 78 = .ok (.if_icmp .eq 27, 3) := by decide +kernel
theorem d11_81 : decode prog_59_method_5_code 81 = .ok (.iload 6, 2) := by decide +kernel
theorem d11_83 : decode prog_59_method_5_code 83 = .ok (.ifCond .ne 22, 3) := by decide +kernel
theorem d11_86 : decode prog_59_method_5_code 86 = .ok (.aload_n 0, 1) := by decide +kernel
theorem d11_87 : decode prog_59_method_5_code 87 = .ok (.iconst 2, 1) := by decide +kernel
theorem d11_88 : decode prog_59_method_5_code 88 = .ok (.iload_n 2, 1) := by decide +kernel
theorem d11_89 : decode prog_59_method_5_code 89 = .ok (.imul, 1) := by decide +kernel
theorem d11_90 : decode prog_59_method_5_code 90 = .ok (.iconst 1, 1) := by decide +kernel
theorem d11_91 : decode prog_59_method_5_code 91 = .ok (.iadd, 1) := by decide +kernel
theorem d11_92 : decode prog_59_method_5_code 92 = .ok (.aload_n 0, 1) := by decide +kernel
theorem d11_93 : decode prog_59_method_5_code 93 = .ok (.iload 5, 2) := by decide +kernel
theorem d11_95 : decode prog_59_method_5_code 95 = .ok (.iaload, 1) := by decide +kernel
theorem d11_96 : decode prog_59_method_5_code 96 = .ok (.iastore, 1) := by decide +kernel
theorem d11_97 : decode prog_59_method_5_code 97 = .ok (.aload_n 0, 1) := by decide +kernel
theorem d11_98 : decode prog_59_method_5_code 98 = .ok (.iload 5, 2) := by decide +kernel
theorem d11_100 : decode prog_59_method_5_code 100 = .ok (.iload_n 3, 1) := by decide +kernel
theorem d11_101 : decode prog_59_method_5_code 101 = .ok (.iastore, 1) := by decide +kernel
theorem d11_102 : decode prog_59_method_5_code 102 = .ok (.goto 9, 3) := by decide +kernel
theorem d11_105 : decode prog_59_method_5_code 105 = .ok (.iinc 4 1, 3) := by decide +kernel
theorem d11_108 : decode prog_59_method_5_code 108 = .ok (.goto (-78), 3) := by decide +kernel
theorem d11_111 : decode prog_59_method_5_code 111 = .ok (.iinc 2 1, 3) := by decide +kernel
theorem d11_114 : decode prog_59_method_5_code 114 = .ok (.goto (-112), 3) := by decide +kernel
theorem d11_117 : decode prog_59_method_5_code 117 = .ok (.return_, 1) := by decide +kernel
set_option maxRecDepth 65536 in
set_option maxHeartbeats 40000000 in
theorem rm11 (l : Launch) (Z : State) (a0 : Array Value) (hw : ∀ d ∈ tables_1, d.before a0 Z = true) (ws : List Jvm.Cond) (r1 : Addr) (pr : Int32) (n mp : Nat) (zn A B : Int32) (q : Nat) (h0 : Heap) (n0 : Nat) (Z0 : n0 ≤ h0.size) (H : OwnA Z h0 r1 .int n (own_hot q A B)) (hq : q < n) (hAB : A ≠ B) (hpr : pr.toInt = (mp : Int)) (hmp1 : 1 ≤ mp) (hmp2 : mp ≤ 2) (h2m : 2 * mp ≤ n) (hn2 : n ≤ 6) (hlen : n.toInt32 = zn) (hzn : zn.toInt = (n : Int)) (gr : n0 ≤ r1) :
    MetFree l (⟨"com/example/mutatune/mutatune/engine/UniversalSampling", "separatePairs", "([II)V"⟩ : MethodName) (head1 (Jvm.Cond.code (⟨"com/example/mutatune/mutatune/engine/UniversalSampling", "separatePairs", "([II)V"⟩ : MethodName) prog_59_method_5_code 7 none :: ws) ({ frames := 0, cells := 0, slots := 0, locals := 0 } : Room)) (fun a U => a = #[(.ref r1), (.int pr)] ∧ Z.Warmed39 U.vm ∧ U.heap = h0) (fun _ _ _ _ _ => True) (fun _ U o U' => ∃ v L, o = .returned v ∧ Q11 Z r1 n mp A B h0 n0 v U'.heap L ∧ FrameEnd U o U' L ({ frames := 0, cells := 0, slots := 0, locals := 0 } : Room).cells ({ frames := 0, cells := 0, slots := 0, locals := 0 } : Room).slots) := by
  refine MetFree.of_bodySF (plainFor_of_name pn2) hisR ?_
  intro p e s m args below meth c s₁ Bd hml0 hP hK
  obtain ⟨rfl, hZ, hh⟩ := hP
  have hx := Bd.exec
  have hby := Bd.bytes
  have hml : c.maxLocals = 7 := hml0
  have hown : s.vm.findClass "com/example/mutatune/mutatune/engine/UniversalSampling" = some m.cls := findClass_of_methodNamed Bd.named
  have hnm := (name_of_methodNamed Bd.named Bd.method).1
  have X0 : Stand p l e ({ frames := 0, cells := 0, slots := 0, locals := 0 } : Room) s m #[(.ref r1), (.int pr)] below meth c s₁ [] 0 0 := Stand.of_body Bd
  have e0 : s₁.heap = h0 := by rw [← hh, Bd.state]; rfl
  have N0 := Fr.nil n0
  have pre0 : ∀ t, Steps p.tables e below (s₁.setTop (mkF m 0 #[.val (.ref r1), .val (.int pr), .unset, .unset, .unset, .unset, .unset] [])) t → Steps p.tables e below (s₁.setTop (entryFrame m #[(.ref r1), (.int pr)] 7)) t := fun t k => castTop (ef11 m r1 pr) k
  have C83 : ∀ t, Steps p.tables e below (s₁.setTop (mkF m 2 #[.val (.ref r1), .val (.int pr), .val (.int (0 : Int32)), .unset, .unset, .unset, .unset] [])) t → Steps p.tables e below (s₁.setTop (entryFrame m #[(.ref r1), (.int pr)] 7)) t := by
    intro t k
    refine pre0 t ?_
    show Steps p.tables e below (s₁.setTop (mkF m 0 #[.val (.ref r1), .val (.int pr), .unset, .unset, .unset, .unset, .unset] [])) _
    refine XS.iconst X0.here hx rfl (hb hby d11_0) ?_
    show Steps p.tables e below (s₁.setTop (mkF m 1 #[.val (.ref r1), .val (.int pr), .unset, .unset, .unset, .unset, .unset] [(.int (0 : Int32))])) _
    refine XS.istoreN X0.here hx rfl (hb hby d11_1) rfl (l' := #[.val (.ref r1), .val (.int pr), .val (.int (0 : Int32)), .unset, .unset, .unset, .unset]) rfl ?_
    exact k
  have hz0 : zn ≠ 0 := fun y => by rw [y, show (0 : Int32).toInt = 0 from rfl] at hzn; omega
  have hpr2 : ((2 : Int32) * pr).toInt = 2 * (mp : Int) := own_two_c hpr (by omega) (by omega)
  have inner : ∀ (k : Nat) (st : Int32) (sn : Nat) (P : Int32) (Pn : Nat) (s5 s6 : Slot) (q : Nat) (T : State) (lo : List Loc) (h : Heap), Stand p l e ({ frames := 0, cells := 0, slots := 0, locals := 0 } : Room) s m #[(.ref r1), (.int pr)] below meth c T lo 0 0 → T.heap = h → Fr n0 lo → Keep h0 h [r1] → OwnA Z h r1 .int n (own_hot q A B) → q < n → One s5 → One s6 → P.toInt = (Pn : Int) → Pn < mp → st.toInt = (sn : Int) → sn + k = n → 2 ≤ sn → q ≠ 2 * Pn → q ≠ 2 * Pn + 1 → (q < 2 * mp ∨ ∀ j, 2 ≤ j → j < sn → (2 * Pn + j) % n ≠ q) → ∃ (T' : State) (lo' : List Loc) (h' : Heap) (s4' s5' s6' : Slot) (q' : Nat), Stand p l e ({ frames := 0, cells := 0, slots := 0, locals := 0 } : Room) s m #[(.ref r1), (.int pr)] below meth c T' lo' 0 0 ∧ T'.heap = h' ∧ Fr n0 lo' ∧ Keep h0 h' [r1] ∧ OwnA Z h' r1 .int n (own_hot q' A B) ∧ q' < 2 * mp ∧ One s4' ∧ One s5' ∧ One s6' ∧ ∀ t, Steps p.tables e below (T'.setTop (mkF m 111 #[.val (.ref r1), .val (.int pr), .val (.int P), .val (.int B), s4', s5', s6'] [])) t → Steps p.tables e below (T.setTop (mkF m 30 #[.val (.ref r1), .val (.int pr), .val (.int P), .val (.int B), .val (.int st), s5, s6] [])) t := by
    intro k
    induction k with
    | zero =>
      intro st sn P Pn s5 s6 q T lo h XX eT NN KK HH hq O5 O6 hP hPm hst hsk h2 hq0 hq1 hinv
      obtain ⟨c84, A84, S84, V84⟩ := id HH
      have hq2 : q < 2 * mp := by
        rcases hinv with y | y
        · exact y
        · by_cases g : q < 2 * Pn
          · omega
          · exfalso
            refine y (q - 2 * Pn) (by omega) (by omega) ?_
            rw [show 2 * Pn + (q - 2 * Pn) = q by omega]
            exact Nat.mod_eq_of_lt hq
      refine ⟨T, lo, h, .val (.int st), s5, s6, q, XX, eT, NN, KK, HH, hq2, (Or.inr ⟨_, rfl, rfl⟩), O5, O6, ?_⟩
      intro t kk
      show Steps p.tables e below (T.setTop (mkF m 30 #[.val (.ref r1), .val (.int pr), .val (.int P), .val (.int B), .val (.int st), s5, s6] [])) _
      refine XS.iload XX.here hx rfl (hb hby d11_30) rfl ?_
      show Steps p.tables e below (T.setTop (mkF m 32 #[.val (.ref r1), .val (.int pr), .val (.int P), .val (.int B), .val (.int st), s5, s6] [(.int st)])) _
      refine XS.aloadN XX.here hx rfl (hb hby d11_32) rfl rfl ?_
      show Steps p.tables e below (T.setTop (mkF m 33 #[.val (.ref r1), .val (.int pr), .val (.int P), .val (.int B), .val (.int st), s5, s6] [(.ref r1), (.int st)])) _
      refine XX.arraylength hx (by rw [eT]; exact A84.1) (State.isArrayOf_alike hZ.alike A84.2.1) (g := (mkF m 33 #[.val (.ref r1), .val (.int pr), .val (.int P), .val (.int B), .val (.int st), s5, s6] [(.ref r1), (.int st)])) rfl rfl (hb hby d11_33) _ ?_
      rw [S84, hlen]
      show Steps p.tables e below (T.setTop (mkF m 34 #[.val (.ref r1), .val (.int pr), .val (.int P), .val (.int B), .val (.int st), s5, s6] [(.int zn), (.int st)])) _
      refine XS.icmpYes XX.here hx rfl (pc0 := 34) (pc' := 111) rfl (hb hby d11_34) rfl (XT.ii_ge_t (fun y => by rw [own_lt32, hst, hzn] at y; omega)) (by decide) (by decide) ?_
      exact kk
    | succ k ih =>
      intro st sn P Pn s5 s6 q T lo h XX eT NN KK HH hq O5 O6 hP hPm hst hsk h2 hq0 hq1 hinv
      have ID : ∀ t, Steps p.tables e below (T.setTop (mkF m 30 #[.val (.ref r1), .val (.int pr), .val (.int P), .val (.int B), .val (.int st), s5, s6] [])) t → Steps p.tables e below (T.setTop (mkF m 30 #[.val (.ref r1), .val (.int pr), .val (.int P), .val (.int B), .val (.int st), s5, s6] [])) t := fun t kk => kk
      have hstz : st < zn := by rw [own_lt32, hst, hzn]; omega
      have h2P : ((2 : Int32) * P).toInt = 2 * (Pn : Int) := own_two_c hP (by omega) (by omega)
      have hsum : ((2 : Int32) * P + st).toInt = ((2 * Pn + sn : Nat) : Int) := by have y := own_add_c h2P hst (by omega) (by omega); omega
      obtain ⟨c85, A85, S85, V85⟩ := id HH
      obtain ⟨c86, A86, S86, V86⟩ := id HH
      have C87 : ∀ t, Steps p.tables e below (T.setTop (mkF m 48 #[.val (.ref r1), .val (.int pr), .val (.int P), .val (.int B), .val (.int st), .val (.int ((((2 : Int32) * P) + st) - ((((2 : Int32) * P) + st) / zn) * zn)), s6] [])) t → Steps p.tables e below (T.setTop (mkF m 30 #[.val (.ref r1), .val (.int pr), .val (.int P), .val (.int B), .val (.int st), s5, s6] [])) t := by
        intro t k
        refine ID t ?_
        show Steps p.tables e below (T.setTop (mkF m 30 #[.val (.ref r1), .val (.int pr), .val (.int P), .val (.int B), .val (.int st), s5, s6] [])) _
        refine XS.iload XX.here hx rfl (hb hby d11_30) rfl ?_
        show Steps p.tables e below (T.setTop (mkF m 32 #[.val (.ref r1), .val (.int pr), .val (.int P), .val (.int B), .val (.int st), s5, s6] [(.int st)])) _
        refine XS.aloadN XX.here hx rfl (hb hby d11_32) rfl rfl ?_
        show Steps p.tables e below (T.setTop (mkF m 33 #[.val (.ref r1), .val (.int pr), .val (.int P), .val (.int B), .val (.int st), s5, s6] [(.ref r1), (.int st)])) _
        refine XX.arraylength hx (by rw [eT]; exact A85.1) (State.isArrayOf_alike hZ.alike A85.2.1) (g := (mkF m 33 #[.val (.ref r1), .val (.int pr), .val (.int P), .val (.int B), .val (.int st), s5, s6] [(.ref r1), (.int st)])) rfl rfl (hb hby d11_33) _ ?_
        rw [S85, hlen]
        show Steps p.tables e below (T.setTop (mkF m 34 #[.val (.ref r1), .val (.int pr), .val (.int P), .val (.int B), .val (.int st), s5, s6] [(.int zn), (.int st)])) _
        refine XS.icmpNo XX.here hx rfl (hb hby d11_34) rfl (XT.ii_ge_f hstz) ?_
        show Steps p.tables e below (T.setTop (mkF m 37 #[.val (.ref r1), .val (.int pr), .val (.int P), .val (.int B), .val (.int st), s5, s6] [])) _
        refine XS.iconst XX.here hx rfl (hb hby d11_37) ?_
        show Steps p.tables e below (T.setTop (mkF m 38 #[.val (.ref r1), .val (.int pr), .val (.int P), .val (.int B), .val (.int st), s5, s6] [(.int (2 : Int32))])) _
        refine XS.iloadN XX.here hx rfl (hb hby d11_38) rfl ?_
        show Steps p.tables e below (T.setTop (mkF m 39 #[.val (.ref r1), .val (.int pr), .val (.int P), .val (.int B), .val (.int st), s5, s6] [(.int P), (.int (2 : Int32))])) _
        refine XS.imul XX.here hx rfl (hb hby d11_39) rfl ?_
        show Steps p.tables e below (T.setTop (mkF m 40 #[.val (.ref r1), .val (.int pr), .val (.int P), .val (.int B), .val (.int st), s5, s6] [(.int ((2 : Int32) * P))])) _
        refine XS.iload XX.here hx rfl (hb hby d11_40) rfl ?_
        show Steps p.tables e below (T.setTop (mkF m 42 #[.val (.ref r1), .val (.int pr), .val (.int P), .val (.int B), .val (.int st), s5, s6] [(.int st), (.int ((2 : Int32) * P))])) _
        refine XS.iadd XX.here hx rfl (hb hby d11_42) rfl ?_
        show Steps p.tables e below (T.setTop (mkF m 43 #[.val (.ref r1), .val (.int pr), .val (.int P), .val (.int B), .val (.int st), s5, s6] [(.int (((2 : Int32) * P) + st))])) _
        refine XS.aloadN XX.here hx rfl (hb hby d11_43) rfl rfl ?_
        show Steps p.tables e below (T.setTop (mkF m 44 #[.val (.ref r1), .val (.int pr), .val (.int P), .val (.int B), .val (.int st), s5, s6] [(.ref r1), (.int (((2 : Int32) * P) + st))])) _
        refine XX.arraylength hx (by rw [eT]; exact A86.1) (State.isArrayOf_alike hZ.alike A86.2.1) (g := (mkF m 44 #[.val (.ref r1), .val (.int pr), .val (.int P), .val (.int B), .val (.int st), s5, s6] [(.ref r1), (.int (((2 : Int32) * P) + st))])) rfl rfl (hb hby d11_44) _ ?_
        rw [S86, hlen]
        show Steps p.tables e below (T.setTop (mkF m 45 #[.val (.ref r1), .val (.int pr), .val (.int P), .val (.int B), .val (.int st), s5, s6] [(.int zn), (.int (((2 : Int32) * P) + st))])) _
        refine XS.irem XX.here hx rfl (hb hby d11_45) rfl hz0 ?_
        show Steps p.tables e below (T.setTop (mkF m 46 #[.val (.ref r1), .val (.int pr), .val (.int P), .val (.int B), .val (.int st), s5, s6] [(.int ((((2 : Int32) * P) + st) - ((((2 : Int32) * P) + st) / zn) * zn))])) _
        refine XS.istore XX.here hx rfl (hb hby d11_46) rfl (l' := #[.val (.ref r1), .val (.int pr), .val (.int P), .val (.int B), .val (.int st), .val (.int ((((2 : Int32) * P) + st) - ((((2 : Int32) * P) + st) / zn) * zn)), s6]) (XS.store1 rfl O5 rfl) ?_
        exact k
      obtain ⟨oi, h_oi⟩ : ∃ z : Int32, z = ((((2 : Int32) * P) + st) - ((((2 : Int32) * P) + st) / zn) * zn) := ⟨_, rfl⟩
      rw [← h_oi] at C87
      have hoi : oi.toInt = (((2 * Pn + sn) % n : Nat) : Int) := by rw [h_oi]; exact own_rem_c hsum hzn
      obtain ⟨on, hon⟩ : ∃ y, y = (2 * Pn + sn) % n := ⟨_, rfl⟩
      rw [← hon] at hoi
      have honl : on < n := by rw [hon]; exact Nat.mod_lt _ (by omega)
      have hO : ¬ oi < 0 ∧ oi.toNatClampNeg < n := own_idx hoi honl
      have C88 : ∀ t, Steps p.tables e below (T.setTop (mkF m 53 #[.val (.ref r1), .val (.int pr), .val (.int P), .val (.int B), .val (.int st), .val (.int oi), s6] [(.int ((2 : Int32) * pr)), (.int oi)])) t → Steps p.tables e below (T.setTop (mkF m 30 #[.val (.ref r1), .val (.int pr), .val (.int P), .val (.int B), .val (.int st), s5, s6] [])) t := by
        intro t k
        refine C87 t ?_
        show Steps p.tables e below (T.setTop (mkF m 48 #[.val (.ref r1), .val (.int pr), .val (.int P), .val (.int B), .val (.int st), .val (.int oi), s6] [])) _
        refine XS.iload XX.here hx rfl (hb hby d11_48) rfl ?_
        show Steps p.tables e below (T.setTop (mkF m 50 #[.val (.ref r1), .val (.int pr), .val (.int P), .val (.int B), .val (.int st), .val (.int oi), s6] [(.int oi)])) _
        refine XS.iconst XX.here hx rfl (hb hby d11_50) ?_
        show Steps p.tables e below (T.setTop (mkF m 51 #[.val (.ref r1), .val (.int pr), .val (.int P), .val (.int B), .val (.int st), .val (.int oi), s6] [(.int (2 : Int32)), (.int oi)])) _
        refine XS.iloadN XX.here hx rfl (hb hby d11_51) rfl ?_
        show Steps p.tables e below (T.setTop (mkF m 52 #[.val (.ref r1), .val (.int pr), .val (.int P), .val (.int B), .val (.int st), .val (.int oi), s6] [(.int pr), (.int (2 : Int32)), (.int oi)])) _
        refine XS.imul XX.here hx rfl (hb hby d11_52) rfl ?_
        exact k
      obtain ⟨pb, hpb, C71⟩ : ∃ pb : Int32, (pb ≠ 0 → on < 2 * mp) ∧ ∀ t, Steps p.tables e below (T.setTop (mkF m 71 #[.val (.ref r1), .val (.int pr), .val (.int P), .val (.int B), .val (.int st), .val (.int oi), s6] [(.int pb)])) t → Steps p.tables e below (T.setTop (mkF m 30 #[.val (.ref r1), .val (.int pr), .val (.int P), .val (.int B), .val (.int st), s5, s6] [])) t := by
        by_cases hge : oi < (2 : Int32) * pr
        · have hlt2 : on < 2 * mp := by rw [own_lt32, hoi, hpr2] at hge; omega
          have hX : ¬ (oi ^^^ (1 : Int32)) < 0 ∧ (oi ^^^ (1 : Int32)).toNatClampNeg < n := own_xor1 hoi hlt2 hmp2 h2m
          obtain ⟨xb, hxb⟩ : ∃ y : Int32, y = (if (oi ^^^ (1 : Int32)).toNatClampNeg = q then A else B) := ⟨_, rfl⟩
          obtain ⟨c89, A89, S89, V89⟩ := id HH
          have C90 : ∀ t, Steps p.tables e below (T.setTop (mkF m 63 #[.val (.ref r1), .val (.int pr), .val (.int P), .val (.int B), .val (.int st), .val (.int oi), s6] [(.int B), (.int xb)])) t → Steps p.tables e below (T.setTop (mkF m 30 #[.val (.ref r1), .val (.int pr), .val (.int P), .val (.int B), .val (.int st), s5, s6] [])) t := by
            intro t k
            refine C88 t ?_
            show Steps p.tables e below (T.setTop (mkF m 53 #[.val (.ref r1), .val (.int pr), .val (.int P), .val (.int B), .val (.int st), .val (.int oi), s6] [(.int ((2 : Int32) * pr)), (.int oi)])) _
            refine XS.icmpNo XX.here hx rfl (hb hby d11_53) rfl (XT.ii_ge_f hge) ?_
            show Steps p.tables e below (T.setTop (mkF m 56 #[.val (.ref r1), .val (.int pr), .val (.int P), .val (.int B), .val (.int st), .val (.int oi), s6] [])) _
            refine XS.aloadN XX.here hx rfl (hb hby d11_56) rfl rfl ?_
            show Steps p.tables e below (T.setTop (mkF m 57 #[.val (.ref r1), .val (.int pr), .val (.int P), .val (.int B), .val (.int st), .val (.int oi), s6] [(.ref r1)])) _
            refine XS.iload XX.here hx rfl (hb hby d11_57) rfl ?_
            show Steps p.tables e below (T.setTop (mkF m 59 #[.val (.ref r1), .val (.int pr), .val (.int P), .val (.int B), .val (.int st), .val (.int oi), s6] [(.int oi), (.ref r1)])) _
            refine XS.iconst XX.here hx rfl (hb hby d11_59) ?_
            show Steps p.tables e below (T.setTop (mkF m 60 #[.val (.ref r1), .val (.int pr), .val (.int P), .val (.int B), .val (.int st), .val (.int oi), s6] [(.int (1 : Int32)), (.int oi), (.ref r1)])) _
            refine XS.ixor XX.here hx rfl (hb hby d11_60) rfl ?_
            show Steps p.tables e below (T.setTop (mkF m 61 #[.val (.ref r1), .val (.int pr), .val (.int P), .val (.int B), .val (.int st), .val (.int oi), s6] [(.int (oi ^^^ (1 : Int32))), (.ref r1)])) _
            refine XX.iaload hx (j := (oi ^^^ (1 : Int32))) (v := (.int xb)) (by rw [eT]; exact A89.1) (State.isArrayOf_alike hZ.alike A89.2.1) A89.2.2 (own_in hX S89) ((by rw [hxb]; exact V89 _ hX.2)) (g := (mkF m 61 #[.val (.ref r1), .val (.int pr), .val (.int P), .val (.int B), .val (.int st), .val (.int oi), s6] [(.int (oi ^^^ (1 : Int32))), (.ref r1)])) rfl rfl (hb hby d11_61) _ ?_
            show Steps p.tables e below (T.setTop (mkF m 62 #[.val (.ref r1), .val (.int pr), .val (.int P), .val (.int B), .val (.int st), .val (.int oi), s6] [(.int xb)])) _
            refine XS.iloadN XX.here hx rfl (hb hby d11_62) rfl ?_
            exact k
          by_cases hxB : xb = B
          · refine ⟨1, fun _ => hlt2, ?_⟩
            intro t k
            refine C90 t ?_
            show Steps p.tables e below (T.setTop (mkF m 63 #[.val (.ref r1), .val (.int pr), .val (.int P), .val (.int B), .val (.int st), .val (.int oi), s6] [(.int B), (.int xb)])) _
            refine XS.icmpNo XX.here hx rfl (hb hby d11_63) rfl (XT.ii_ne_f hxB) ?_
            show Steps p.tables e below (T.setTop (mkF m 66 #[.val (.ref r1), .val (.int pr), .val (.int P), .val (.int B), .val (.int st), .val (.int oi), s6] [])) _
            refine XS.iconst XX.here hx rfl (hb hby d11_66) ?_
            show Steps p.tables e below (T.setTop (mkF m 67 #[.val (.ref r1), .val (.int pr), .val (.int P), .val (.int B), .val (.int st), .val (.int oi), s6] [(.int (1 : Int32))])) _
            refine XS.goto XX.here hx rfl (pc0 := 67) (pc' := 71) rfl (hb hby d11_67) (by decide) (by decide) ?_
            exact k
          · refine ⟨0, fun y => absurd rfl y, ?_⟩
            intro t k
            refine C90 t ?_
            show Steps p.tables e below (T.setTop (mkF m 63 #[.val (.ref r1), .val (.int pr), .val (.int P), .val (.int B), .val (.int st), .val (.int oi), s6] [(.int B), (.int xb)])) _
            refine XS.icmpYes XX.here hx rfl (pc0 := 63) (pc' := 70) rfl (hb hby d11_63) rfl (XT.ii_ne_t hxB) (by decide) (by decide) ?_
            show Steps p.tables e below (T.setTop (mkF m 70 #[.val (.ref r1), .val (.int pr), .val (.int P), .val (.int B), .val (.int st), .val (.int oi), s6] [])) _
            refine XS.iconst XX.here hx rfl (hb hby d11_70) ?_
            exact k
        · refine ⟨0, fun y => absurd rfl y, ?_⟩
          intro t k
          refine C88 t ?_
          show Steps p.tables e below (T.setTop (mkF m 53 #[.val (.ref r1), .val (.int pr), .val (.int P), .val (.int B), .val (.int st), .val (.int oi), s6] [(.int ((2 : Int32) * pr)), (.int oi)])) _
          refine XS.icmpYes XX.here hx rfl (pc0 := 53) (pc' := 70) rfl (hb hby d11_53) rfl (XT.ii_ge_t hge) (by decide) (by decide) ?_
          show Steps p.tables e below (T.setTop (mkF m 70 #[.val (.ref r1), .val (.int pr), .val (.int P), .val (.int B), .val (.int st), .val (.int oi), s6] [])) _
          refine XS.iconst XX.here hx rfl (hb hby d11_70) ?_
          exact k
      obtain ⟨xo, hxo⟩ : ∃ y : Int32, y = (if oi.toNatClampNeg = q then A else B) := ⟨_, rfl⟩
      obtain ⟨c91, A91, S91, V91⟩ := id HH
      have C92 : ∀ t, Steps p.tables e below (T.setTop (mkF m 78 #[.val (.ref r1), .val (.int pr), .val (.int P), .val (.int B), .val (.int st), .val (.int oi), .val (.int pb)] [(.int B), (.int xo)])) t → Steps p.tables e below (T.setTop (mkF m 30 #[.val (.ref r1), .val (.int pr), .val (.int P), .val (.int B), .val (.int st), s5, s6] [])) t := by
        intro t k
        refine C71 t ?_
        show Steps p.tables e below (T.setTop (mkF m 71 #[.val (.ref r1), .val (.int pr), .val (.int P), .val (.int B), .val (.int st), .val (.int oi), s6] [(.int pb)])) _
        refine XS.istore XX.here hx rfl (hb hby d11_71) rfl (l' := #[.val (.ref r1), .val (.int pr), .val (.int P), .val (.int B), .val (.int st), .val (.int oi), .val (.int pb)]) (XS.store1 rfl O6 rfl) ?_
        show Steps p.tables e below (T.setTop (mkF m 73 #[.val (.ref r1), .val (.int pr), .val (.int P), .val (.int B), .val (.int st), .val (.int oi), .val (.int pb)] [])) _
        refine XS.aloadN XX.here hx rfl (hb hby d11_73) rfl rfl ?_
        show Steps p.tables e below (T.setTop (mkF m 74 #[.val (.ref r1), .val (.int pr), .val (.int P), .val (.int B), .val (.int st), .val (.int oi), .val (.int pb)] [(.ref r1)])) _
        refine XS.iload XX.here hx rfl (hb hby d11_74) rfl ?_
        show Steps p.tables e below (T.setTop (mkF m 76 #[.val (.ref r1), .val (.int pr), .val (.int P), .val (.int B), .val (.int st), .val (.int oi), .val (.int pb)] [(.int oi), (.ref r1)])) _
        refine XX.iaload hx (j := oi) (v := (.int xo)) (by rw [eT]; exact A91.1) (State.isArrayOf_alike hZ.alike A91.2.1) A91.2.2 (own_in hO S91) ((by rw [hxo]; exact V91 _ hO.2)) (g := (mkF m 76 #[.val (.ref r1), .val (.int pr), .val (.int P), .val (.int B), .val (.int st), .val (.int oi), .val (.int pb)] [(.int oi), (.ref r1)])) rfl rfl (hb hby d11_76) _ ?_
        show Steps p.tables e below (T.setTop (mkF m 77 #[.val (.ref r1), .val (.int pr), .val (.int P), .val (.int B), .val (.int st), .val (.int oi), .val (.int pb)] [(.int xo)])) _
        refine XS.iloadN XX.here hx rfl (hb hby d11_77) rfl ?_
        exact k
      rw [own_cl hoi] at hxo
      have again : (q < 2 * mp ∨ ∀ j, 2 ≤ j → j < sn + 1 → (2 * Pn + j) % n ≠ q) → (∀ t, Steps p.tables e below (T.setTop (mkF m 30 #[.val (.ref r1), .val (.int pr), .val (.int P), .val (.int B), .val (.int (st + (1 : Int32))), .val (.int oi), .val (.int pb)] [])) t → Steps p.tables e below (T.setTop (mkF m 30 #[.val (.ref r1), .val (.int pr), .val (.int P), .val (.int B), .val (.int st), s5, s6] [])) t) → ∃ (T' : State) (lo' : List Loc) (h' : Heap) (s4' s5' s6' : Slot) (q' : Nat), Stand p l e ({ frames := 0, cells := 0, slots := 0, locals := 0 } : Room) s m #[(.ref r1), (.int pr)] below meth c T' lo' 0 0 ∧ T'.heap = h' ∧ Fr n0 lo' ∧ Keep h0 h' [r1] ∧ OwnA Z h' r1 .int n (own_hot q' A B) ∧ q' < 2 * mp ∧ One s4' ∧ One s5' ∧ One s6' ∧ ∀ t, Steps p.tables e below (T'.setTop (mkF m 111 #[.val (.ref r1), .val (.int pr), .val (.int P), .val (.int B), s4', s5', s6'] [])) t → Steps p.tables e below (T.setTop (mkF m 30 #[.val (.ref r1), .val (.int pr), .val (.int P), .val (.int B), .val (.int st), s5, s6] [])) t := by
        intro hin CC
        have hs1 : (st + (1 : Int32)).toInt = ((sn + 1 : Nat) : Int) := by have y := own_add_c hst (show (1 : Int32).toInt = 1 from rfl) (by omega) (by omega); omega
        obtain ⟨T', lo', h', s4', s5', s6', q', Y1, Y2, Y3, Y4, Y5, Y6, Y7, Y8, Y9, Y10⟩ := ih (st + (1 : Int32)) (sn + 1) P Pn (.val (.int oi)) (.val (.int pb)) q T lo h XX eT NN KK HH hq (Or.inr ⟨_, rfl, rfl⟩) (Or.inr ⟨_, rfl, rfl⟩) hP hPm hs1 (by omega) (by omega) hq0 hq1 hin
        exact ⟨T', lo', h', s4', s5', s6', q', Y1, Y2, Y3, Y4, Y5, Y6, Y7, Y8, Y9, fun t kk => CC t (Y10 t kk)⟩
      by_cases hxB : xo = B
      · have C93 : ∀ t, Steps p.tables e below (T.setTop (mkF m 30 #[.val (.ref r1), .val (.int pr), .val (.int P), .val (.int B), .val (.int (st + (1 : Int32))), .val (.int oi), .val (.int pb)] [])) t → Steps p.tables e below (T.setTop (mkF m 30 #[.val (.ref r1), .val (.int pr), .val (.int P), .val (.int B), .val (.int st), s5, s6] [])) t := by
          intro t k
          refine C92 t ?_
          show Steps p.tables e below (T.setTop (mkF m 78 #[.val (.ref r1), .val (.int pr), .val (.int P), .val (.int B), .val (.int st), .val (.int oi), .val (.int pb)] [(.int B), (.int xo)])) _
          refine XS.icmpYes XX.here hx rfl (pc0 := 78) (pc' := 105) rfl (hb hby d11_78) rfl (XT.ii_eq_t hxB) (by decide) (by decide) ?_
          show Steps p.tables e below (T.setTop (mkF m 105 #[.val (.ref r1), .val (.int pr), .val (.int P), .val (.int B), .val (.int st), .val (.int oi), .val (.int pb)] [])) _
          refine XS.iinc XX.here hx rfl (hb hby d11_105) rfl (l' := #[.val (.ref r1), .val (.int pr), .val (.int P), .val (.int B), .val (.int (st + (1 : Int32))), .val (.int oi), .val (.int pb)]) rfl ?_
          show Steps p.tables e below (T.setTop (mkF m 108 #[.val (.ref r1), .val (.int pr), .val (.int P), .val (.int B), .val (.int (st + (1 : Int32))), .val (.int oi), .val (.int pb)] [])) _
          refine XS.goto XX.here hx rfl (pc0 := 108) (pc' := 30) rfl (hb hby d11_108) (by decide) (by decide) ?_
          exact k
        refine again ?_ C93
        rcases hinv with y | y
        · exact Or.inl y
        · refine Or.inr fun j j1 j2 g => ?_
          by_cases jj : j = sn
          · rw [jj, ← hon] at g
            rw [g, if_pos rfl] at hxo
            exact hAB (hxo.symm.trans hxB)
          · exact y j j1 (by omega) g
      · have hop : on = q := by
          by_cases g : on = q
          · exact g
          · rw [if_neg g] at hxo; exact absurd hxo hxB
        have C94 : ∀ t, Steps p.tables e below (T.setTop (mkF m 83 #[.val (.ref r1), .val (.int pr), .val (.int P), .val (.int B), .val (.int st), .val (.int oi), .val (.int pb)] [(.int pb)])) t → Steps p.tables e below (T.setTop (mkF m 30 #[.val (.ref r1), .val (.int pr), .val (.int P), .val (.int B), .val (.int st), s5, s6] [])) t := by
          intro t k
          refine C92 t ?_
          show Steps p.tables e below (T.setTop (mkF m 78 #[.val (.ref r1), .val (.int pr), .val (.int P), .val (.int B), .val (.int st), .val (.int oi), .val (.int pb)] [(.int B), (.int xo)])) _
          refine XS.icmpNo XX.here hx rfl (hb hby d11_78) rfl (XT.ii_eq_f hxB) ?_
          show Steps p.tables e below (T.setTop (mkF m 81 #[.val (.ref r1), .val (.int pr), .val (.int P), .val (.int B), .val (.int st), .val (.int oi), .val (.int pb)] [])) _
          refine XS.iload XX.here hx rfl (hb hby d11_81) rfl ?_
          exact k
        by_cases hz : pb = 0
        · have h1P : ((2 : Int32) * P + (1 : Int32)).toInt = ((2 * Pn + 1 : Nat) : Int) := by have y := own_add_c h2P (show (1 : Int32).toInt = 1 from rfl) (by omega) (by omega); omega
          have hE : ¬ ((2 : Int32) * P + (1 : Int32)) < 0 ∧ ((2 : Int32) * P + (1 : Int32)).toNatClampNeg < n := own_idx h1P (by omega)
          obtain ⟨c95, A95, S95, V95⟩ := id HH
          have C96 : ∀ t, Steps p.tables e below (T.setTop (mkF m 96 #[.val (.ref r1), .val (.int pr), .val (.int P), .val (.int B), .val (.int st), .val (.int oi), .val (.int pb)] [(.int xo), (.int (((2 : Int32) * P) + (1 : Int32))), (.ref r1)])) t → Steps p.tables e below (T.setTop (mkF m 30 #[.val (.ref r1), .val (.int pr), .val (.int P), .val (.int B), .val (.int st), s5, s6] [])) t := by
            intro t k
            refine C94 t ?_
            show Steps p.tables e below (T.setTop (mkF m 83 #[.val (.ref r1), .val (.int pr), .val (.int P), .val (.int B), .val (.int st), .val (.int oi), .val (.int pb)] [(.int pb)])) _
            refine XS.ifNo XX.here hx rfl (hb hby d11_83) rfl (XT.i0_ne_f hz) ?_
            show Steps p.tables e below (T.setTop (mkF m 86 #[.val (.ref r1), .val (.int pr), .val (.int P), .val (.int B), .val (.int st), .val (.int oi), .val (.int pb)] [])) _
            refine XS.aloadN XX.here hx rfl (hb hby d11_86) rfl rfl ?_
            show Steps p.tables e below (T.setTop (mkF m 87 #[.val (.ref r1), .val (.int pr), .val (.int P), .val (.int B), .val (.int st), .val (.int oi), .val (.int pb)] [(.ref r1)])) _
            refine XS.iconst XX.here hx rfl (hb hby d11_87) ?_
            show Steps p.tables e below (T.setTop (mkF m 88 #[.val (.ref r1), .val (.int pr), .val (.int P), .val (.int B), .val (.int st), .val (.int oi), .val (.int pb)] [(.int (2 : Int32)), (.ref r1)])) _
            refine XS.iloadN XX.here hx rfl (hb hby d11_88) rfl ?_
            show Steps p.tables e below (T.setTop (mkF m 89 #[.val (.ref r1), .val (.int pr), .val (.int P), .val (.int B), .val (.int st), .val (.int oi), .val (.int pb)] [(.int P), (.int (2 : Int32)), (.ref r1)])) _
            refine XS.imul XX.here hx rfl (hb hby d11_89) rfl ?_
            show Steps p.tables e below (T.setTop (mkF m 90 #[.val (.ref r1), .val (.int pr), .val (.int P), .val (.int B), .val (.int st), .val (.int oi), .val (.int pb)] [(.int ((2 : Int32) * P)), (.ref r1)])) _
            refine XS.iconst XX.here hx rfl (hb hby d11_90) ?_
            show Steps p.tables e below (T.setTop (mkF m 91 #[.val (.ref r1), .val (.int pr), .val (.int P), .val (.int B), .val (.int st), .val (.int oi), .val (.int pb)] [(.int (1 : Int32)), (.int ((2 : Int32) * P)), (.ref r1)])) _
            refine XS.iadd XX.here hx rfl (hb hby d11_91) rfl ?_
            show Steps p.tables e below (T.setTop (mkF m 92 #[.val (.ref r1), .val (.int pr), .val (.int P), .val (.int B), .val (.int st), .val (.int oi), .val (.int pb)] [(.int (((2 : Int32) * P) + (1 : Int32))), (.ref r1)])) _
            refine XS.aloadN XX.here hx rfl (hb hby d11_92) rfl rfl ?_
            show Steps p.tables e below (T.setTop (mkF m 93 #[.val (.ref r1), .val (.int pr), .val (.int P), .val (.int B), .val (.int st), .val (.int oi), .val (.int pb)] [(.ref r1), (.int (((2 : Int32) * P) + (1 : Int32))), (.ref r1)])) _
            refine XS.iload XX.here hx rfl (hb hby d11_93) rfl ?_
            show Steps p.tables e below (T.setTop (mkF m 95 #[.val (.ref r1), .val (.int pr), .val (.int P), .val (.int B), .val (.int st), .val (.int oi), .val (.int pb)] [(.int oi), (.ref r1), (.int (((2 : Int32) * P) + (1 : Int32))), (.ref r1)])) _
            refine XX.iaload hx (j := oi) (v := (.int xo)) (by rw [eT]; exact A95.1) (State.isArrayOf_alike hZ.alike A95.2.1) A95.2.2 (own_in hO S95) ((by rw [hxo, ← own_cl hoi]; exact V95 _ hO.2)) (g := (mkF m 95 #[.val (.ref r1), .val (.int pr), .val (.int P), .val (.int B), .val (.int st), .val (.int oi), .val (.int pb)] [(.int oi), (.ref r1), (.int (((2 : Int32) * P) + (1 : Int32))), (.ref r1)])) rfl rfl (hb hby d11_95) _ ?_
            exact k
          obtain ⟨c97, A97, S97, V97⟩ := id HH
          obtain ⟨T97, h97, X97, e97, W97, st97⟩ := stI XX hx hZ eT A97 (j := (((2 : Int32) * P) + (1 : Int32))) (own_in hE S97) (g := (mkF m 96 #[.val (.ref r1), .val (.int pr), .val (.int P), .val (.int B), .val (.int st), .val (.int oi), .val (.int pb)] [(.int xo), (.int (((2 : Int32) * P) + (1 : Int32))), (.ref r1)])) rfl rfl (hb hby d11_96)
          have N97 := Fr.snoc X97 NN gr
          have C97 : ∀ t, Steps p.tables e below (T97.setTop (mkF m 97 #[.val (.ref r1), .val (.int pr), .val (.int P), .val (.int B), .val (.int st), .val (.int oi), .val (.int pb)] [])) t → Steps p.tables e below (T.setTop (mkF m 30 #[.val (.ref r1), .val (.int pr), .val (.int P), .val (.int B), .val (.int st), s5, s6] [])) t := fun t k => C96 t (st97 t k)
          have H2 := HH.set W97
          have C98 : ∀ t, Steps p.tables e below (T97.setTop (mkF m 101 #[.val (.ref r1), .val (.int pr), .val (.int P), .val (.int B), .val (.int st), .val (.int oi), .val (.int pb)] [(.int B), (.int oi), (.ref r1)])) t → Steps p.tables e below (T.setTop (mkF m 30 #[.val (.ref r1), .val (.int pr), .val (.int P), .val (.int B), .val (.int st), s5, s6] [])) t := by
            intro t k
            refine C97 t ?_
            show Steps p.tables e below (T97.setTop (mkF m 97 #[.val (.ref r1), .val (.int pr), .val (.int P), .val (.int B), .val (.int st), .val (.int oi), .val (.int pb)] [])) _
            refine XS.aloadN X97.here hx rfl (hb hby d11_97) rfl rfl ?_
            show Steps p.tables e below (T97.setTop (mkF m 98 #[.val (.ref r1), .val (.int pr), .val (.int P), .val (.int B), .val (.int st), .val (.int oi), .val (.int pb)] [(.ref r1)])) _
            refine XS.iload X97.here hx rfl (hb hby d11_98) rfl ?_
            show Steps p.tables e below (T97.setTop (mkF m 100 #[.val (.ref r1), .val (.int pr), .val (.int P), .val (.int B), .val (.int st), .val (.int oi), .val (.int pb)] [(.int oi), (.ref r1)])) _
            refine XS.iloadN X97.here hx rfl (hb hby d11_100) rfl ?_
            exact k
          obtain ⟨c99, A99, S99, V99⟩ := id H2
          obtain ⟨T99, h99, X99, e99, W99, st99⟩ := stI X97 hx hZ e97 A99 (j := oi) (own_in hO S99) (g := (mkF m 101 #[.val (.ref r1), .val (.int pr), .val (.int P), .val (.int B), .val (.int st), .val (.int oi), .val (.int pb)] [(.int B), (.int oi), (.ref r1)])) rfl rfl (hb hby d11_101)
          have N99 := Fr.snoc X99 N97 gr
          have C99 : ∀ t, Steps p.tables e below (T99.setTop (mkF m 102 #[.val (.ref r1), .val (.int pr), .val (.int P), .val (.int B), .val (.int st), .val (.int oi), .val (.int pb)] [])) t → Steps p.tables e below (T.setTop (mkF m 30 #[.val (.ref r1), .val (.int pr), .val (.int P), .val (.int B), .val (.int st), s5, s6] [])) t := fun t k => C98 t (st99 t k)
          have C100 : ∀ t, Steps p.tables e below (T99.setTop (mkF m 111 #[.val (.ref r1), .val (.int pr), .val (.int P), .val (.int B), .val (.int st), .val (.int oi), .val (.int pb)] [])) t → Steps p.tables e below (T.setTop (mkF m 30 #[.val (.ref r1), .val (.int pr), .val (.int P), .val (.int B), .val (.int st), s5, s6] [])) t := by
            intro t k
            refine C99 t ?_
            show Steps p.tables e below (T99.setTop (mkF m 102 #[.val (.ref r1), .val (.int pr), .val (.int P), .val (.int B), .val (.int st), .val (.int oi), .val (.int pb)] [])) _
            refine XS.goto X99.here hx rfl (pc0 := 102) (pc' := 111) rfl (hb hby d11_102) (by decide) (by decide) ?_
            exact k
          have H3 : OwnA Z h99 r1 .int n (own_hot (2 * Pn + 1) A B) := (H2.set W99).congr (fun k hk => by
            rw [own_cl hoi, own_cl h1P, hop]
            rw [hop, if_pos rfl] at hxo
            rw [hxo]
            exact own_moved (by omega) k)
          exact ⟨T99, _, h99, .val (.int st), .val (.int oi), .val (.int pb), 2 * Pn + 1, X99, e99, N99, (KK.wr W97 (Or.inl (List.mem_of_getElem? (i := 0) rfl))).wr W99 (Or.inl (List.mem_of_getElem? (i := 0) rfl)), H3, by omega, (Or.inr ⟨_, rfl, rfl⟩), (Or.inr ⟨_, rfl, rfl⟩), (Or.inr ⟨_, rfl, rfl⟩), C100⟩
        · have C101 : ∀ t, Steps p.tables e below (T.setTop (mkF m 30 #[.val (.ref r1), .val (.int pr), .val (.int P), .val (.int B), .val (.int (st + (1 : Int32))), .val (.int oi), .val (.int pb)] [])) t → Steps p.tables e below (T.setTop (mkF m 30 #[.val (.ref r1), .val (.int pr), .val (.int P), .val (.int B), .val (.int st), s5, s6] [])) t := by
            intro t k
            refine C94 t ?_
            show Steps p.tables e below (T.setTop (mkF m 83 #[.val (.ref r1), .val (.int pr), .val (.int P), .val (.int B), .val (.int st), .val (.int oi), .val (.int pb)] [(.int pb)])) _
            refine XS.ifYes XX.here hx rfl (pc0 := 83) (pc' := 105) rfl (hb hby d11_83) rfl (XT.i0_ne_t hz) (by decide) (by decide) ?_
            show Steps p.tables e below (T.setTop (mkF m 105 #[.val (.ref r1), .val (.int pr), .val (.int P), .val (.int B), .val (.int st), .val (.int oi), .val (.int pb)] [])) _
            refine XS.iinc XX.here hx rfl (hb hby d11_105) rfl (l' := #[.val (.ref r1), .val (.int pr), .val (.int P), .val (.int B), .val (.int (st + (1 : Int32))), .val (.int oi), .val (.int pb)]) rfl ?_
            show Steps p.tables e below (T.setTop (mkF m 108 #[.val (.ref r1), .val (.int pr), .val (.int P), .val (.int B), .val (.int (st + (1 : Int32))), .val (.int oi), .val (.int pb)] [])) _
            refine XS.goto XX.here hx rfl (pc0 := 108) (pc' := 30) rfl (hb hby d11_108) (by decide) (by decide) ?_
            exact k
          exact again (Or.inl (by have y := hpb hz; omega)) C101
  have outer : ∀ (P : Int32) (Pn : Nat) (s3 s4 s5 s6 : Slot) (q : Nat) (T : State) (lo : List Loc) (h : Heap), Stand p l e ({ frames := 0, cells := 0, slots := 0, locals := 0 } : Room) s m #[(.ref r1), (.int pr)] below meth c T lo 0 0 → T.heap = h → Fr n0 lo → Keep h0 h [r1] → OwnA Z h r1 .int n (own_hot q A B) → q < n → One s3 → One s4 → One s5 → One s6 → P.toInt = (Pn : Int) → Pn < mp → ∃ (T' : State) (lo' : List Loc) (h' : Heap) (s3' s4' s5' s6' : Slot) (q' : Nat), Stand p l e ({ frames := 0, cells := 0, slots := 0, locals := 0 } : Room) s m #[(.ref r1), (.int pr)] below meth c T' lo' 0 0 ∧ T'.heap = h' ∧ Fr n0 lo' ∧ Keep h0 h' [r1] ∧ OwnA Z h' r1 .int n (own_hot q' A B) ∧ q' < 2 * mp ∧ One s3' ∧ One s4' ∧ One s5' ∧ One s6' ∧ ∀ t, Steps p.tables e below (T'.setTop (mkF m 2 #[.val (.ref r1), .val (.int pr), .val (.int (P + (1 : Int32))), s3', s4', s5', s6'] [])) t → Steps p.tables e below (T.setTop (mkF m 2 #[.val (.ref r1), .val (.int pr), .val (.int P), s3, s4, s5, s6] [])) t := by
    intro P Pn s3 s4 s5 s6 q T lo h XX eT NN KK HH hq O3 O4 O5 O6 hP hPm
    have ID : ∀ t, Steps p.tables e below (T.setTop (mkF m 2 #[.val (.ref r1), .val (.int pr), .val (.int P), s3, s4, s5, s6] [])) t → Steps p.tables e below (T.setTop (mkF m 2 #[.val (.ref r1), .val (.int pr), .val (.int P), s3, s4, s5, s6] [])) t := fun t kk => kk
    have hPp : P < pr := by rw [own_lt32, hP, hpr]; omega
    have h2P : ((2 : Int32) * P).toInt = ((2 * Pn : Nat) : Int) := by have y := own_two_c hP (by omega) (by omega); omega
    have h1P : ((2 : Int32) * P + (1 : Int32)).toInt = ((2 * Pn + 1 : Nat) : Int) := by have y := own_add_c h2P (show (1 : Int32).toInt = 1 from rfl) (by omega) (by omega); omega
    have hE0 : ¬ ((2 : Int32) * P) < 0 ∧ ((2 : Int32) * P).toNatClampNeg < n := own_idx h2P (by omega)
    have hE1 : ¬ ((2 : Int32) * P + (1 : Int32)) < 0 ∧ ((2 : Int32) * P + (1 : Int32)).toNatClampNeg < n := own_idx h1P (by omega)
    obtain ⟨y0, hy0⟩ : ∃ y : Int32, y = (if ((2 : Int32) * P).toNatClampNeg = q then A else B) := ⟨_, rfl⟩
    obtain ⟨y1, hy1⟩ : ∃ y : Int32, y = (if ((2 : Int32) * P + (1 : Int32)).toNatClampNeg = q then A else B) := ⟨_, rfl⟩
    obtain ⟨c102, A102, S102, V102⟩ := id HH
    obtain ⟨c103, A103, S103, V103⟩ := id HH
    have C104 : ∀ t, Steps p.tables e below (T.setTop (mkF m 21 #[.val (.ref r1), .val (.int pr), .val (.int P), .val (.int y0), s4, s5, s6] [(.int y0), (.int y1)])) t → Steps p.tables e below (T.setTop (mkF m 2 #[.val (.ref r1), .val (.int pr), .val (.int P), s3, s4, s5, s6] [])) t := by
      intro t k
      refine ID t ?_
      show Steps p.tables e below (T.setTop (mkF m 2 #[.val (.ref r1), .val (.int pr), .val (.int P), s3, s4, s5, s6] [])) _
      refine XS.iloadN XX.here hx rfl (hb hby d11_2) rfl ?_
      show Steps p.tables e below (T.setTop (mkF m 3 #[.val (.ref r1), .val (.int pr), .val (.int P), s3, s4, s5, s6] [(.int P)])) _
      refine XS.iloadN XX.here hx rfl (hb hby d11_3) rfl ?_
      show Steps p.tables e below (T.setTop (mkF m 4 #[.val (.ref r1), .val (.int pr), .val (.int P), s3, s4, s5, s6] [(.int pr), (.int P)])) _
      refine XS.icmpNo XX.here hx rfl (hb hby d11_4) rfl (XT.ii_ge_f hPp) ?_
      show Steps p.tables e below (T.setTop (mkF m 7 #[.val (.ref r1), .val (.int pr), .val (.int P), s3, s4, s5, s6] [])) _
      refine XS.aloadN XX.here hx rfl (hb hby d11_7) rfl rfl ?_
      show Steps p.tables e below (T.setTop (mkF m 8 #[.val (.ref r1), .val (.int pr), .val (.int P), s3, s4, s5, s6] [(.ref r1)])) _
      refine XS.iconst XX.here hx rfl (hb hby d11_8) ?_
      show Steps p.tables e below (T.setTop (mkF m 9 #[.val (.ref r1), .val (.int pr), .val (.int P), s3, s4, s5, s6] [(.int (2 : Int32)), (.ref r1)])) _
      refine XS.iloadN XX.here hx rfl (hb hby d11_9) rfl ?_
      show Steps p.tables e below (T.setTop (mkF m 10 #[.val (.ref r1), .val (.int pr), .val (.int P), s3, s4, s5, s6] [(.int P), (.int (2 : Int32)), (.ref r1)])) _
      refine XS.imul XX.here hx rfl (hb hby d11_10) rfl ?_
      show Steps p.tables e below (T.setTop (mkF m 11 #[.val (.ref r1), .val (.int pr), .val (.int P), s3, s4, s5, s6] [(.int ((2 : Int32) * P)), (.ref r1)])) _
      refine XX.iaload hx (j := ((2 : Int32) * P)) (v := (.int y0)) (by rw [eT]; exact A102.1) (State.isArrayOf_alike hZ.alike A102.2.1) A102.2.2 (own_in hE0 S102) ((by rw [hy0]; exact V102 _ hE0.2)) (g := (mkF m 11 #[.val (.ref r1), .val (.int pr), .val (.int P), s3, s4, s5, s6] [(.int ((2 : Int32) * P)), (.ref r1)])) rfl rfl (hb hby d11_11) _ ?_
      show Steps p.tables e below (T.setTop (mkF m 12 #[.val (.ref r1), .val (.int pr), .val (.int P), s3, s4, s5, s6] [(.int y0)])) _
      refine XS.istoreN XX.here hx rfl (hb hby d11_12) rfl (l' := #[.val (.ref r1), .val (.int pr), .val (.int P), .val (.int y0), s4, s5, s6]) (XS.store1 rfl O3 rfl) ?_
      show Steps p.tables e below (T.setTop (mkF m 13 #[.val (.ref r1), .val (.int pr), .val (.int P), .val (.int y0), s4, s5, s6] [])) _
      refine XS.aloadN XX.here hx rfl (hb hby d11_13) rfl rfl ?_
      show Steps p.tables e below (T.setTop (mkF m 14 #[.val (.ref r1), .val (.int pr), .val (.int P), .val (.int y0), s4, s5, s6] [(.ref r1)])) _
      refine XS.iconst XX.here hx rfl (hb hby d11_14) ?_
      show Steps p.tables e below (T.setTop (mkF m 15 #[.val (.ref r1), .val (.int pr), .val (.int P), .val (.int y0), s4, s5, s6] [(.int (2 : Int32)), (.ref r1)])) _
      refine XS.iloadN XX.here hx rfl (hb hby d11_15) rfl ?_
      show Steps p.tables e below (T.setTop (mkF m 16 #[.val (.ref r1), .val (.int pr), .val (.int P), .val (.int y0), s4, s5, s6] [(.int P), (.int (2 : Int32)), (.ref r1)])) _
      refine XS.imul XX.here hx rfl (hb hby d11_16) rfl ?_
      show Steps p.tables e below (T.setTop (mkF m 17 #[.val (.ref r1), .val (.int pr), .val (.int P), .val (.int y0), s4, s5, s6] [(.int ((2 : Int32) * P)), (.ref r1)])) _
      refine XS.iconst XX.here hx rfl (hb hby d11_17) ?_
      show Steps p.tables e below (T.setTop (mkF m 18 #[.val (.ref r1), .val (.int pr), .val (.int P), .val (.int y0), s4, s5, s6] [(.int (1 : Int32)), (.int ((2 : Int32) * P)), (.ref r1)])) _
      refine XS.iadd XX.here hx rfl (hb hby d11_18) rfl ?_
      show Steps p.tables e below (T.setTop (mkF m 19 #[.val (.ref r1), .val (.int pr), .val (.int P), .val (.int y0), s4, s5, s6] [(.int (((2 : Int32) * P) + (1 : Int32))), (.ref r1)])) _
      refine XX.iaload hx (j := (((2 : Int32) * P) + (1 : Int32))) (v := (.int y1)) (by rw [eT]; exact A103.1) (State.isArrayOf_alike hZ.alike A103.2.1) A103.2.2 (own_in hE1 S103) ((by rw [hy1]; exact V103 _ hE1.2)) (g := (mkF m 19 #[.val (.ref r1), .val (.int pr), .val (.int P), .val (.int y0), s4, s5, s6] [(.int (((2 : Int32) * P) + (1 : Int32))), (.ref r1)])) rfl rfl (hb hby d11_19) _ ?_
      show Steps p.tables e below (T.setTop (mkF m 20 #[.val (.ref r1), .val (.int pr), .val (.int P), .val (.int y0), s4, s5, s6] [(.int y1)])) _
      refine XS.iloadN XX.here hx rfl (hb hby d11_20) rfl ?_
      exact k
    rw [own_cl h2P] at hy0
    rw [own_cl h1P] at hy1
    by_cases hx1 : y1 = y0
    · have hne : q ≠ 2 * Pn ∧ q ≠ 2 * Pn + 1 ∧ y0 = B := own_pair_eq hAB hy0 hy1 hx1
      obtain ⟨hn1', hn2', hyB⟩ := hne
      have C105 : ∀ t, Steps p.tables e below (T.setTop (mkF m 30 #[.val (.ref r1), .val (.int pr), .val (.int P), .val (.int y0), .val (.int (2 : Int32)), s5, s6] [])) t → Steps p.tables e below (T.setTop (mkF m 2 #[.val (.ref r1), .val (.int pr), .val (.int P), s3, s4, s5, s6] [])) t := by
        intro t k
        refine C104 t ?_
        show Steps p.tables e below (T.setTop (mkF m 21 #[.val (.ref r1), .val (.int pr), .val (.int P), .val (.int y0), s4, s5, s6] [(.int y0), (.int y1)])) _
        refine XS.icmpYes XX.here hx rfl (pc0 := 21) (pc' := 27) rfl (hb hby d11_21) rfl (XT.ii_eq_t hx1) (by decide) (by decide) ?_
        show Steps p.tables e below (T.setTop (mkF m 27 #[.val (.ref r1), .val (.int pr), .val (.int P), .val (.int y0), s4, s5, s6] [])) _
        refine XS.iconst XX.here hx rfl (hb hby d11_27) ?_
        show Steps p.tables e below (T.setTop (mkF m 28 #[.val (.ref r1), .val (.int pr), .val (.int P), .val (.int y0), s4, s5, s6] [(.int (2 : Int32))])) _
        refine XS.istore XX.here hx rfl (hb hby d11_28) rfl (l' := #[.val (.ref r1), .val (.int pr), .val (.int P), .val (.int y0), .val (.int (2 : Int32)), s5, s6]) (XS.store1 rfl O4 rfl) ?_
        exact k
      rw [hyB] at C105
      obtain ⟨T', lo', h', s4', s5', s6', q', Y1, Y2, Y3, Y4, Y5, Y6, Y7, Y8, Y9, Y10⟩ := inner (n - 2) 2 2 P Pn s5 s6 q T lo h XX eT NN KK HH hq O5 O6 hP hPm (show (2 : Int32).toInt = ((2 : Nat) : Int) from rfl) (by omega) (by omega) hn1' hn2' (Or.inr fun j j1 j2 => absurd j2 (by omega))
      have C111 : ∀ t, Steps p.tables e below (T'.setTop (mkF m 111 #[.val (.ref r1), .val (.int pr), .val (.int P), .val (.int B), s4', s5', s6'] [])) t → Steps p.tables e below (T.setTop (mkF m 2 #[.val (.ref r1), .val (.int pr), .val (.int P), s3, s4, s5, s6] [])) t := fun t kk => C105 t (Y10 t kk)
      have C106 : ∀ t, Steps p.tables e below (T'.setTop (mkF m 2 #[.val (.ref r1), .val (.int pr), .val (.int (P + (1 : Int32))), .val (.int B), s4', s5', s6'] [])) t → Steps p.tables e below (T.setTop (mkF m 2 #[.val (.ref r1), .val (.int pr), .val (.int P), s3, s4, s5, s6] [])) t := by
        intro t k
        refine C111 t ?_
        show Steps p.tables e below (T'.setTop (mkF m 111 #[.val (.ref r1), .val (.int pr), .val (.int P), .val (.int B), s4', s5', s6'] [])) _
        refine XS.iinc Y1.here hx rfl (hb hby d11_111) rfl (l' := #[.val (.ref r1), .val (.int pr), .val (.int (P + (1 : Int32))), .val (.int B), s4', s5', s6']) rfl ?_
        show Steps p.tables e below (T'.setTop (mkF m 114 #[.val (.ref r1), .val (.int pr), .val (.int (P + (1 : Int32))), .val (.int B), s4', s5', s6'] [])) _
        refine XS.goto Y1.here hx rfl (pc0 := 114) (pc' := 2) rfl (hb hby d11_114) (by decide) (by decide) ?_
        exact k
      exact ⟨T', lo', h', .val (.int B), s4', s5', s6', q', Y1, Y2, Y3, Y4, Y5, Y6, (Or.inr ⟨_, rfl, rfl⟩), Y7, Y8, Y9, C106⟩
    · have C107 : ∀ t, Steps p.tables e below (T.setTop (mkF m 2 #[.val (.ref r1), .val (.int pr), .val (.int (P + (1 : Int32))), .val (.int y0), s4, s5, s6] [])) t → Steps p.tables e below (T.setTop (mkF m 2 #[.val (.ref r1), .val (.int pr), .val (.int P), s3, s4, s5, s6] [])) t := by
        intro t k
        refine C104 t ?_
        show Steps p.tables e below (T.setTop (mkF m 21 #[.val (.ref r1), .val (.int pr), .val (.int P), .val (.int y0), s4, s5, s6] [(.int y0), (.int y1)])) _
        refine XS.icmpNo XX.here hx rfl (hb hby d11_21) rfl (XT.ii_eq_f hx1) ?_
        show Steps p.tables e below (T.setTop (mkF m 24 #[.val (.ref r1), .val (.int pr), .val (.int P), .val (.int y0), s4, s5, s6] [])) _
        refine XS.goto XX.here hx rfl (pc0 := 24) (pc' := 111) rfl (hb hby d11_24) (by decide) (by decide) ?_
        show Steps p.tables e below (T.setTop (mkF m 111 #[.val (.ref r1), .val (.int pr), .val (.int P), .val (.int y0), s4, s5, s6] [])) _
        refine XS.iinc XX.here hx rfl (hb hby d11_111) rfl (l' := #[.val (.ref r1), .val (.int pr), .val (.int (P + (1 : Int32))), .val (.int y0), s4, s5, s6]) rfl ?_
        show Steps p.tables e below (T.setTop (mkF m 114 #[.val (.ref r1), .val (.int pr), .val (.int (P + (1 : Int32))), .val (.int y0), s4, s5, s6] [])) _
        refine XS.goto XX.here hx rfl (pc0 := 114) (pc' := 2) rfl (hb hby d11_114) (by decide) (by decide) ?_
        exact k
      have hq2 : q < 2 * mp := by have y := own_pair_ne hy0 hy1 hx1; omega
      exact ⟨T, lo, h, .val (.int y0), s4, s5, s6, q, XX, eT, NN, KK, HH, hq2, (Or.inr ⟨_, rfl, rfl⟩), O4, O5, O6, C107⟩
  have fin : ∃ (T' : State) (lo' : List Loc) (h' : Heap) (P' : Int32) (s3' s4' s5' s6' : Slot) (q' : Nat), Stand p l e ({ frames := 0, cells := 0, slots := 0, locals := 0 } : Room) s m #[(.ref r1), (.int pr)] below meth c T' lo' 0 0 ∧ T'.heap = h' ∧ Fr n0 lo' ∧ Keep h0 h' [r1] ∧ OwnA Z h' r1 .int n (own_hot q' A B) ∧ q' < 2 * mp ∧ ¬ P' < pr ∧ ∀ t, Steps p.tables e below (T'.setTop (mkF m 2 #[.val (.ref r1), .val (.int pr), .val (.int P'), s3', s4', s5', s6'] [])) t → Steps p.tables e below (s₁.setTop (entryFrame m #[(.ref r1), (.int pr)] 7)) t := by
    obtain ⟨T', lo', h', s3', s4', s5', s6', q', Y1, Y2, Y3, Y4, Y5, Y6, Y7, Y8, Y9, Y10, Y11⟩ := outer 0 0 .unset .unset .unset .unset q s₁ _ h0 X0 e0 N0 (Keep.refl _ _) H hq (Or.inl rfl) (Or.inl rfl) (Or.inl rfl) (Or.inl rfl) rfl (by omega)
    by_cases h1 : mp = 1
    · exact ⟨T', lo', h', _, s3', s4', s5', s6', q', Y1, Y2, Y3, Y4, Y5, Y6, fun y => by rw [own_lt32, hpr, h1] at y; exact absurd y (by decide), fun t kk => C83 t (Y11 t kk)⟩
    · obtain ⟨T'', lo'', h'', t3, t4, t5, t6, q'', V1, V2, V3, V4, V5, V6, V7, V8, V9, V10, V11⟩ := outer (0 + (1 : Int32)) 1 s3' s4' s5' s6' q' T' lo' h' Y1 Y2 Y3 Y4 Y5 (by omega) Y7 Y8 Y9 Y10 rfl (by omega)
      exact ⟨T'', lo'', h'', _, t3, t4, t5, t6, q'', V1, V2, V3, V4, V5, V6, fun y => by rw [own_lt32, hpr, show mp = 2 by omega] at y; exact absurd y (by decide), fun t kk => C83 t (Y11 t (V11 t kk))⟩
  obtain ⟨T9, lo9, h9, P9, s3, s4, s5, s6, q9, X9, e9, N9, K9, H9, hq9, hP9, C9⟩ := fin
  have C108 : ∀ t, Steps p.tables e below (T9.setTop (mkF m 117 #[.val (.ref r1), .val (.int pr), .val (.int P9), s3, s4, s5, s6] [])) t → Steps p.tables e below (s₁.setTop (entryFrame m #[(.ref r1), (.int pr)] 7)) t := by
    intro t k
    refine C9 t ?_
    show Steps p.tables e below (T9.setTop (mkF m 2 #[.val (.ref r1), .val (.int pr), .val (.int P9), s3, s4, s5, s6] [])) _
    refine XS.iloadN X9.here hx rfl (hb hby d11_2) rfl ?_
    show Steps p.tables e below (T9.setTop (mkF m 3 #[.val (.ref r1), .val (.int pr), .val (.int P9), s3, s4, s5, s6] [(.int P9)])) _
    refine XS.iloadN X9.here hx rfl (hb hby d11_3) rfl ?_
    show Steps p.tables e below (T9.setTop (mkF m 4 #[.val (.ref r1), .val (.int pr), .val (.int P9), s3, s4, s5, s6] [(.int pr), (.int P9)])) _
    refine XS.icmpYes X9.here hx rfl (pc0 := 4) (pc' := 117) rfl (hb hby d11_4) rfl (XT.ii_ge_t hP9) (by decide) (by decide) ?_
    exact k
  obtain ⟨fs, hr, hrun, hended, hW, hsame⟩ := X9.leave (v := none) (fun _ => rfl)
  refine ⟨_, _, C108 _ ?_, hrun, hended, _, _, rfl, ?_, ⟨_, rfl⟩, hW, hsame.mono (by decide) (by decide)⟩
  · show Steps p.tables e below (T9.setTop (mkF m 117 #[.val (.ref r1), .val (.int pr), .val (.int P9), s3, s4, s5, s6] [])) _
    exact X9.returnOut hx Bd.returns (hb hby d11_117) hr
  · show Q11 Z r1 n mp A B h0 n0 _ T9.heap _
    rw [e9]
    exact ⟨rfl, N9, q9, H9, hq9, K9⟩
theorem pd4 : parseMethodDescriptor "()D" = some ⟨[], some .double⟩ := by decide +kernel
section OwnSmp
open Jvm.FP Jvm.FP.Core
/-- the weights: 1 at a, xb at b, nought elsewhere -/
def own_wt (a b : Nat) (xb : UInt64) (i : Nat) : UInt64 := if i = b then xb else if i = a then 4607182418800017408 else 0
def own_wn (a b c i : Nat) : Nat := if i = b then c - 1 else if i = a then 1 else 0
def own_sm (a b c i : Nat) : Nat := (if a < i then 1 else 0) + (if b < i then c - 1 else 0)
theorem own_wt_z {a b c i : Nat} {xb : UInt64} (hxb : OwnZ xb ((c - 1) * one64)) : OwnZ (own_wt a b xb i) (own_wn a b c i * one64) := by
  unfold own_wt own_wn
  split
  · exact hxb
  · split
    · rw [Nat.one_mul]; exact own_one
    · rw [Nat.zero_mul]; exact own_zero
theorem own_rep_int {k : Nat} (h : k < 100) : OwnRep (k * one64) := by
  rw [own_one64]
  exact OwnRep.of (by omega) (by decide)
theorem own_sum_step {a b c i : Nat} {x xb : UInt64} (hab : a < b) (hc : c ≤ 6) (hxb : OwnZ xb ((c - 1) * one64)) (hx : OwnZ x (own_sm a b c i * one64)) : OwnZ (FP.dadd x (own_wt a b xb i)) (own_sm a b c (i + 1) * one64) := by
  have hs : own_sm a b c (i + 1) = own_sm a b c i + own_wn a b c i := by
    unfold own_sm own_wn
    split <;> split <;> split <;> split <;> (try split) <;> (try split) <;> omega
  have hb : own_sm a b c (i + 1) ≤ 6 := by
    unfold own_sm
    split <;> split <;> omega
  have := OwnZ.add hx (own_wt_z (i := i) (a := a) (b := b) hxb) (by rw [← Nat.add_mul, ← hs]; exact own_rep_int (by omega))
  rw [← Nat.add_mul, ← hs] at this
  exact this
theorem own_sm0 (a b c : Nat) : own_sm a b c 0 = 0 := rfl
theorem own_sm4 {a b c : Nat} (hab : a < b) (hb : b < 4) (hc : 2 ≤ c) : own_sm a b c 4 = c := by
  unfold own_sm
  rw [if_pos (by omega), if_pos hb]
  omega
/-- a sum between two doubles -/
theorem OwnZ.addB {a b : UInt64} {x y lo hi : Nat} (ha : OwnZ a x) (hb : OwnZ b y) (hl : OwnRep lo) (hh : OwnRep hi) (h1 : lo ≤ x + y) (h2 : x + y ≤ hi) : ∃ r, OwnZ (FP.dadd a b) r ∧ lo ≤ r ∧ r ≤ hi := by
  obtain ⟨cl, ql, l1, l2⟩ := id hl
  obtain ⟨ch, qh, k1, k2⟩ := id hh
  have hle := sum_le good_b64 (x := val64 a) (y := val64 b) (V := .fin false ch qh) ha.fin hb.fin (val64_fits a) (val64_fits b) k1 (by intro h; cases h) (by
    rw [ha.zval, hb.zval]
    show _ ≤ signed false (zmag b64 (.fin false ch qh))
    rw [k2]
    show _ ≤ ((hi : Nat) : Int)
    omega)
  have hge := sum_ge good_b64 (x := val64 a) (y := val64 b) (V := .fin false cl ql) ha.fin hb.fin (val64_fits a) (val64_fits b) l1 (by intro h; cases h) (by
    rw [ha.zval, hb.zval]
    show signed false (zmag b64 (.fin false cl ql)) ≤ _
    rw [l2]
    show ((lo : Nat) : Int) ≤ _
    omega)
  have hs : sgn (val64 (Core.dadd a b)) = false := by
    obtain ⟨⟨c1, q1, e1⟩, -⟩ := ha
    obtain ⟨⟨c2, q2, e2⟩, -⟩ := hb
    rw [val64_dadd, e1, e2]
    exact own_sum_sgn _ _ _ _
  have hn : val64 (Core.dadd a b) ≠ .nan := (notNaN_iff _).mp (Core.dadd_out ha.fin.notNaN hb.fin)
  rw [← val64_dadd] at hle hge
  have e5 : Core.zval b64 (val64 (Core.dadd a b)) = signed (sgn (val64 (Core.dadd a b))) (zmag b64 (val64 (Core.dadd a b))) := rfl
  rw [hs] at e5
  have e6 : Core.zval b64 (val64 (Core.dadd a b)) = ((zmag b64 (val64 (Core.dadd a b)) : Nat) : Int) := e5
  have f1 : Core.zval b64 (.fin false ch qh) = ((hi : Nat) : Int) := by show signed false (zmag b64 (.fin false ch qh)) = _; rw [k2]; rfl
  have f2 : Core.zval b64 (.fin false cl ql) = ((lo : Nat) : Int) := by show signed false (zmag b64 (.fin false cl ql)) = _; rw [l2]; rfl
  rw [e6, f1] at hle
  rw [e6, f2] at hge
  exact ⟨zmag b64 (val64 (Core.dadd a b)), OwnZ.mk hn hs rfl (Nat.lt_of_le_of_lt (by omega) hh.lt), by omega, by omega⟩
/-- a pointer's magnitude -/
def own_r (u sp : UInt64) (j : Nat) : Nat := zmag b64 (val64 (FP.dmul (FP.dadd u (FP.i2d (Int32.ofInt (j : Int)))) sp))
theorem own_pointer {u sp : UInt64} {y j : Nat} {f : Int32} (zu : OwnZ u (y * 2 ^ 1021)) (hy : y < 2 ^ 53) (zs : OwnZ sp one64) (hf : f.toInt = (j : Int)) (hj : j ≤ 6) :
    Jvm.Free.Fl.NoNaN64 (FP.dadd u (FP.i2d f)) ∧ OwnZ (FP.dmul (FP.dadd u (FP.i2d f)) sp) (own_r u sp j) ∧ j * one64 ≤ own_r u sp j ∧ own_r u sp j ≤ (j + 1) * one64 ∧ (j = 0 → own_r u sp j < one64) := by
  have ef : f = Int32.ofInt (j : Int) := by rw [← hf]; exact (Int32.ofInt_toInt f).symm
  have zi := own_i2d (v := f) (by omega)
  rw [hf, Int.toNat_natCast] at zi
  have hlt : y * 2 ^ 1021 < one64 := by
    rw [own_one64, show (1074 : Nat) = 53 + 1021 from rfl, Nat.pow_add]
    exact Nat.mul_lt_mul_of_pos_right hy (Nat.two_pow_pos _)
  have e1 : (j + 1) * one64 = j * one64 + one64 := by rw [Nat.add_mul, Nat.one_mul]
  by_cases h0 : j = 0
  · subst h0
    have hz := OwnZ.add zu zi (by rw [Nat.zero_mul, Nat.add_zero]; exact zu.rep)
    rw [Nat.zero_mul, Nat.add_zero] at hz
    have hm := OwnZ.mul hz zs hz.rep rfl
    have er : own_r u sp 0 = y * 2 ^ 1021 := by unfold own_r; rw [← ef]; exact hm.2
    rw [er]
    exact ⟨hz.nn, hm, by omega, by omega, fun _ => hlt⟩
  · obtain ⟨r, hz, h1, h2⟩ := OwnZ.addB zu zi (lo := j * one64) (hi := (j + 1) * one64) (own_rep_int (by omega)) (own_rep_int (by omega)) (by omega) (by omega)
    have hm := OwnZ.mul hz zs hz.rep rfl
    have er : own_r u sp j = r := by unfold own_r; rw [← ef]; exact hm.2
    rw [er]
    exact ⟨hz.nn, hm, h1, h2, fun y => absurd y h0⟩
theorem own_cg_t {t x : UInt64} {r k : Nat} (ht : OwnZ t r) (hx : OwnZ x k) (h : ¬ r < k) : ifCond.holds .ge (cmpValue (FP.dcmp t x) .g) = true := by
  rw [ht.cmp hx]
  rcases Nat.lt_or_eq_of_le (Nat.not_lt.mp h) with g | g
  · rw [(compare_gt_iff _ _).mpr (by omega)]; rfl
  · rw [(compare_eq_iff _ _).mpr (by omega)]; rfl
theorem own_cg_f {t x : UInt64} {r k : Nat} (ht : OwnZ t r) (hx : OwnZ x k) (h : r < k) : ifCond.holds .ge (cmpValue (FP.dcmp t x) .g) = false := by
  rw [ht.cmp hx, (compare_lt_iff _ _).mpr (by omega)]; rfl
theorem own_cl0_t {t : UInt64} {r : Nat} (ht : OwnZ t r) (h : r = 0) : ifCond.holds .le (cmpValue (FP.dcmp t 0) .l) = true := by
  rw [ht.cmp own_zero, (compare_eq_iff _ _).mpr (by omega)]; rfl
theorem own_cl0_f {t : UInt64} {r : Nat} (ht : OwnZ t r) (h : r ≠ 0) : ifCond.holds .le (cmpValue (FP.dcmp t 0) .l) = false := by
  rw [ht.cmp own_zero, (compare_gt_iff _ _).mpr (by omega)]; rfl
/-- the slots taken so far -/
def own_tk (A B : Int32) (f : Nat) : Nat → Value := fun i => .int (if i < f then (if i = 0 then A else B) else 0)
theorem own_tk_set {A B iv : Int32} {f : Nat} (h : iv = if f = 0 then A else B) (i : Nat) : (if i = f then Value.int iv else own_tk A B f i) = own_tk A B (f + 1) i := by
  subst h
  unfold own_tk
  by_cases h1 : i = f
  · subst h1
    rw [if_pos rfl, if_pos (Nat.lt_succ_self _)]
  · rw [if_neg h1]
    by_cases h2 : i < f
    · rw [if_pos h2, if_pos (show i < f + 1 by omega)]
    · rw [if_neg h2, if_neg (show ¬ i < f + 1 by omega)]
theorem own_tk_hot {A B : Int32} {c i : Nat} (h : i < c) : own_tk A B c i = own_hot 0 A B i := by
  unfold own_tk own_hot
  rw [if_pos h]
/-- what holds at the head of the outer loop -/
def OwnInv (u sp : UInt64) (a b c : Nat) (A B : Int32) (iN fN K : Nat) (la : Int32) : Prop :=
  (iN ≤ a ∧ fN = 0 ∧ K = 0) ∨ (a < iN ∧ iN ≤ b ∧ fN = 1 ∧ K = 1 ∧ la = A) ∨ (b < iN ∧ K = c ∧ la = B ∧ (fN = c ∨ (fN + 1 = c ∧ c * one64 ≤ own_r u sp fN)))
/-- what holds behind the inner loop -/
theorem own_turn {u sp : UInt64} {y a b c iN fN K fN' : Nat} {A B la la' iv : Int32} (zu : OwnZ u (y * 2 ^ 1021)) (hy : y < 2 ^ 53) (zs : OwnZ sp one64) (hab : a < b) (hc2 : 2 ≤ c) (hc6 : c ≤ 6)
    (hiv : iN = a → iv = A) (hivb : iN = b → iv = B) (hla : la' = if own_wn a b c iN ≠ 0 then iv else la) (hfc : fN < c) (inv : OwnInv u sp a b c A B iN fN K la)
    (h1 : fN ≤ fN') (h2 : fN' ≤ c) (h3 : ∀ j, fN ≤ j → j < fN' → own_r u sp j < (K + own_wn a b c iN) * one64) (h4 : fN' = c ∨ ¬ own_r u sp fN' < (K + own_wn a b c iN) * one64) : OwnInv u sp a b c A B (iN + 1) fN' (K + own_wn a b c iN) la' := by
  have hp : ∀ j, j ≤ 6 → j * one64 ≤ own_r u sp j ∧ own_r u sp j ≤ (j + 1) * one64 ∧ (j = 0 → own_r u sp j < one64) := fun j hj => by
    have := own_pointer (f := Int32.ofInt (j : Int)) zu hy zs (by rw [Int32.toInt_ofInt_of_le (by omega) (by omega)]) hj
    exact this.2.2
  have ho := one64_pos
  rcases inv with ⟨i1, rfl, rfl⟩ | ⟨i1, i2, rfl, rfl, rfl⟩ | ⟨i1, hK, rfl, i2⟩
  · rcases Nat.lt_or_eq_of_le i1 with g | g
    · -- ahead of a
      have hw : own_wn a b c iN = 0 := by unfold own_wn; rw [if_neg (by omega), if_neg (by omega)]
      rw [hw] at h3 h4 ⊢
      left
      refine ⟨by omega, ?_, rfl⟩
      by_cases q : fN' = 0
      · exact q
      · have := h3 0 (Nat.le_refl _) (by omega)
        rw [Nat.add_zero, Nat.zero_mul] at this
        exact absurd this (Nat.not_lt_zero _)
    · -- at a
      have hw : own_wn a b c iN = 1 := by unfold own_wn; rw [if_neg (by omega), if_pos g]
      rw [hw] at h3 h4 hla ⊢
      right; left
      refine ⟨by omega, by omega, ?_, rfl, by rw [hla, if_pos (by decide)]; exact hiv g⟩
      have r0 := (hp 0 (by decide)).2.2 rfl
      have r1 := (hp 1 (by decide)).1
      by_cases q0 : fN' = 0
      · exfalso
        rcases h4 with q | q
        · omega
        · rw [q0] at q
          rw [Nat.zero_add, Nat.one_mul] at q
          exact q r0
      · by_cases q1 : fN' = 1
        · exact q1
        · have := h3 1 (by omega) (by omega)
          rw [Nat.zero_add] at this
          omega
  · by_cases g : iN = b
    · -- at b
      have hw : own_wn a b c iN = c - 1 := by unfold own_wn; rw [if_pos g]
      rw [hw] at h3 h4 hla ⊢
      have hk : 1 + (c - 1) = c := by omega
      rw [hk] at h3 h4 ⊢
      right; right
      refine ⟨by omega, rfl, by rw [hla, if_pos (by omega)]; exact hivb g, ?_⟩
      by_cases q3 : fN' = c
      · exact Or.inl q3
      · right
        have q := h4.resolve_left q3
        have rf := (hp fN' (by omega)).2.1
        have q2 : ¬ fN' + 1 < c := fun q2 => by
          have hm : (fN' + 2) * one64 ≤ c * one64 := Nat.mul_le_mul_right _ (by omega)
          have e2 : (fN' + 2) * one64 = (fN' + 1) * one64 + one64 := by rw [Nat.add_mul, Nat.add_mul]; omega
          omega
        exact ⟨by omega, by omega⟩
    · have hw : own_wn a b c iN = 0 := by unfold own_wn; rw [if_neg g, if_neg (by omega)]
      rw [hw] at h3 h4 hla ⊢
      right; left
      refine ⟨by omega, by omega, ?_, rfl, by rw [hla, if_neg (by decide)]⟩
      have r1 := (hp 1 (by decide)).1
      by_cases q1 : fN' = 1
      · exact q1
      · have := h3 1 (Nat.le_refl _) (by omega)
        rw [Nat.add_zero] at this
        omega
  · have hK' := hK.symm
    subst hK'
    have hw : own_wn a b c iN = 0 := by unfold own_wn; rw [if_neg (by omega), if_neg (by omega)]
    rw [hw] at h3 h4 hla ⊢
    right; right
    refine ⟨by omega, rfl, by rw [hla, if_neg (by decide)], ?_⟩
    rcases i2 with q | ⟨q, qr⟩
    · omega
    · right
      by_cases q1 : fN' = fN
      · rw [q1]; exact ⟨q, qr⟩
      · have := h3 fN (Nat.le_refl _) (by omega)
        rw [Nat.add_zero] at this
        omega
end OwnSmp
theorem own_ix0 : ¬ (0 : Int32) < 0 ∧ (0 : Int32).toNatClampNeg < 4 := by decide
theorem own_ix1 : ¬ (1 : Int32) < 0 ∧ (1 : Int32).toNatClampNeg < 4 := by decide
theorem own_ix2 : ¬ (2 : Int32) < 0 ∧ (2 : Int32).toNatClampNeg < 4 := by decide
theorem own_ix3 : ¬ (3 : Int32) < 0 ∧ (3 : Int32).toNatClampNeg < 4 := by decide
theorem own_inv_le {u sp : UInt64} {a b c iN fN K : Nat} {A B la : Int32} (hab : a < b) (hc : 2 ≤ c) (inv : OwnInv u sp a b c A B iN fN K la) : K + own_wn a b c iN ≤ c := by
  unfold own_wn
  rcases inv with ⟨y1, y2, y3⟩ | ⟨y1, y2, y3, y4, y5⟩ | ⟨y1, y2, y3, y4⟩ <;> split <;> (try split) <;> omega
theorem own_writes {u sp : UInt64} {y a b c iN fN K : Nat} {A B la i : Int32} (zu : OwnZ u (y * 2 ^ 1021)) (hy : y < 2 ^ 53) (zs : OwnZ sp Jvm.FP.Core.one64) (hab : a < b) (hc2 : 2 ≤ c) (hc6 : c ≤ 6) (hA : A.toInt = (a : Int)) (hB : B.toInt = (b : Int)) (hi : i.toInt = (iN : Int))
    (inv : OwnInv u sp a b c A B iN fN K la) : ∀ j, fN ≤ j → j < c → own_r u sp j < (K + own_wn a b c iN) * Jvm.FP.Core.one64 → i = if j = 0 then A else B := by
  intro j j1 j2 j3
  have hp := (own_pointer (f := Int32.ofInt (j : Int)) zu hy zs (by rw [Int32.toInt_ofInt_of_le (by omega) (by omega)]) (show j ≤ 6 by omega)).2.2.1
  have ho := Jvm.FP.Core.one64_pos
  have hjk : j < K + own_wn a b c iN := Nat.lt_of_mul_lt_mul_right (Nat.lt_of_le_of_lt hp j3)
  unfold own_wn at hjk
  rcases inv with ⟨y1, y2, y3⟩ | ⟨y1, y2, y3, y4, y5⟩ | ⟨y1, y2, y3, y4⟩
  · rw [if_neg (by omega)] at hjk
    split at hjk
    · rename_i g
      rw [if_pos (by omega)]
      exact Int32.toInt_inj.mp (by rw [hi, hA, g])
    · omega
  · rw [if_neg (by omega)]
    split at hjk
    · rename_i g
      exact Int32.toInt_inj.mp (by rw [hi, hB, g])
    · rw [if_neg (by omega)] at hjk
      omega
  · have hw : own_wn a b c iN = 0 := by unfold own_wn; rw [if_neg (by omega), if_neg (by omega)]
    rcases y4 with g | ⟨g, gr⟩
    · omega
    · have : j = fN := by omega
      subst this
      rw [hw, y2, Nat.add_zero] at j3
      omega
def Q5 (Z : State) (a1 : Addr) (cN : Nat) (A B : Int32) (w0 w1 w2 w3 : Int64) (h0 : Heap) (n0 : Nat) (v : Option Value) (h : Heap) (L : List Loc) : Prop := ∃ r : Addr, v = some (.ref r) ∧ Fr n0 L ∧ h0.size ≤ r ∧ OwnA Z h r .int cN (own_hot 0 A B) ∧ OwnR Z h a1 (own_s0 w0 w1 w2 w3) (own_s1 w0 w1 w2 w3) (own_s2 w0 w1 w2 w3) (own_s3 w0 w1 w2 w3) ∧ Keep h0 h [a1]
theorem ef5 (m : MethodId) (x0 : Addr) (x1 : Int32) (x2 : Addr) : entryFrame m #[(.ref x0), (.int x1), (.ref x2)] 15 = mkF m 0 #[.val (.ref x0), .val (.int x1), .val (.ref x2), .unset, .unset, .unset, .unset, .unset, .unset, .unset, .unset, .unset, .unset, .unset, .unset] [] := by first | (simp [entryFrame, mkF, argsToLocals, Value.category]; done) | rfl
theorem d5_0 : decode prog_59_method_4_code 0 = .ok (.dconst 0, 1) := by decide +kernel
theorem d5_1 : decode prog_59_method_4_code 1 = .ok (.dstore_n 3, 1) := by decide +kernel
theorem d5_2 : decode prog_59_method_4_code 2 = .ok (.aload_n 0, 1) := by decide +kernel
theorem d5_3 : decode prog_59_method_4_code 3 = .ok (.astore 5, 2) := by decide +kernel
theorem d5_5 : decode prog_59_method_4_code 5 = .ok (.aload 5, 2) := by decide +kernel
theorem d5_7 : decode prog_59_method_4_code 7 = .ok (.arraylength, 1) := by decide +kernel
theorem d5_8 : decode prog_59_method_4_code 8 = .ok (.istore 6, 2) := by decide +kernel
theorem d5_10 : decode prog_59_method_4_code 10 = .ok (.iconst 0, 1) := by decide +kernel
theorem d5_11 : decode prog_59_method_4_code 11 = .ok (.istore 7, 2) := by decide +kernel
theorem d5_13 : decode prog_59_method_4_code 13 = .ok (.iload 7, 2) := by decide +kernel
theorem d5_15 : decode prog_59_method_4_code 15 = .ok (.iload 6, 2) := by decide +kernel
theorem d5_17 : decode prog_59_method_4_code 17 = .ok (.if_icmp .ge 21, 3) := by decide +kernel
theorem d5_20 : decode prog_59_method_4_code 20 = .ok (.aload 5, 2) := by decide +kernel
theorem d5_22 : decode prog_59_method_4_code 22 = .ok (.iload 7, 2) := by decide +kernel
theorem d5_24 : decode prog_59_method_4_code 24 = .ok (.daload, 1) := by decide +kernel
theorem d5_25 : decode prog_59_method_4_code 25 = .ok (.dstore 8, 2) := by decide +kernel
theorem d5_27 : decode prog_59_method_4_code 27 = .ok (.dload_n 3, 1) := by decide +kernel
theorem d5_28 : decode prog_59_method_4_code 28 = .ok (.dload 8, 2) := by decide +kernel
theorem d5_30 : decode prog_59_method_4_code 30 = .ok (.dadd, 1) := by decide +kernel
theorem d5_31 : decode prog_59_method_4_code 31 = .ok (.dstore_n 3, 1) := by decide +kernel
theorem d5_32 : decode prog_59_method_4_code 32 = .ok (.iinc 7 1, 3) := by decide +kernel
theorem d5_35 : decode prog_59_method_4_code 35 = .ok (.goto (-22), 3) := by decide +kernel
theorem d5_38 : decode prog_59_method_4_code 38 = .ok (.dload_n 3, 1) := by decide +kernel
theorem d5_39 : decode prog_59_method_4_code 39 = .ok (.iload_n 1, 1) := by decide +kernel
theorem d5_40 : decode prog_59_method_4_code 40 = .ok (.i2d, 1) := by decide +kernel
theorem d5_41 : decode prog_59_method_4_code 41 = .ok (.ddiv, 1) := by decide +kernel
theorem d5_42 : decode prog_59_method_4_code 42 = .ok (.dstore 5, 2) := by decide +kernel
theorem d5_44 : decode prog_59_method_4_code 44 = .ok (.aload_n 2, 1) := by decide +kernel
theorem d5_45 : decode prog_59_method_4_code 45 = .ok (.invokevirtual 31, 3) := by decide +kernel
theorem d5_48 : decode prog_59_method_4_code 48 = .ok (.dstore 7, 2) := by decide +kernel
theorem d5_50 : decode prog_59_method_4_code 50 = .ok (.iload_n 1, 1) := by decide +kernel
theorem d5_51 : decode prog_59_method_4_code 51 = .ok (.newarray .int, 2) := by decide +kernel
theorem d5_53 : decode prog_59_method_4_code 53 = .ok (.astore 9, 2) := by decide +kernel
theorem d5_55 : decode prog_59_method_4_code 55 = .ok (.iconst 0, 1) := by decide +kernel
theorem d5_56 : decode prog_59_method_4_code 56 = .ok (.istore 10, 2) := by decide +kernel
theorem d5_58 : decode prog_59_method_4_code 58 = .ok (.dconst 0, 1) := by decide +kernel
theorem d5_59 : decode prog_59_method_4_code 59 = .ok (.dstore 11, 2) := by decide +kernel
theorem d5_61 : decode prog_59_method_4_code 61 = .ok (.iconst (-1), 1) := by decide +kernel
theorem d5_62 : decode prog_59_method_4_code 62 = .ok (.istore 13, 2) := by decide +kernel
theorem d5_64 : decode prog_59_method_4_code 64 = .ok (.iconst 0, 1) := by decide +kernel
theorem d5_65 : decode prog_59_method_4_code 65 = .ok (.istore 14, 2) := by decide +kernel
theorem d5_67 : decode prog_59_method_4_code 67 = .ok (.iload 14, 2) := by decide +kernel
theorem d5_69 : decode prog_59_method_4_code 69 = .ok (.aload_n 0, 1) := by decide +kernel
theorem d5_70 : decode prog_59_method_4_code 70 = .ok (.arraylength, 1) := by decide +kernel
theorem d5_71 : decode prog_59_method_4_code 71 = .ok (.if_icmp .ge 76, 3) := by decide +kernel
theorem d5_74 : decode prog_59_method_4_code 74 = .ok (.iload 10, 2) := by decide +kernel
theorem d5_76 : decode prog_59_method_4_code 76 = .ok (.iload_n 1, 1) := by decide +kernel
theorem d5_77 : decode prog_59_method_4_code 77 = .ok (.if_icmp .ge 70, 3) := by decide +kernel
theorem d5_80 : decode prog_59_method_4_code 80 = .ok (.dload 11, 2) := by decide +kernel
theorem d5_82 : decode prog_59_method_4_code 82 = .ok (.aload_n 0, 1) := by decide +kernel
theorem d5_83 : decode prog_59_method_4_code 83 = .ok (.iload 14, 2) := by decide +kernel
theorem d5_85 : decode prog_59_method_4_code 85 = .ok (.daload, 1) := by decide +kernel
theorem d5_86 : decode prog_59_method_4_code 86 = .ok (.dadd, 1) := by decide +kernel
theorem d5_87 : decode prog_59_method_4_code 87 = .ok (.dstore 11, 2) := by decide +kernel
theorem d5_89 : decode prog_59_method_4_code 89 = .ok (.aload_n 0, 1) := by decide +kernel
theorem d5_90 : decode prog_59_method_4_code 90 = .ok (.iload 14, 2) := by decide +kernel
theorem d5_92 : decode prog_59_method_4_code 92 = .ok (.daload, 1) := by decide +kernel
theorem d5_93 : decode prog_59_method_4_code 93 = .ok (.dconst 0, 1) := by decide +kernel
theorem d5_94 : decode prog_59_method_4_code 94 = .ok (.dcmp .l, 1) := by decide +kernel
theorem d5_95 : decode prog_59_method_4_code 95 = .ok (.ifCond .le 8, 3) := by decide +kernel
theorem d5_98 : decode prog_59_method_4_code 98 = .ok (.iload 14, 2) := by decide +kernel
theorem d5_100 : decode prog_59_method_4_code 100 = .ok (.goto 5, 3) := by decide +kernel
theorem d5_103 : decode prog_59_method_4_code 103 = .ok (.iload 13, 2) := by decide +kernel
theorem d5_105 : decode prog_59_method_4_code 105 = .ok (.istore 13, 2) := by decide +kernel
theorem d5_107 : decode prog_59_method_4_code 107 = .ok (.iload 10, 2) := by decide +kernel
theorem d5_109 : decode prog_59_method_4_code 109 = .ok (.iload_n 1, 1) := by decide +kernel
theorem d5_110 : decode prog_59_method_4_code 110 = .ok (.if_icmp .ge 31, 3) := by decide +kernel
theorem d5_113 : decode prog_59_method_4_code 113 = .ok (.dload 7, 2) := by decide +kernel
theorem d5_115 : decode prog_59_method_4_code 115 = .ok (.iload 10, 2) := by decide +kernel
theorem d5_117 : decode prog_59_method_4_code 117 = .ok (.i2d, 1) := by decide +kernel
theorem d5_118 : decode prog_59_method_4_code 118 = .ok (.dadd, 1) := by decide +kernel
theorem d5_119 : decode prog_59_method_4_code 119 = .ok (.dload 5, 2) := by decide +kernel
theorem d5_121 : decode prog_59_method_4_code 121 = .ok (.dmul, 1) := by decide +kernel
theorem d5_122 : decode prog_59_method_4_code 122 = .ok (.dload 11, 2) := by decide +kernel
theorem d5_124 : decode prog_59_method_4_code 124 = .ok (.dcmp .g, 1) := by decide +kernel
theorem d5_125 : decode prog_59_method_4_code 125 = .ok (.ifCond .ge 16, 3) := by decide +kernel
theorem d5_128 : decode prog_59_method_4_code 128 = .ok (.aload 9, 2) := by decide +kernel
theorem d5_130 : decode prog_59_method_4_code 130 = .ok (.iload 10, 2) := by decide +kernel
theorem d5_132 : decode prog_59_method_4_code 132 = .ok (.iinc 10 1, 3) := by decide +kernel
theorem d5_135 : decode prog_59_method_4_code 135 = .ok (.iload 14, 2) := by decide +kernel
theorem d5_137 : decode prog_59_method_4_code 137 = .ok (.iastore, 1) := by decide +kernel
theorem d5_138 : decode prog_59_method_4_code 138 = .ok (.goto (-31), 3) := by decide +kernel
theorem d5_141 : decode prog_59_method_4_code 141 = .ok (.iinc 14 1, 3) := by decide +kernel
theorem d5_144 : decode prog_59_method_4_code 144 = .ok (.goto (-77), 3) := by decide +kernel
theorem d5_147 : decode prog_59_method_4_code 147 = .ok (.iload 10, 2) := by decide +kernel
theorem d5_149 : decode prog_59_method_4_code 149 = .ok (.iload_n 1, 1) := by decide +kernel
theorem d5_150 : decode prog_59_method_4_code 150 = .ok (.if_icmp .ge 16, 3) := by decide +kernel
theorem d5_153 : decode prog_59_method_4_code 153 = .ok (.aload 9, 2) := by decide +kernel
theorem d5_155 : decode prog_59_method_4_code 155 = .ok (.iload 10, 2) := by decide +kernel
theorem d5_157 : decode prog_59_method_4_code 157 = .ok (.iinc 10 1, 3) := by decide +kernel
theorem d5_160 : decode prog_59_method_4_code 160 = .ok (.iload 13, 2) := by decide +kernel
theorem d5_162 : decode prog_59_method_4_code 162 = .ok (.iastore, 1) := by decide +kernel
theorem d5_163 : decode prog_59_method_4_code 163 = .ok (.goto (-16), 3) := by decide +kernel
theorem d5_166 : decode prog_59_method_4_code 166 = .ok (.aload 9, 2) := by decide +kernel
theorem d5_168 : decode prog_59_method_4_code 168 = .ok (.areturn, 1) := by decide +kernel
set_option maxRecDepth 65536 in
set_option maxHeartbeats 40000000 in
theorem rm5 (l : Launch) (Z : State) (a0 : Array Value) (hw : ∀ d ∈ tables_1, d.before a0 Z = true) (ws : List Jvm.Cond) (wa : Addr) (cnt : Int32) (a1 : Addr) (na nb cN : Nat) (A B : Int32) (xb : UInt64) (w0 w1 w2 w3 : Int64) (h0 : Heap) (n0 : Nat) (Z0 : n0 ≤ h0.size) (Wt : OwnA Z h0 wa .double 4 (fun i => .double (own_wt na nb xb i))) (R : OwnR Z h0 a1 w0 w1 w2 w3) (g1 : n0 ≤ a1) (hcnt : cnt.toInt = (cN : Int)) (hc2 : 2 ≤ cN) (hc6 : cN ≤ 6) (hab : na < nb) (hb4 : nb < 4) (hA : A.toInt = (na : Int)) (hB : B.toInt = (nb : Int)) (zb : OwnZ xb ((cN - 1) * Jvm.FP.Core.one64)) :
    MetFree l (⟨"com/example/mutatune/mutatune/engine/UniversalSampling", "sample", "([DILcom/example/mutatune/mutatune/engine/SeededRandom;)[I"⟩ : MethodName) (head1 (Jvm.Cond.code (⟨"com/example/mutatune/mutatune/engine/UniversalSampling", "sample", "([DILcom/example/mutatune/mutatune/engine/SeededRandom;)[I"⟩ : MethodName) prog_59_method_4_code 15 (some (.array .int)) :: ws) ({ frames := 3, cells := 1, slots := 6, locals := 43 } : Room)) (fun a U => a = #[(.ref wa), (.int cnt), (.ref a1)] ∧ Z.Warmed39 U.vm ∧ U.heap = h0) (fun _ _ _ _ _ => True) (fun _ U o U' => ∃ v L, o = .returned v ∧ Q5 Z a1 cN A B w0 w1 w2 w3 h0 n0 v U'.heap L ∧ FrameEnd U o U' L ({ frames := 3, cells := 1, slots := 6, locals := 43 } : Room).cells ({ frames := 3, cells := 1, slots := 6, locals := 43 } : Room).slots) := by
  refine MetFree.of_bodySF (plainFor_of_name pn2) hisR ?_
  intro p e s m args below meth c s₁ Bd hml0 hP hK
  obtain ⟨rfl, hZ, hh⟩ := hP
  have hx := Bd.exec
  have hby := Bd.bytes
  have hml : c.maxLocals = 15 := hml0
  have hown : s.vm.findClass "com/example/mutatune/mutatune/engine/UniversalSampling" = some m.cls := findClass_of_methodNamed Bd.named
  have hnm := (name_of_methodNamed Bd.named Bd.method).1
  have X0 : Stand p l e ({ frames := 3, cells := 1, slots := 6, locals := 43 } : Room) s m #[(.ref wa), (.int cnt), (.ref a1)] below meth c s₁ [] 0 0 := Stand.of_body Bd
  have e0 : s₁.heap = h0 := by rw [← hh, Bd.state]; rfl
  have N0 := Fr.nil n0
  have pre0 : ∀ t, Steps p.tables e below (s₁.setTop (mkF m 0 #[.val (.ref wa), .val (.int cnt), .val (.ref a1), .unset, .unset, .unset, .unset, .unset, .unset, .unset, .unset, .unset, .unset, .unset, .unset] [])) t → Steps p.tables e below (s₁.setTop (entryFrame m #[(.ref wa), (.int cnt), (.ref a1)] 15)) t := fun t k => castTop (ef5 m wa cnt a1) k
  have a_w := own_ne R.1 (hw _ (List.mem_of_getElem? (i := 3) rfl)) Wt
  have zx0 : OwnZ 0 (own_sm na nb cN 0 * Jvm.FP.Core.one64) := by rw [own_sm0, Nat.zero_mul]; exact own_zero
  obtain ⟨c109, A109, S109, V109⟩ := id Wt
  obtain ⟨c110, A110, S110, V110⟩ := id Wt
  have zx1 := own_sum_step (i := 0) hab hc6 zb zx0
  have C111 : ∀ t, Steps p.tables e below (s₁.setTop (mkF m 13 #[.val (.ref wa), .val (.int cnt), .val (.ref a1), .val (.double (FP.dadd 0 (own_wt na nb xb 0))), .second, .val (.ref wa), .val (.int (4 : Int32)), .val (.int (1 : Int32)), .val (.double (own_wt na nb xb 0)), .second, .unset, .unset, .unset, .unset, .unset] [])) t → Steps p.tables e below (s₁.setTop (entryFrame m #[(.ref wa), (.int cnt), (.ref a1)] 15)) t := by
    intro t k
    refine pre0 t ?_
    show Steps p.tables e below (s₁.setTop (mkF m 0 #[.val (.ref wa), .val (.int cnt), .val (.ref a1), .unset, .unset, .unset, .unset, .unset, .unset, .unset, .unset, .unset, .unset, .unset, .unset] [])) _
    refine XS.dconst0 X0.here hx rfl (hb hby d5_0) (v := 0) rfl ?_
    show Steps p.tables e below (s₁.setTop (mkF m 1 #[.val (.ref wa), .val (.int cnt), .val (.ref a1), .unset, .unset, .unset, .unset, .unset, .unset, .unset, .unset, .unset, .unset, .unset, .unset] [(.double 0)])) _
    refine XS.dstoreN X0.here hx rfl (hb hby d5_1) rfl (l' := #[.val (.ref wa), .val (.int cnt), .val (.ref a1), .val (.double 0), .second, .unset, .unset, .unset, .unset, .unset, .unset, .unset, .unset, .unset, .unset]) rfl ?_
    show Steps p.tables e below (s₁.setTop (mkF m 2 #[.val (.ref wa), .val (.int cnt), .val (.ref a1), .val (.double 0), .second, .unset, .unset, .unset, .unset, .unset, .unset, .unset, .unset, .unset, .unset] [])) _
    refine XS.aloadN X0.here hx rfl (hb hby d5_2) rfl rfl ?_
    show Steps p.tables e below (s₁.setTop (mkF m 3 #[.val (.ref wa), .val (.int cnt), .val (.ref a1), .val (.double 0), .second, .unset, .unset, .unset, .unset, .unset, .unset, .unset, .unset, .unset, .unset] [(.ref wa)])) _
    refine XS.astore X0.here hx rfl (hb hby d5_3) rfl rfl (l' := #[.val (.ref wa), .val (.int cnt), .val (.ref a1), .val (.double 0), .second, .val (.ref wa), .unset, .unset, .unset, .unset, .unset, .unset, .unset, .unset, .unset]) rfl ?_
    show Steps p.tables e below (s₁.setTop (mkF m 5 #[.val (.ref wa), .val (.int cnt), .val (.ref a1), .val (.double 0), .second, .val (.ref wa), .unset, .unset, .unset, .unset, .unset, .unset, .unset, .unset, .unset] [])) _
    refine XS.aload X0.here hx rfl (hb hby d5_5) rfl rfl ?_
    show Steps p.tables e below (s₁.setTop (mkF m 7 #[.val (.ref wa), .val (.int cnt), .val (.ref a1), .val (.double 0), .second, .val (.ref wa), .unset, .unset, .unset, .unset, .unset, .unset, .unset, .unset, .unset] [(.ref wa)])) _
    refine X0.arraylength hx (by rw [e0]; exact A109.1) (State.isArrayOf_alike hZ.alike A109.2.1) (g := (mkF m 7 #[.val (.ref wa), .val (.int cnt), .val (.ref a1), .val (.double 0), .second, .val (.ref wa), .unset, .unset, .unset, .unset, .unset, .unset, .unset, .unset, .unset] [(.ref wa)])) rfl rfl (hb hby d5_7) _ ?_
    rw [S109, (rfl : (4 : Nat).toInt32 = (4 : Int32))]
    show Steps p.tables e below (s₁.setTop (mkF m 8 #[.val (.ref wa), .val (.int cnt), .val (.ref a1), .val (.double 0), .second, .val (.ref wa), .unset, .unset, .unset, .unset, .unset, .unset, .unset, .unset, .unset] [(.int (4 : Int32))])) _
    refine XS.istore X0.here hx rfl (hb hby d5_8) rfl (l' := #[.val (.ref wa), .val (.int cnt), .val (.ref a1), .val (.double 0), .second, .val (.ref wa), .val (.int (4 : Int32)), .unset, .unset, .unset, .unset, .unset, .unset, .unset, .unset]) rfl ?_
    show Steps p.tables e below (s₁.setTop (mkF m 10 #[.val (.ref wa), .val (.int cnt), .val (.ref a1), .val (.double 0), .second, .val (.ref wa), .val (.int (4 : Int32)), .unset, .unset, .unset, .unset, .unset, .unset, .unset, .unset] [])) _
    refine XS.iconst X0.here hx rfl (hb hby d5_10) ?_
    show Steps p.tables e below (s₁.setTop (mkF m 11 #[.val (.ref wa), .val (.int cnt), .val (.ref a1), .val (.double 0), .second, .val (.ref wa), .val (.int (4 : Int32)), .unset, .unset, .unset, .unset, .unset, .unset, .unset, .unset] [(.int (0 : Int32))])) _
    refine XS.istore X0.here hx rfl (hb hby d5_11) rfl (l' := #[.val (.ref wa), .val (.int cnt), .val (.ref a1), .val (.double 0), .second, .val (.ref wa), .val (.int (4 : Int32)), .val (.int (0 : Int32)), .unset, .unset, .unset, .unset, .unset, .unset, .unset]) rfl ?_
    show Steps p.tables e below (s₁.setTop (mkF m 13 #[.val (.ref wa), .val (.int cnt), .val (.ref a1), .val (.double 0), .second, .val (.ref wa), .val (.int (4 : Int32)), .val (.int (0 : Int32)), .unset, .unset, .unset, .unset, .unset, .unset, .unset] [])) _
    refine XS.iload X0.here hx rfl (hb hby d5_13) rfl ?_
    show Steps p.tables e below (s₁.setTop (mkF m 15 #[.val (.ref wa), .val (.int cnt), .val (.ref a1), .val (.double 0), .second, .val (.ref wa), .val (.int (4 : Int32)), .val (.int (0 : Int32)), .unset, .unset, .unset, .unset, .unset, .unset, .unset] [(.int (0 : Int32))])) _
    refine XS.iload X0.here hx rfl (hb hby d5_15) rfl ?_
    show Steps p.tables e below (s₁.setTop (mkF m 17 #[.val (.ref wa), .val (.int cnt), .val (.ref a1), .val (.double 0), .second, .val (.ref wa), .val (.int (4 : Int32)), .val (.int (0 : Int32)), .unset, .unset, .unset, .unset, .unset, .unset, .unset] [(.int (4 : Int32)), (.int (0 : Int32))])) _
    refine XS.icmpNo X0.here hx rfl (hb hby d5_17) rfl (XT.ii_ge_f (by decide)) ?_
    show Steps p.tables e below (s₁.setTop (mkF m 20 #[.val (.ref wa), .val (.int cnt), .val (.ref a1), .val (.double 0), .second, .val (.ref wa), .val (.int (4 : Int32)), .val (.int (0 : Int32)), .unset, .unset, .unset, .unset, .unset, .unset, .unset] [])) _
    refine XS.aload X0.here hx rfl (hb hby d5_20) rfl rfl ?_
    show Steps p.tables e below (s₁.setTop (mkF m 22 #[.val (.ref wa), .val (.int cnt), .val (.ref a1), .val (.double 0), .second, .val (.ref wa), .val (.int (4 : Int32)), .val (.int (0 : Int32)), .unset, .unset, .unset, .unset, .unset, .unset, .unset] [(.ref wa)])) _
    refine XS.iload X0.here hx rfl (hb hby d5_22) rfl ?_
    show Steps p.tables e below (s₁.setTop (mkF m 24 #[.val (.ref wa), .val (.int cnt), .val (.ref a1), .val (.double 0), .second, .val (.ref wa), .val (.int (4 : Int32)), .val (.int (0 : Int32)), .unset, .unset, .unset, .unset, .unset, .unset, .unset] [(.int (0 : Int32)), (.ref wa)])) _
    refine X0.daload hx (j := (0 : Int32)) (v := (.double (own_wt na nb xb 0))) (by rw [e0]; exact A110.1) (State.isArrayOf_alike hZ.alike A110.2.1) A110.2.2 (own_in own_ix0 S110) (V110 _ (own_ix0).2) (g := (mkF m 24 #[.val (.ref wa), .val (.int cnt), .val (.ref a1), .val (.double 0), .second, .val (.ref wa), .val (.int (4 : Int32)), .val (.int (0 : Int32)), .unset, .unset, .unset, .unset, .unset, .unset, .unset] [(.int (0 : Int32)), (.ref wa)])) rfl rfl (hb hby d5_24) _ ?_
    show Steps p.tables e below (s₁.setTop (mkF m 25 #[.val (.ref wa), .val (.int cnt), .val (.ref a1), .val (.double 0), .second, .val (.ref wa), .val (.int (4 : Int32)), .val (.int (0 : Int32)), .unset, .unset, .unset, .unset, .unset, .unset, .unset] [(.double (own_wt na nb xb 0))])) _
    refine XS.dstore X0.here hx rfl (hb hby d5_25) rfl (l' := #[.val (.ref wa), .val (.int cnt), .val (.ref a1), .val (.double 0), .second, .val (.ref wa), .val (.int (4 : Int32)), .val (.int (0 : Int32)), .val (.double (own_wt na nb xb 0)), .second, .unset, .unset, .unset, .unset, .unset]) rfl ?_
    show Steps p.tables e below (s₁.setTop (mkF m 27 #[.val (.ref wa), .val (.int cnt), .val (.ref a1), .val (.double 0), .second, .val (.ref wa), .val (.int (4 : Int32)), .val (.int (0 : Int32)), .val (.double (own_wt na nb xb 0)), .second, .unset, .unset, .unset, .unset, .unset] [])) _
    refine XS.dloadN X0.here hx rfl (hb hby d5_27) rfl ?_
    show Steps p.tables e below (s₁.setTop (mkF m 28 #[.val (.ref wa), .val (.int cnt), .val (.ref a1), .val (.double 0), .second, .val (.ref wa), .val (.int (4 : Int32)), .val (.int (0 : Int32)), .val (.double (own_wt na nb xb 0)), .second, .unset, .unset, .unset, .unset, .unset] [(.double 0)])) _
    refine XS.dload X0.here hx rfl (hb hby d5_28) rfl ?_
    show Steps p.tables e below (s₁.setTop (mkF m 30 #[.val (.ref wa), .val (.int cnt), .val (.ref a1), .val (.double 0), .second, .val (.ref wa), .val (.int (4 : Int32)), .val (.int (0 : Int32)), .val (.double (own_wt na nb xb 0)), .second, .unset, .unset, .unset, .unset, .unset] [(.double (own_wt na nb xb 0)), (.double 0)])) _
    refine XS.daddS X0.here hx rfl (hb hby d5_30) rfl zx1.nn rfl ?_
    show Steps p.tables e below (s₁.setTop (mkF m 31 #[.val (.ref wa), .val (.int cnt), .val (.ref a1), .val (.double 0), .second, .val (.ref wa), .val (.int (4 : Int32)), .val (.int (0 : Int32)), .val (.double (own_wt na nb xb 0)), .second, .unset, .unset, .unset, .unset, .unset] [(.double (FP.dadd 0 (own_wt na nb xb 0)))])) _
    refine XS.dstoreN X0.here hx rfl (hb hby d5_31) rfl (l' := #[.val (.ref wa), .val (.int cnt), .val (.ref a1), .val (.double (FP.dadd 0 (own_wt na nb xb 0))), .second, .val (.ref wa), .val (.int (4 : Int32)), .val (.int (0 : Int32)), .val (.double (own_wt na nb xb 0)), .second, .unset, .unset, .unset, .unset, .unset]) rfl ?_
    show Steps p.tables e below (s₁.setTop (mkF m 32 #[.val (.ref wa), .val (.int cnt), .val (.ref a1), .val (.double (FP.dadd 0 (own_wt na nb xb 0))), .second, .val (.ref wa), .val (.int (4 : Int32)), .val (.int (0 : Int32)), .val (.double (own_wt na nb xb 0)), .second, .unset, .unset, .unset, .unset, .unset] [])) _
    refine XS.iinc X0.here hx rfl (hb hby d5_32) rfl (l' := #[.val (.ref wa), .val (.int cnt), .val (.ref a1), .val (.double (FP.dadd 0 (own_wt na nb xb 0))), .second, .val (.ref wa), .val (.int (4 : Int32)), .val (.int ((0 : Int32) + (1 : Int32))), .val (.double (own_wt na nb xb 0)), .second, .unset, .unset, .unset, .unset, .unset]) rfl ?_
    show Steps p.tables e below (s₁.setTop (mkF m 35 #[.val (.ref wa), .val (.int cnt), .val (.ref a1), .val (.double (FP.dadd 0 (own_wt na nb xb 0))), .second, .val (.ref wa), .val (.int (4 : Int32)), .val (.int ((0 : Int32) + (1 : Int32))), .val (.double (own_wt na nb xb 0)), .second, .unset, .unset, .unset, .unset, .unset] [])) _
    refine XS.goto X0.here hx rfl (pc0 := 35) (pc' := 13) rfl (hb hby d5_35) (by decide) (by decide) ?_
    exact k
  obtain ⟨x1, hx1_⟩ : ∃ z : UInt64, z = (FP.dadd 0 (own_wt na nb xb 0)) := ⟨_, rfl⟩
  rw [← hx1_] at C111
  rw [← hx1_] at zx1
  obtain ⟨c112, A112, S112, V112⟩ := id Wt
  have zx2 := own_sum_step (i := 1) hab hc6 zb zx1
  have C113 : ∀ t, Steps p.tables e below (s₁.setTop (mkF m 13 #[.val (.ref wa), .val (.int cnt), .val (.ref a1), .val (.double (FP.dadd x1 (own_wt na nb xb 1))), .second, .val (.ref wa), .val (.int (4 : Int32)), .val (.int (2 : Int32)), .val (.double (own_wt na nb xb 1)), .second, .unset, .unset, .unset, .unset, .unset] [])) t → Steps p.tables e below (s₁.setTop (entryFrame m #[(.ref wa), (.int cnt), (.ref a1)] 15)) t := by
    intro t k
    refine C111 t ?_
    show Steps p.tables e below (s₁.setTop (mkF m 13 #[.val (.ref wa), .val (.int cnt), .val (.ref a1), .val (.double x1), .second, .val (.ref wa), .val (.int (4 : Int32)), .val (.int (1 : Int32)), .val (.double (own_wt na nb xb 0)), .second, .unset, .unset, .unset, .unset, .unset] [])) _
    refine XS.iload X0.here hx rfl (hb hby d5_13) rfl ?_
    show Steps p.tables e below (s₁.setTop (mkF m 15 #[.val (.ref wa), .val (.int cnt), .val (.ref a1), .val (.double x1), .second, .val (.ref wa), .val (.int (4 : Int32)), .val (.int (1 : Int32)), .val (.double (own_wt na nb xb 0)), .second, .unset, .unset, .unset, .unset, .unset] [(.int (1 : Int32))])) _
    refine XS.iload X0.here hx rfl (hb hby d5_15) rfl ?_
    show Steps p.tables e below (s₁.setTop (mkF m 17 #[.val (.ref wa), .val (.int cnt), .val (.ref a1), .val (.double x1), .second, .val (.ref wa), .val (.int (4 : Int32)), .val (.int (1 : Int32)), .val (.double (own_wt na nb xb 0)), .second, .unset, .unset, .unset, .unset, .unset] [(.int (4 : Int32)), (.int (1 : Int32))])) _
    refine XS.icmpNo X0.here hx rfl (hb hby d5_17) rfl (XT.ii_ge_f (by decide)) ?_
    show Steps p.tables e below (s₁.setTop (mkF m 20 #[.val (.ref wa), .val (.int cnt), .val (.ref a1), .val (.double x1), .second, .val (.ref wa), .val (.int (4 : Int32)), .val (.int (1 : Int32)), .val (.double (own_wt na nb xb 0)), .second, .unset, .unset, .unset, .unset, .unset] [])) _
    refine XS.aload X0.here hx rfl (hb hby d5_20) rfl rfl ?_
    show Steps p.tables e below (s₁.setTop (mkF m 22 #[.val (.ref wa), .val (.int cnt), .val (.ref a1), .val (.double x1), .second, .val (.ref wa), .val (.int (4 : Int32)), .val (.int (1 : Int32)), .val (.double (own_wt na nb xb 0)), .second, .unset, .unset, .unset, .unset, .unset] [(.ref wa)])) _
    refine XS.iload X0.here hx rfl (hb hby d5_22) rfl ?_
    show Steps p.tables e below (s₁.setTop (mkF m 24 #[.val (.ref wa), .val (.int cnt), .val (.ref a1), .val (.double x1), .second, .val (.ref wa), .val (.int (4 : Int32)), .val (.int (1 : Int32)), .val (.double (own_wt na nb xb 0)), .second, .unset, .unset, .unset, .unset, .unset] [(.int (1 : Int32)), (.ref wa)])) _
    refine X0.daload hx (j := (1 : Int32)) (v := (.double (own_wt na nb xb 1))) (by rw [e0]; exact A112.1) (State.isArrayOf_alike hZ.alike A112.2.1) A112.2.2 (own_in own_ix1 S112) (V112 _ (own_ix1).2) (g := (mkF m 24 #[.val (.ref wa), .val (.int cnt), .val (.ref a1), .val (.double x1), .second, .val (.ref wa), .val (.int (4 : Int32)), .val (.int (1 : Int32)), .val (.double (own_wt na nb xb 0)), .second, .unset, .unset, .unset, .unset, .unset] [(.int (1 : Int32)), (.ref wa)])) rfl rfl (hb hby d5_24) _ ?_
    show Steps p.tables e below (s₁.setTop (mkF m 25 #[.val (.ref wa), .val (.int cnt), .val (.ref a1), .val (.double x1), .second, .val (.ref wa), .val (.int (4 : Int32)), .val (.int (1 : Int32)), .val (.double (own_wt na nb xb 0)), .second, .unset, .unset, .unset, .unset, .unset] [(.double (own_wt na nb xb 1))])) _
    refine XS.dstore X0.here hx rfl (hb hby d5_25) rfl (l' := #[.val (.ref wa), .val (.int cnt), .val (.ref a1), .val (.double x1), .second, .val (.ref wa), .val (.int (4 : Int32)), .val (.int (1 : Int32)), .val (.double (own_wt na nb xb 1)), .second, .unset, .unset, .unset, .unset, .unset]) rfl ?_
    show Steps p.tables e below (s₁.setTop (mkF m 27 #[.val (.ref wa), .val (.int cnt), .val (.ref a1), .val (.double x1), .second, .val (.ref wa), .val (.int (4 : Int32)), .val (.int (1 : Int32)), .val (.double (own_wt na nb xb 1)), .second, .unset, .unset, .unset, .unset, .unset] [])) _
    refine XS.dloadN X0.here hx rfl (hb hby d5_27) rfl ?_
    show Steps p.tables e below (s₁.setTop (mkF m 28 #[.val (.ref wa), .val (.int cnt), .val (.ref a1), .val (.double x1), .second, .val (.ref wa), .val (.int (4 : Int32)), .val (.int (1 : Int32)), .val (.double (own_wt na nb xb 1)), .second, .unset, .unset, .unset, .unset, .unset] [(.double x1)])) _
    refine XS.dload X0.here hx rfl (hb hby d5_28) rfl ?_
    show Steps p.tables e below (s₁.setTop (mkF m 30 #[.val (.ref wa), .val (.int cnt), .val (.ref a1), .val (.double x1), .second, .val (.ref wa), .val (.int (4 : Int32)), .val (.int (1 : Int32)), .val (.double (own_wt na nb xb 1)), .second, .unset, .unset, .unset, .unset, .unset] [(.double (own_wt na nb xb 1)), (.double x1)])) _
    refine XS.daddS X0.here hx rfl (hb hby d5_30) rfl zx2.nn rfl ?_
    show Steps p.tables e below (s₁.setTop (mkF m 31 #[.val (.ref wa), .val (.int cnt), .val (.ref a1), .val (.double x1), .second, .val (.ref wa), .val (.int (4 : Int32)), .val (.int (1 : Int32)), .val (.double (own_wt na nb xb 1)), .second, .unset, .unset, .unset, .unset, .unset] [(.double (FP.dadd x1 (own_wt na nb xb 1)))])) _
    refine XS.dstoreN X0.here hx rfl (hb hby d5_31) rfl (l' := #[.val (.ref wa), .val (.int cnt), .val (.ref a1), .val (.double (FP.dadd x1 (own_wt na nb xb 1))), .second, .val (.ref wa), .val (.int (4 : Int32)), .val (.int (1 : Int32)), .val (.double (own_wt na nb xb 1)), .second, .unset, .unset, .unset, .unset, .unset]) rfl ?_
    show Steps p.tables e below (s₁.setTop (mkF m 32 #[.val (.ref wa), .val (.int cnt), .val (.ref a1), .val (.double (FP.dadd x1 (own_wt na nb xb 1))), .second, .val (.ref wa), .val (.int (4 : Int32)), .val (.int (1 : Int32)), .val (.double (own_wt na nb xb 1)), .second, .unset, .unset, .unset, .unset, .unset] [])) _
    refine XS.iinc X0.here hx rfl (hb hby d5_32) rfl (l' := #[.val (.ref wa), .val (.int cnt), .val (.ref a1), .val (.double (FP.dadd x1 (own_wt na nb xb 1))), .second, .val (.ref wa), .val (.int (4 : Int32)), .val (.int ((1 : Int32) + (1 : Int32))), .val (.double (own_wt na nb xb 1)), .second, .unset, .unset, .unset, .unset, .unset]) rfl ?_
    show Steps p.tables e below (s₁.setTop (mkF m 35 #[.val (.ref wa), .val (.int cnt), .val (.ref a1), .val (.double (FP.dadd x1 (own_wt na nb xb 1))), .second, .val (.ref wa), .val (.int (4 : Int32)), .val (.int ((1 : Int32) + (1 : Int32))), .val (.double (own_wt na nb xb 1)), .second, .unset, .unset, .unset, .unset, .unset] [])) _
    refine XS.goto X0.here hx rfl (pc0 := 35) (pc' := 13) rfl (hb hby d5_35) (by decide) (by decide) ?_
    exact k
  obtain ⟨x2, hx2_⟩ : ∃ z : UInt64, z = (FP.dadd x1 (own_wt na nb xb 1)) := ⟨_, rfl⟩
  rw [← hx2_] at C113
  rw [← hx2_] at zx2
  obtain ⟨c114, A114, S114, V114⟩ := id Wt
  have zx3 := own_sum_step (i := 2) hab hc6 zb zx2
  have C115 : ∀ t, Steps p.tables e below (s₁.setTop (mkF m 13 #[.val (.ref wa), .val (.int cnt), .val (.ref a1), .val (.double (FP.dadd x2 (own_wt na nb xb 2))), .second, .val (.ref wa), .val (.int (4 : Int32)), .val (.int (3 : Int32)), .val (.double (own_wt na nb xb 2)), .second, .unset, .unset, .unset, .unset, .unset] [])) t → Steps p.tables e below (s₁.setTop (entryFrame m #[(.ref wa), (.int cnt), (.ref a1)] 15)) t := by
    intro t k
    refine C113 t ?_
    show Steps p.tables e below (s₁.setTop (mkF m 13 #[.val (.ref wa), .val (.int cnt), .val (.ref a1), .val (.double x2), .second, .val (.ref wa), .val (.int (4 : Int32)), .val (.int (2 : Int32)), .val (.double (own_wt na nb xb 1)), .second, .unset, .unset, .unset, .unset, .unset] [])) _
    refine XS.iload X0.here hx rfl (hb hby d5_13) rfl ?_
    show Steps p.tables e below (s₁.setTop (mkF m 15 #[.val (.ref wa), .val (.int cnt), .val (.ref a1), .val (.double x2), .second, .val (.ref wa), .val (.int (4 : Int32)), .val (.int (2 : Int32)), .val (.double (own_wt na nb xb 1)), .second, .unset, .unset, .unset, .unset, .unset] [(.int (2 : Int32))])) _
    refine XS.iload X0.here hx rfl (hb hby d5_15) rfl ?_
    show Steps p.tables e below (s₁.setTop (mkF m 17 #[.val (.ref wa), .val (.int cnt), .val (.ref a1), .val (.double x2), .second, .val (.ref wa), .val (.int (4 : Int32)), .val (.int (2 : Int32)), .val (.double (own_wt na nb xb 1)), .second, .unset, .unset, .unset, .unset, .unset] [(.int (4 : Int32)), (.int (2 : Int32))])) _
    refine XS.icmpNo X0.here hx rfl (hb hby d5_17) rfl (XT.ii_ge_f (by decide)) ?_
    show Steps p.tables e below (s₁.setTop (mkF m 20 #[.val (.ref wa), .val (.int cnt), .val (.ref a1), .val (.double x2), .second, .val (.ref wa), .val (.int (4 : Int32)), .val (.int (2 : Int32)), .val (.double (own_wt na nb xb 1)), .second, .unset, .unset, .unset, .unset, .unset] [])) _
    refine XS.aload X0.here hx rfl (hb hby d5_20) rfl rfl ?_
    show Steps p.tables e below (s₁.setTop (mkF m 22 #[.val (.ref wa), .val (.int cnt), .val (.ref a1), .val (.double x2), .second, .val (.ref wa), .val (.int (4 : Int32)), .val (.int (2 : Int32)), .val (.double (own_wt na nb xb 1)), .second, .unset, .unset, .unset, .unset, .unset] [(.ref wa)])) _
    refine XS.iload X0.here hx rfl (hb hby d5_22) rfl ?_
    show Steps p.tables e below (s₁.setTop (mkF m 24 #[.val (.ref wa), .val (.int cnt), .val (.ref a1), .val (.double x2), .second, .val (.ref wa), .val (.int (4 : Int32)), .val (.int (2 : Int32)), .val (.double (own_wt na nb xb 1)), .second, .unset, .unset, .unset, .unset, .unset] [(.int (2 : Int32)), (.ref wa)])) _
    refine X0.daload hx (j := (2 : Int32)) (v := (.double (own_wt na nb xb 2))) (by rw [e0]; exact A114.1) (State.isArrayOf_alike hZ.alike A114.2.1) A114.2.2 (own_in own_ix2 S114) (V114 _ (own_ix2).2) (g := (mkF m 24 #[.val (.ref wa), .val (.int cnt), .val (.ref a1), .val (.double x2), .second, .val (.ref wa), .val (.int (4 : Int32)), .val (.int (2 : Int32)), .val (.double (own_wt na nb xb 1)), .second, .unset, .unset, .unset, .unset, .unset] [(.int (2 : Int32)), (.ref wa)])) rfl rfl (hb hby d5_24) _ ?_
    show Steps p.tables e below (s₁.setTop (mkF m 25 #[.val (.ref wa), .val (.int cnt), .val (.ref a1), .val (.double x2), .second, .val (.ref wa), .val (.int (4 : Int32)), .val (.int (2 : Int32)), .val (.double (own_wt na nb xb 1)), .second, .unset, .unset, .unset, .unset, .unset] [(.double (own_wt na nb xb 2))])) _
    refine XS.dstore X0.here hx rfl (hb hby d5_25) rfl (l' := #[.val (.ref wa), .val (.int cnt), .val (.ref a1), .val (.double x2), .second, .val (.ref wa), .val (.int (4 : Int32)), .val (.int (2 : Int32)), .val (.double (own_wt na nb xb 2)), .second, .unset, .unset, .unset, .unset, .unset]) rfl ?_
    show Steps p.tables e below (s₁.setTop (mkF m 27 #[.val (.ref wa), .val (.int cnt), .val (.ref a1), .val (.double x2), .second, .val (.ref wa), .val (.int (4 : Int32)), .val (.int (2 : Int32)), .val (.double (own_wt na nb xb 2)), .second, .unset, .unset, .unset, .unset, .unset] [])) _
    refine XS.dloadN X0.here hx rfl (hb hby d5_27) rfl ?_
    show Steps p.tables e below (s₁.setTop (mkF m 28 #[.val (.ref wa), .val (.int cnt), .val (.ref a1), .val (.double x2), .second, .val (.ref wa), .val (.int (4 : Int32)), .val (.int (2 : Int32)), .val (.double (own_wt na nb xb 2)), .second, .unset, .unset, .unset, .unset, .unset] [(.double x2)])) _
    refine XS.dload X0.here hx rfl (hb hby d5_28) rfl ?_
    show Steps p.tables e below (s₁.setTop (mkF m 30 #[.val (.ref wa), .val (.int cnt), .val (.ref a1), .val (.double x2), .second, .val (.ref wa), .val (.int (4 : Int32)), .val (.int (2 : Int32)), .val (.double (own_wt na nb xb 2)), .second, .unset, .unset, .unset, .unset, .unset] [(.double (own_wt na nb xb 2)), (.double x2)])) _
    refine XS.daddS X0.here hx rfl (hb hby d5_30) rfl zx3.nn rfl ?_
    show Steps p.tables e below (s₁.setTop (mkF m 31 #[.val (.ref wa), .val (.int cnt), .val (.ref a1), .val (.double x2), .second, .val (.ref wa), .val (.int (4 : Int32)), .val (.int (2 : Int32)), .val (.double (own_wt na nb xb 2)), .second, .unset, .unset, .unset, .unset, .unset] [(.double (FP.dadd x2 (own_wt na nb xb 2)))])) _
    refine XS.dstoreN X0.here hx rfl (hb hby d5_31) rfl (l' := #[.val (.ref wa), .val (.int cnt), .val (.ref a1), .val (.double (FP.dadd x2 (own_wt na nb xb 2))), .second, .val (.ref wa), .val (.int (4 : Int32)), .val (.int (2 : Int32)), .val (.double (own_wt na nb xb 2)), .second, .unset, .unset, .unset, .unset, .unset]) rfl ?_
    show Steps p.tables e below (s₁.setTop (mkF m 32 #[.val (.ref wa), .val (.int cnt), .val (.ref a1), .val (.double (FP.dadd x2 (own_wt na nb xb 2))), .second, .val (.ref wa), .val (.int (4 : Int32)), .val (.int (2 : Int32)), .val (.double (own_wt na nb xb 2)), .second, .unset, .unset, .unset, .unset, .unset] [])) _
    refine XS.iinc X0.here hx rfl (hb hby d5_32) rfl (l' := #[.val (.ref wa), .val (.int cnt), .val (.ref a1), .val (.double (FP.dadd x2 (own_wt na nb xb 2))), .second, .val (.ref wa), .val (.int (4 : Int32)), .val (.int ((2 : Int32) + (1 : Int32))), .val (.double (own_wt na nb xb 2)), .second, .unset, .unset, .unset, .unset, .unset]) rfl ?_
    show Steps p.tables e below (s₁.setTop (mkF m 35 #[.val (.ref wa), .val (.int cnt), .val (.ref a1), .val (.double (FP.dadd x2 (own_wt na nb xb 2))), .second, .val (.ref wa), .val (.int (4 : Int32)), .val (.int ((2 : Int32) + (1 : Int32))), .val (.double (own_wt na nb xb 2)), .second, .unset, .unset, .unset, .unset, .unset] [])) _
    refine XS.goto X0.here hx rfl (pc0 := 35) (pc' := 13) rfl (hb hby d5_35) (by decide) (by decide) ?_
    exact k
  obtain ⟨x3, hx3_⟩ : ∃ z : UInt64, z = (FP.dadd x2 (own_wt na nb xb 2)) := ⟨_, rfl⟩
  rw [← hx3_] at C115
  rw [← hx3_] at zx3
  obtain ⟨c116, A116, S116, V116⟩ := id Wt
  have zx4 := own_sum_step (i := 3) hab hc6 zb zx3
  have C117 : ∀ t, Steps p.tables e below (s₁.setTop (mkF m 13 #[.val (.ref wa), .val (.int cnt), .val (.ref a1), .val (.double (FP.dadd x3 (own_wt na nb xb 3))), .second, .val (.ref wa), .val (.int (4 : Int32)), .val (.int (4 : Int32)), .val (.double (own_wt na nb xb 3)), .second, .unset, .unset, .unset, .unset, .unset] [])) t → Steps p.tables e below (s₁.setTop (entryFrame m #[(.ref wa), (.int cnt), (.ref a1)] 15)) t := by
    intro t k
    refine C115 t ?_
    show Steps p.tables e below (s₁.setTop (mkF m 13 #[.val (.ref wa), .val (.int cnt), .val (.ref a1), .val (.double x3), .second, .val (.ref wa), .val (.int (4 : Int32)), .val (.int (3 : Int32)), .val (.double (own_wt na nb xb 2)), .second, .unset, .unset, .unset, .unset, .unset] [])) _
    refine XS.iload X0.here hx rfl (hb hby d5_13) rfl ?_
    show Steps p.tables e below (s₁.setTop (mkF m 15 #[.val (.ref wa), .val (.int cnt), .val (.ref a1), .val (.double x3), .second, .val (.ref wa), .val (.int (4 : Int32)), .val (.int (3 : Int32)), .val (.double (own_wt na nb xb 2)), .second, .unset, .unset, .unset, .unset, .unset] [(.int (3 : Int32))])) _
    refine XS.iload X0.here hx rfl (hb hby d5_15) rfl ?_
    show Steps p.tables e below (s₁.setTop (mkF m 17 #[.val (.ref wa), .val (.int cnt), .val (.ref a1), .val (.double x3), .second, .val (.ref wa), .val (.int (4 : Int32)), .val (.int (3 : Int32)), .val (.double (own_wt na nb xb 2)), .second, .unset, .unset, .unset, .unset, .unset] [(.int (4 : Int32)), (.int (3 : Int32))])) _
    refine XS.icmpNo X0.here hx rfl (hb hby d5_17) rfl (XT.ii_ge_f (by decide)) ?_
    show Steps p.tables e below (s₁.setTop (mkF m 20 #[.val (.ref wa), .val (.int cnt), .val (.ref a1), .val (.double x3), .second, .val (.ref wa), .val (.int (4 : Int32)), .val (.int (3 : Int32)), .val (.double (own_wt na nb xb 2)), .second, .unset, .unset, .unset, .unset, .unset] [])) _
    refine XS.aload X0.here hx rfl (hb hby d5_20) rfl rfl ?_
    show Steps p.tables e below (s₁.setTop (mkF m 22 #[.val (.ref wa), .val (.int cnt), .val (.ref a1), .val (.double x3), .second, .val (.ref wa), .val (.int (4 : Int32)), .val (.int (3 : Int32)), .val (.double (own_wt na nb xb 2)), .second, .unset, .unset, .unset, .unset, .unset] [(.ref wa)])) _
    refine XS.iload X0.here hx rfl (hb hby d5_22) rfl ?_
    show Steps p.tables e below (s₁.setTop (mkF m 24 #[.val (.ref wa), .val (.int cnt), .val (.ref a1), .val (.double x3), .second, .val (.ref wa), .val (.int (4 : Int32)), .val (.int (3 : Int32)), .val (.double (own_wt na nb xb 2)), .second, .unset, .unset, .unset, .unset, .unset] [(.int (3 : Int32)), (.ref wa)])) _
    refine X0.daload hx (j := (3 : Int32)) (v := (.double (own_wt na nb xb 3))) (by rw [e0]; exact A116.1) (State.isArrayOf_alike hZ.alike A116.2.1) A116.2.2 (own_in own_ix3 S116) (V116 _ (own_ix3).2) (g := (mkF m 24 #[.val (.ref wa), .val (.int cnt), .val (.ref a1), .val (.double x3), .second, .val (.ref wa), .val (.int (4 : Int32)), .val (.int (3 : Int32)), .val (.double (own_wt na nb xb 2)), .second, .unset, .unset, .unset, .unset, .unset] [(.int (3 : Int32)), (.ref wa)])) rfl rfl (hb hby d5_24) _ ?_
    show Steps p.tables e below (s₁.setTop (mkF m 25 #[.val (.ref wa), .val (.int cnt), .val (.ref a1), .val (.double x3), .second, .val (.ref wa), .val (.int (4 : Int32)), .val (.int (3 : Int32)), .val (.double (own_wt na nb xb 2)), .second, .unset, .unset, .unset, .unset, .unset] [(.double (own_wt na nb xb 3))])) _
    refine XS.dstore X0.here hx rfl (hb hby d5_25) rfl (l' := #[.val (.ref wa), .val (.int cnt), .val (.ref a1), .val (.double x3), .second, .val (.ref wa), .val (.int (4 : Int32)), .val (.int (3 : Int32)), .val (.double (own_wt na nb xb 3)), .second, .unset, .unset, .unset, .unset, .unset]) rfl ?_
    show Steps p.tables e below (s₁.setTop (mkF m 27 #[.val (.ref wa), .val (.int cnt), .val (.ref a1), .val (.double x3), .second, .val (.ref wa), .val (.int (4 : Int32)), .val (.int (3 : Int32)), .val (.double (own_wt na nb xb 3)), .second, .unset, .unset, .unset, .unset, .unset] [])) _
    refine XS.dloadN X0.here hx rfl (hb hby d5_27) rfl ?_
    show Steps p.tables e below (s₁.setTop (mkF m 28 #[.val (.ref wa), .val (.int cnt), .val (.ref a1), .val (.double x3), .second, .val (.ref wa), .val (.int (4 : Int32)), .val (.int (3 : Int32)), .val (.double (own_wt na nb xb 3)), .second, .unset, .unset, .unset, .unset, .unset] [(.double x3)])) _
    refine XS.dload X0.here hx rfl (hb hby d5_28) rfl ?_
    show Steps p.tables e below (s₁.setTop (mkF m 30 #[.val (.ref wa), .val (.int cnt), .val (.ref a1), .val (.double x3), .second, .val (.ref wa), .val (.int (4 : Int32)), .val (.int (3 : Int32)), .val (.double (own_wt na nb xb 3)), .second, .unset, .unset, .unset, .unset, .unset] [(.double (own_wt na nb xb 3)), (.double x3)])) _
    refine XS.daddS X0.here hx rfl (hb hby d5_30) rfl zx4.nn rfl ?_
    show Steps p.tables e below (s₁.setTop (mkF m 31 #[.val (.ref wa), .val (.int cnt), .val (.ref a1), .val (.double x3), .second, .val (.ref wa), .val (.int (4 : Int32)), .val (.int (3 : Int32)), .val (.double (own_wt na nb xb 3)), .second, .unset, .unset, .unset, .unset, .unset] [(.double (FP.dadd x3 (own_wt na nb xb 3)))])) _
    refine XS.dstoreN X0.here hx rfl (hb hby d5_31) rfl (l' := #[.val (.ref wa), .val (.int cnt), .val (.ref a1), .val (.double (FP.dadd x3 (own_wt na nb xb 3))), .second, .val (.ref wa), .val (.int (4 : Int32)), .val (.int (3 : Int32)), .val (.double (own_wt na nb xb 3)), .second, .unset, .unset, .unset, .unset, .unset]) rfl ?_
    show Steps p.tables e below (s₁.setTop (mkF m 32 #[.val (.ref wa), .val (.int cnt), .val (.ref a1), .val (.double (FP.dadd x3 (own_wt na nb xb 3))), .second, .val (.ref wa), .val (.int (4 : Int32)), .val (.int (3 : Int32)), .val (.double (own_wt na nb xb 3)), .second, .unset, .unset, .unset, .unset, .unset] [])) _
    refine XS.iinc X0.here hx rfl (hb hby d5_32) rfl (l' := #[.val (.ref wa), .val (.int cnt), .val (.ref a1), .val (.double (FP.dadd x3 (own_wt na nb xb 3))), .second, .val (.ref wa), .val (.int (4 : Int32)), .val (.int ((3 : Int32) + (1 : Int32))), .val (.double (own_wt na nb xb 3)), .second, .unset, .unset, .unset, .unset, .unset]) rfl ?_
    show Steps p.tables e below (s₁.setTop (mkF m 35 #[.val (.ref wa), .val (.int cnt), .val (.ref a1), .val (.double (FP.dadd x3 (own_wt na nb xb 3))), .second, .val (.ref wa), .val (.int (4 : Int32)), .val (.int ((3 : Int32) + (1 : Int32))), .val (.double (own_wt na nb xb 3)), .second, .unset, .unset, .unset, .unset, .unset] [])) _
    refine XS.goto X0.here hx rfl (pc0 := 35) (pc' := 13) rfl (hb hby d5_35) (by decide) (by decide) ?_
    exact k
  obtain ⟨x4, hx4_⟩ : ∃ z : UInt64, z = (FP.dadd x3 (own_wt na nb xb 3)) := ⟨_, rfl⟩
  rw [← hx4_] at C117
  rw [← hx4_] at zx4
  rw [own_sm4 hab hb4 hc2] at zx4
  have zc := own_i2d (v := cnt) (by omega)
  rw [hcnt, Int.toNat_natCast] at zc
  have zsp : OwnZ (FP.ddiv x4 (FP.i2d cnt)) Jvm.FP.Core.one64 := OwnZ.div zx4 zc (Nat.ne_of_gt (Nat.mul_pos (by omega) Jvm.FP.Core.one64_pos)) own_one.rep (Nat.mul_comm _ _)
  have C118 : ∀ t, Steps p.tables e below (s₁.setTop (mkF m 44 #[.val (.ref wa), .val (.int cnt), .val (.ref a1), .val (.double x4), .second, .val (.double (FP.ddiv x4 (FP.i2d cnt))), .second, .val (.int (4 : Int32)), .val (.double (own_wt na nb xb 3)), .second, .unset, .unset, .unset, .unset, .unset] [])) t → Steps p.tables e below (s₁.setTop (entryFrame m #[(.ref wa), (.int cnt), (.ref a1)] 15)) t := by
    intro t k
    refine C117 t ?_
    show Steps p.tables e below (s₁.setTop (mkF m 13 #[.val (.ref wa), .val (.int cnt), .val (.ref a1), .val (.double x4), .second, .val (.ref wa), .val (.int (4 : Int32)), .val (.int (4 : Int32)), .val (.double (own_wt na nb xb 3)), .second, .unset, .unset, .unset, .unset, .unset] [])) _
    refine XS.iload X0.here hx rfl (hb hby d5_13) rfl ?_
    show Steps p.tables e below (s₁.setTop (mkF m 15 #[.val (.ref wa), .val (.int cnt), .val (.ref a1), .val (.double x4), .second, .val (.ref wa), .val (.int (4 : Int32)), .val (.int (4 : Int32)), .val (.double (own_wt na nb xb 3)), .second, .unset, .unset, .unset, .unset, .unset] [(.int (4 : Int32))])) _
    refine XS.iload X0.here hx rfl (hb hby d5_15) rfl ?_
    show Steps p.tables e below (s₁.setTop (mkF m 17 #[.val (.ref wa), .val (.int cnt), .val (.ref a1), .val (.double x4), .second, .val (.ref wa), .val (.int (4 : Int32)), .val (.int (4 : Int32)), .val (.double (own_wt na nb xb 3)), .second, .unset, .unset, .unset, .unset, .unset] [(.int (4 : Int32)), (.int (4 : Int32))])) _
    refine XS.icmpYes X0.here hx rfl (pc0 := 17) (pc' := 38) rfl (hb hby d5_17) rfl (XT.ii_ge_t (by decide)) (by decide) (by decide) ?_
    show Steps p.tables e below (s₁.setTop (mkF m 38 #[.val (.ref wa), .val (.int cnt), .val (.ref a1), .val (.double x4), .second, .val (.ref wa), .val (.int (4 : Int32)), .val (.int (4 : Int32)), .val (.double (own_wt na nb xb 3)), .second, .unset, .unset, .unset, .unset, .unset] [])) _
    refine XS.dloadN X0.here hx rfl (hb hby d5_38) rfl ?_
    show Steps p.tables e below (s₁.setTop (mkF m 39 #[.val (.ref wa), .val (.int cnt), .val (.ref a1), .val (.double x4), .second, .val (.ref wa), .val (.int (4 : Int32)), .val (.int (4 : Int32)), .val (.double (own_wt na nb xb 3)), .second, .unset, .unset, .unset, .unset, .unset] [(.double x4)])) _
    refine XS.iloadN X0.here hx rfl (hb hby d5_39) rfl ?_
    show Steps p.tables e below (s₁.setTop (mkF m 40 #[.val (.ref wa), .val (.int cnt), .val (.ref a1), .val (.double x4), .second, .val (.ref wa), .val (.int (4 : Int32)), .val (.int (4 : Int32)), .val (.double (own_wt na nb xb 3)), .second, .unset, .unset, .unset, .unset, .unset] [(.int cnt), (.double x4)])) _
    refine XS.i2dS X0.here hx rfl (hb hby d5_40) rfl rfl ?_
    show Steps p.tables e below (s₁.setTop (mkF m 41 #[.val (.ref wa), .val (.int cnt), .val (.ref a1), .val (.double x4), .second, .val (.ref wa), .val (.int (4 : Int32)), .val (.int (4 : Int32)), .val (.double (own_wt na nb xb 3)), .second, .unset, .unset, .unset, .unset, .unset] [(.double (FP.i2d cnt)), (.double x4)])) _
    refine XS.ddivS X0.here hx rfl (hb hby d5_41) rfl zsp.nn rfl ?_
    show Steps p.tables e below (s₁.setTop (mkF m 42 #[.val (.ref wa), .val (.int cnt), .val (.ref a1), .val (.double x4), .second, .val (.ref wa), .val (.int (4 : Int32)), .val (.int (4 : Int32)), .val (.double (own_wt na nb xb 3)), .second, .unset, .unset, .unset, .unset, .unset] [(.double (FP.ddiv x4 (FP.i2d cnt)))])) _
    refine XS.dstore X0.here hx rfl (hb hby d5_42) rfl (l' := #[.val (.ref wa), .val (.int cnt), .val (.ref a1), .val (.double x4), .second, .val (.double (FP.ddiv x4 (FP.i2d cnt))), .second, .val (.int (4 : Int32)), .val (.double (own_wt na nb xb 3)), .second, .unset, .unset, .unset, .unset, .unset]) rfl ?_
    exact k
  obtain ⟨sp, h_sp⟩ : ∃ z : UInt64, z = (FP.ddiv x4 (FP.i2d cnt)) := ⟨_, rfl⟩
  rw [← h_sp] at C118
  rw [← h_sp] at zsp
  have C119 : ∀ t, Steps p.tables e below (s₁.setTop (mkF m 45 #[.val (.ref wa), .val (.int cnt), .val (.ref a1), .val (.double x4), .second, .val (.double sp), .second, .val (.int (4 : Int32)), .val (.double (own_wt na nb xb 3)), .second, .unset, .unset, .unset, .unset, .unset] [(.ref a1)])) t → Steps p.tables e below (s₁.setTop (entryFrame m #[(.ref wa), (.int cnt), (.ref a1)] 15)) t := by
    intro t k
    refine C118 t ?_
    show Steps p.tables e below (s₁.setTop (mkF m 44 #[.val (.ref wa), .val (.int cnt), .val (.ref a1), .val (.double x4), .second, .val (.double sp), .second, .val (.int (4 : Int32)), .val (.double (own_wt na nb xb 3)), .second, .unset, .unset, .unset, .unset, .unset] [])) _
    refine XS.aloadN X0.here hx rfl (hb hby d5_44) rfl rfl ?_
    exact k
  obtain ⟨cq120, kq120, q120a, q120b, q120c⟩ := isOf hZ e0 R.1
  obtain ⟨_, _, ⟨T120, L120, k120, n120⟩, -, X120, ⟨Lc120, hQ120, l120, y120, z120⟩, st120⟩ := X0.virtualBack hx (y := (⟨"com/example/mutatune/mutatune/engine/SeededRandom", "nextDouble", "()D"⟩ : MethodName)) (z := (⟨"com/example/mutatune/mutatune/engine/SeededRandom", "nextDouble", "()D"⟩ : MethodName)) hown (mvT hZ (hw _ (List.mem_of_getElem? (i := 35) rfl))) (mvT hZ (hw _ (List.mem_of_getElem? (i := 36) rfl))) (notFace_of_selects (args := #[]) (mvT hZ (hw _ (List.mem_of_getElem? (i := 38) rfl)))) (mvT hZ (hw _ (List.mem_of_getElem? (i := 38) rfl))) (mvT hZ (hw _ (List.mem_of_getElem? (i := 37) rfl))) (by decide) (backOf (W := 0) (rm6 l Z a0 hw [] a1 w0 w1 w2 w3 h0 n0 Z0 R g1) hZ (hw _ (List.mem_of_getElem? (i := 39) rfl)) (hw _ (List.mem_of_getElem? (i := 4) rfl)) (by decide) (by decide)) q120a q120c (g := (mkF m 45 #[.val (.ref wa), .val (.int cnt), .val (.ref a1), .val (.double x4), .second, .val (.double sp), .second, .val (.int (4 : Int32)), .val (.double (own_wt na nb xb 3)), .second, .unset, .unset, .unset, .unset, .unset] [(.ref a1)])) rfl (by rw [hml]; rfl) (Steps.refl _) (argsL := []) (rest := []) (lenOf pd4 rfl) rfl (by show 2 * 0 + _ ≤ _; exact Nat.le_of_eq rfl) (hb hby d5_45) (fun _ _ => ⟨rfl, e0, (by decide : 0 + 0 ≤ _), (by decide : 0 + 0 ≤ _)⟩)
  dsimp only [Pt.U, Pt.locs, Pt.cells, Pt.slots] at X120 l120 y120 z120 st120 hQ120
  subst l120 y120 z120
  obtain ⟨u, rfl, N120q, y, hy, zu, R120, K120⟩ := hQ120
  have N120 := Fr.app N0 N120q
  have C120 : ∀ t, Steps p.tables e below (T120.setTop (mkF m 48 #[.val (.ref wa), .val (.int cnt), .val (.ref a1), .val (.double x4), .second, .val (.double sp), .second, .val (.int (4 : Int32)), .val (.double (own_wt na nb xb 3)), .second, .unset, .unset, .unset, .unset, .unset] [(.double u)])) t → Steps p.tables e below (s₁.setTop (entryFrame m #[(.ref wa), (.int cnt), (.ref a1)] 15)) t := fun t k => C119 t (st120.trans k)
  have C121 : ∀ t, Steps p.tables e below (T120.setTop (mkF m 51 #[.val (.ref wa), .val (.int cnt), .val (.ref a1), .val (.double x4), .second, .val (.double sp), .second, .val (.double u), .second, .unset, .unset, .unset, .unset, .unset, .unset] [(.int cnt)])) t → Steps p.tables e below (s₁.setTop (entryFrame m #[(.ref wa), (.int cnt), (.ref a1)] 15)) t := by
    intro t k
    refine C120 t ?_
    show Steps p.tables e below (T120.setTop (mkF m 48 #[.val (.ref wa), .val (.int cnt), .val (.ref a1), .val (.double x4), .second, .val (.double sp), .second, .val (.int (4 : Int32)), .val (.double (own_wt na nb xb 3)), .second, .unset, .unset, .unset, .unset, .unset] [(.double u)])) _
    refine XS.dstore X120.here hx rfl (hb hby d5_48) rfl (l' := #[.val (.ref wa), .val (.int cnt), .val (.ref a1), .val (.double x4), .second, .val (.double sp), .second, .val (.double u), .second, .unset, .unset, .unset, .unset, .unset, .unset]) rfl ?_
    show Steps p.tables e below (T120.setTop (mkF m 50 #[.val (.ref wa), .val (.int cnt), .val (.ref a1), .val (.double x4), .second, .val (.double sp), .second, .val (.double u), .second, .unset, .unset, .unset, .unset, .unset, .unset] [])) _
    refine XS.iloadN X120.here hx rfl (hb hby d5_50) rfl ?_
    exact k
  obtain ⟨T122, h122, k122, X122, e122, E122, A122, st122⟩ := newP X120 hx hZ (hw _ (List.mem_of_getElem? (i := 50) rfl)) rfl (g := (mkF m 51 #[.val (.ref wa), .val (.int cnt), .val (.ref a1), .val (.double x4), .second, .val (.double sp), .second, .val (.double u), .second, .unset, .unset, .unset, .unset, .unset, .unset] [(.int cnt)])) rfl (hb hby d5_51) rfl (own_nneg (by omega)) (cap := 6) (by rw [own_cl hcnt]; omega) (by decide) (by decide) (by decide)
  obtain ⟨b122, g122⟩ : ∃ z, z = T120.heap.size := ⟨_, rfl⟩
  rw [← g122] at A122 st122
  have C122 : ∀ t, Steps p.tables e below (T122.setTop (mkF m 53 #[.val (.ref wa), .val (.int cnt), .val (.ref a1), .val (.double x4), .second, .val (.double sp), .second, .val (.double u), .second, .unset, .unset, .unset, .unset, .unset, .unset] [(.ref b122)])) t → Steps p.tables e below (s₁.setTop (entryFrame m #[(.ref wa), (.int cnt), (.ref a1)] 15)) t := fun t k => C121 t (st122 t k)
  have H0 : OwnA Z h122 b122 .int cN (own_tk A B 0) := (OwnA.new A122 (own_cl hcnt)).congr (fun i _ => rfl)
  have Wt1 := (Wt.keep K120 (own_nin1 (Ne.symm a_w))).ext E122
  have R1 := R120.ext E122
  have K1 : Keep h0 h122 [a1] := K120.ext E122
  have szb : h0.size ≤ b122 := Nat.le_trans K120.1 (Nat.le_of_eq g122.symm)
  have gb : n0 ≤ b122 := Nat.le_trans Z0 szb
  have w_b : wa ≠ b122 := Nat.ne_of_lt (Nat.lt_of_lt_of_le (Wt.keep K120 (own_nin1 (Ne.symm a_w))).lt (Nat.le_of_eq g122.symm))
  have a_b : a1 ≠ b122 := Nat.ne_of_lt (Nat.lt_of_lt_of_le R120.lt (Nat.le_of_eq g122.symm))
  have C123 : ∀ t, Steps p.tables e below (T122.setTop (mkF m 67 #[.val (.ref wa), .val (.int cnt), .val (.ref a1), .val (.double x4), .second, .val (.double sp), .second, .val (.double u), .second, .val (.ref b122), .val (.int (0 : Int32)), .val (.double 0), .second, .val (.int (-1 : Int32)), .val (.int (0 : Int32))] [])) t → Steps p.tables e below (s₁.setTop (entryFrame m #[(.ref wa), (.int cnt), (.ref a1)] 15)) t := by
    intro t k
    refine C122 t ?_
    show Steps p.tables e below (T122.setTop (mkF m 53 #[.val (.ref wa), .val (.int cnt), .val (.ref a1), .val (.double x4), .second, .val (.double sp), .second, .val (.double u), .second, .unset, .unset, .unset, .unset, .unset, .unset] [(.ref b122)])) _
    refine XS.astore X122.here hx rfl (hb hby d5_53) rfl rfl (l' := #[.val (.ref wa), .val (.int cnt), .val (.ref a1), .val (.double x4), .second, .val (.double sp), .second, .val (.double u), .second, .val (.ref b122), .unset, .unset, .unset, .unset, .unset]) rfl ?_
    show Steps p.tables e below (T122.setTop (mkF m 55 #[.val (.ref wa), .val (.int cnt), .val (.ref a1), .val (.double x4), .second, .val (.double sp), .second, .val (.double u), .second, .val (.ref b122), .unset, .unset, .unset, .unset, .unset] [])) _
    refine XS.iconst X122.here hx rfl (hb hby d5_55) ?_
    show Steps p.tables e below (T122.setTop (mkF m 56 #[.val (.ref wa), .val (.int cnt), .val (.ref a1), .val (.double x4), .second, .val (.double sp), .second, .val (.double u), .second, .val (.ref b122), .unset, .unset, .unset, .unset, .unset] [(.int (0 : Int32))])) _
    refine XS.istore X122.here hx rfl (hb hby d5_56) rfl (l' := #[.val (.ref wa), .val (.int cnt), .val (.ref a1), .val (.double x4), .second, .val (.double sp), .second, .val (.double u), .second, .val (.ref b122), .val (.int (0 : Int32)), .unset, .unset, .unset, .unset]) rfl ?_
    show Steps p.tables e below (T122.setTop (mkF m 58 #[.val (.ref wa), .val (.int cnt), .val (.ref a1), .val (.double x4), .second, .val (.double sp), .second, .val (.double u), .second, .val (.ref b122), .val (.int (0 : Int32)), .unset, .unset, .unset, .unset] [])) _
    refine XS.dconst0 X122.here hx rfl (hb hby d5_58) (v := 0) rfl ?_
    show Steps p.tables e below (T122.setTop (mkF m 59 #[.val (.ref wa), .val (.int cnt), .val (.ref a1), .val (.double x4), .second, .val (.double sp), .second, .val (.double u), .second, .val (.ref b122), .val (.int (0 : Int32)), .unset, .unset, .unset, .unset] [(.double 0)])) _
    refine XS.dstore X122.here hx rfl (hb hby d5_59) rfl (l' := #[.val (.ref wa), .val (.int cnt), .val (.ref a1), .val (.double x4), .second, .val (.double sp), .second, .val (.double u), .second, .val (.ref b122), .val (.int (0 : Int32)), .val (.double 0), .second, .unset, .unset]) rfl ?_
    show Steps p.tables e below (T122.setTop (mkF m 61 #[.val (.ref wa), .val (.int cnt), .val (.ref a1), .val (.double x4), .second, .val (.double sp), .second, .val (.double u), .second, .val (.ref b122), .val (.int (0 : Int32)), .val (.double 0), .second, .unset, .unset] [])) _
    refine XS.iconst X122.here hx rfl (hb hby d5_61) ?_
    show Steps p.tables e below (T122.setTop (mkF m 62 #[.val (.ref wa), .val (.int cnt), .val (.ref a1), .val (.double x4), .second, .val (.double sp), .second, .val (.double u), .second, .val (.ref b122), .val (.int (0 : Int32)), .val (.double 0), .second, .unset, .unset] [(.int (-1 : Int32))])) _
    refine XS.istore X122.here hx rfl (hb hby d5_62) rfl (l' := #[.val (.ref wa), .val (.int cnt), .val (.ref a1), .val (.double x4), .second, .val (.double sp), .second, .val (.double u), .second, .val (.ref b122), .val (.int (0 : Int32)), .val (.double 0), .second, .val (.int (-1 : Int32)), .unset]) rfl ?_
    show Steps p.tables e below (T122.setTop (mkF m 64 #[.val (.ref wa), .val (.int cnt), .val (.ref a1), .val (.double x4), .second, .val (.double sp), .second, .val (.double u), .second, .val (.ref b122), .val (.int (0 : Int32)), .val (.double 0), .second, .val (.int (-1 : Int32)), .unset] [])) _
    refine XS.iconst X122.here hx rfl (hb hby d5_64) ?_
    show Steps p.tables e below (T122.setTop (mkF m 65 #[.val (.ref wa), .val (.int cnt), .val (.ref a1), .val (.double x4), .second, .val (.double sp), .second, .val (.double u), .second, .val (.ref b122), .val (.int (0 : Int32)), .val (.double 0), .second, .val (.int (-1 : Int32)), .unset] [(.int (0 : Int32))])) _
    refine XS.istore X122.here hx rfl (hb hby d5_65) rfl (l' := #[.val (.ref wa), .val (.int cnt), .val (.ref a1), .val (.double x4), .second, .val (.double sp), .second, .val (.double u), .second, .val (.ref b122), .val (.int (0 : Int32)), .val (.double 0), .second, .val (.int (-1 : Int32)), .val (.int (0 : Int32))]) rfl ?_
    exact k
  have inner : ∀ (k : Nat) (f : Int32) (fN : Nat) (x : UInt64) (K : Nat) (la i : Int32) (T : State) (lo : List Loc) (h : Heap), Stand p l e ({ frames := 3, cells := 1, slots := 6, locals := 43 } : Room) s m #[(.ref wa), (.int cnt), (.ref a1)] below meth c T lo 1 6 → T.heap = h → Fr n0 lo → (Keep h0 h [a1] ∧ OwnR Z h a1 (own_s0 w0 w1 w2 w3) (own_s1 w0 w1 w2 w3) (own_s2 w0 w1 w2 w3) (own_s3 w0 w1 w2 w3) ∧ OwnA Z h wa .double 4 (fun i => .double (own_wt na nb xb i))) → OwnA Z h b122 .int cN (own_tk A B fN) → f.toInt = (fN : Int) → fN + k = cN → OwnZ x K → (∀ j, fN ≤ j → j < cN → own_r u sp j < K → i = if j = 0 then A else B) → ∃ (T' : State) (lo' : List Loc) (h' : Heap) (f' : Int32) (fN' : Nat), Stand p l e ({ frames := 3, cells := 1, slots := 6, locals := 43 } : Room) s m #[(.ref wa), (.int cnt), (.ref a1)] below meth c T' lo' 1 6 ∧ T'.heap = h' ∧ Fr n0 lo' ∧ (Keep h0 h' [a1] ∧ OwnR Z h' a1 (own_s0 w0 w1 w2 w3) (own_s1 w0 w1 w2 w3) (own_s2 w0 w1 w2 w3) (own_s3 w0 w1 w2 w3) ∧ OwnA Z h' wa .double 4 (fun i => .double (own_wt na nb xb i))) ∧ OwnA Z h' b122 .int cN (own_tk A B fN') ∧ f'.toInt = (fN' : Int) ∧ fN ≤ fN' ∧ fN' ≤ cN ∧ (∀ j, fN ≤ j → j < fN' → own_r u sp j < K) ∧ (fN' = cN ∨ ¬ own_r u sp fN' < K) ∧ ∀ t, Steps p.tables e below (T'.setTop (mkF m 141 #[.val (.ref wa), .val (.int cnt), .val (.ref a1), .val (.double x4), .second, .val (.double sp), .second, .val (.double u), .second, .val (.ref b122), .val (.int f'), .val (.double x), .second, .val (.int la), .val (.int i)] [])) t → Steps p.tables e below (T.setTop (mkF m 107 #[.val (.ref wa), .val (.int cnt), .val (.ref a1), .val (.double x4), .second, .val (.double sp), .second, .val (.double u), .second, .val (.ref b122), .val (.int f), .val (.double x), .second, .val (.int la), .val (.int i)] [])) t := by
    intro k
    induction k with
    | zero =>
      intro f fN x K la i T lo h XX eT NN BB HH hf hk zx hiv
      refine ⟨T, lo, h, f, fN, XX, eT, NN, BB, HH, hf, Nat.le_refl _, by omega, fun j j1 j2 => absurd j2 (by omega), Or.inl (by omega), ?_⟩
      intro t kk
      show Steps p.tables e below (T.setTop (mkF m 107 #[.val (.ref wa), .val (.int cnt), .val (.ref a1), .val (.double x4), .second, .val (.double sp), .second, .val (.double u), .second, .val (.ref b122), .val (.int f), .val (.double x), .second, .val (.int la), .val (.int i)] [])) _
      refine XS.iload XX.here hx rfl (hb hby d5_107) rfl ?_
      show Steps p.tables e below (T.setTop (mkF m 109 #[.val (.ref wa), .val (.int cnt), .val (.ref a1), .val (.double x4), .second, .val (.double sp), .second, .val (.double u), .second, .val (.ref b122), .val (.int f), .val (.double x), .second, .val (.int la), .val (.int i)] [(.int f)])) _
      refine XS.iloadN XX.here hx rfl (hb hby d5_109) rfl ?_
      show Steps p.tables e below (T.setTop (mkF m 110 #[.val (.ref wa), .val (.int cnt), .val (.ref a1), .val (.double x4), .second, .val (.double sp), .second, .val (.double u), .second, .val (.ref b122), .val (.int f), .val (.double x), .second, .val (.int la), .val (.int i)] [(.int cnt), (.int f)])) _
      refine XS.icmpYes XX.here hx rfl (pc0 := 110) (pc' := 141) rfl (hb hby d5_110) rfl (XT.ii_ge_t (fun y => by rw [own_lt32, hf, hcnt] at y; omega)) (by decide) (by decide) ?_
      exact kk
    | succ k ih =>
      intro f fN x K la i T lo h XX eT NN BB HH hf hk zx hiv
      have hfl : f < cnt := by rw [own_lt32, hf, hcnt]; omega
      obtain ⟨m1, zt, -, -, -⟩ := own_pointer zu hy zsp hf (by omega)
      by_cases hr : own_r u sp fN < K
      · have ID : ∀ t, Steps p.tables e below (T.setTop (mkF m 107 #[.val (.ref wa), .val (.int cnt), .val (.ref a1), .val (.double x4), .second, .val (.double sp), .second, .val (.double u), .second, .val (.ref b122), .val (.int f), .val (.double x), .second, .val (.int la), .val (.int i)] [])) t → Steps p.tables e below (T.setTop (mkF m 107 #[.val (.ref wa), .val (.int cnt), .val (.ref a1), .val (.double x4), .second, .val (.double sp), .second, .val (.double u), .second, .val (.ref b122), .val (.int f), .val (.double x), .second, .val (.int la), .val (.int i)] [])) t := fun t kk => kk
        have hF : ¬ f < 0 ∧ f.toNatClampNeg < cN := own_idx hf (by omega)
        have C124 : ∀ t, Steps p.tables e below (T.setTop (mkF m 137 #[.val (.ref wa), .val (.int cnt), .val (.ref a1), .val (.double x4), .second, .val (.double sp), .second, .val (.double u), .second, .val (.ref b122), .val (.int (f + (1 : Int32))), .val (.double x), .second, .val (.int la), .val (.int i)] [(.int i), (.int f), (.ref b122)])) t → Steps p.tables e below (T.setTop (mkF m 107 #[.val (.ref wa), .val (.int cnt), .val (.ref a1), .val (.double x4), .second, .val (.double sp), .second, .val (.double u), .second, .val (.ref b122), .val (.int f), .val (.double x), .second, .val (.int la), .val (.int i)] [])) t := by
          intro t k
          refine ID t ?_
          show Steps p.tables e below (T.setTop (mkF m 107 #[.val (.ref wa), .val (.int cnt), .val (.ref a1), .val (.double x4), .second, .val (.double sp), .second, .val (.double u), .second, .val (.ref b122), .val (.int f), .val (.double x), .second, .val (.int la), .val (.int i)] [])) _
          refine XS.iload XX.here hx rfl (hb hby d5_107) rfl ?_
          show Steps p.tables e below (T.setTop (mkF m 109 #[.val (.ref wa), .val (.int cnt), .val (.ref a1), .val (.double x4), .second, .val (.double sp), .second, .val (.double u), .second, .val (.ref b122), .val (.int f), .val (.double x), .second, .val (.int la), .val (.int i)] [(.int f)])) _
          refine XS.iloadN XX.here hx rfl (hb hby d5_109) rfl ?_
          show Steps p.tables e below (T.setTop (mkF m 110 #[.val (.ref wa), .val (.int cnt), .val (.ref a1), .val (.double x4), .second, .val (.double sp), .second, .val (.double u), .second, .val (.ref b122), .val (.int f), .val (.double x), .second, .val (.int la), .val (.int i)] [(.int cnt), (.int f)])) _
          refine XS.icmpNo XX.here hx rfl (hb hby d5_110) rfl (XT.ii_ge_f hfl) ?_
          show Steps p.tables e below (T.setTop (mkF m 113 #[.val (.ref wa), .val (.int cnt), .val (.ref a1), .val (.double x4), .second, .val (.double sp), .second, .val (.double u), .second, .val (.ref b122), .val (.int f), .val (.double x), .second, .val (.int la), .val (.int i)] [])) _
          refine XS.dload XX.here hx rfl (hb hby d5_113) rfl ?_
          show Steps p.tables e below (T.setTop (mkF m 115 #[.val (.ref wa), .val (.int cnt), .val (.ref a1), .val (.double x4), .second, .val (.double sp), .second, .val (.double u), .second, .val (.ref b122), .val (.int f), .val (.double x), .second, .val (.int la), .val (.int i)] [(.double u)])) _
          refine XS.iload XX.here hx rfl (hb hby d5_115) rfl ?_
          show Steps p.tables e below (T.setTop (mkF m 117 #[.val (.ref wa), .val (.int cnt), .val (.ref a1), .val (.double x4), .second, .val (.double sp), .second, .val (.double u), .second, .val (.ref b122), .val (.int f), .val (.double x), .second, .val (.int la), .val (.int i)] [(.int f), (.double u)])) _
          refine XS.i2dS XX.here hx rfl (hb hby d5_117) rfl rfl ?_
          show Steps p.tables e below (T.setTop (mkF m 118 #[.val (.ref wa), .val (.int cnt), .val (.ref a1), .val (.double x4), .second, .val (.double sp), .second, .val (.double u), .second, .val (.ref b122), .val (.int f), .val (.double x), .second, .val (.int la), .val (.int i)] [(.double (FP.i2d f)), (.double u)])) _
          refine XS.daddS XX.here hx rfl (hb hby d5_118) rfl m1 rfl ?_
          show Steps p.tables e below (T.setTop (mkF m 119 #[.val (.ref wa), .val (.int cnt), .val (.ref a1), .val (.double x4), .second, .val (.double sp), .second, .val (.double u), .second, .val (.ref b122), .val (.int f), .val (.double x), .second, .val (.int la), .val (.int i)] [(.double (FP.dadd u (FP.i2d f)))])) _
          refine XS.dload XX.here hx rfl (hb hby d5_119) rfl ?_
          show Steps p.tables e below (T.setTop (mkF m 121 #[.val (.ref wa), .val (.int cnt), .val (.ref a1), .val (.double x4), .second, .val (.double sp), .second, .val (.double u), .second, .val (.ref b122), .val (.int f), .val (.double x), .second, .val (.int la), .val (.int i)] [(.double sp), (.double (FP.dadd u (FP.i2d f)))])) _
          refine XS.dmulS XX.here hx rfl (hb hby d5_121) rfl zt.nn rfl ?_
          show Steps p.tables e below (T.setTop (mkF m 122 #[.val (.ref wa), .val (.int cnt), .val (.ref a1), .val (.double x4), .second, .val (.double sp), .second, .val (.double u), .second, .val (.ref b122), .val (.int f), .val (.double x), .second, .val (.int la), .val (.int i)] [(.double (FP.dmul (FP.dadd u (FP.i2d f)) sp))])) _
          refine XS.dload XX.here hx rfl (hb hby d5_122) rfl ?_
          show Steps p.tables e below (T.setTop (mkF m 124 #[.val (.ref wa), .val (.int cnt), .val (.ref a1), .val (.double x4), .second, .val (.double sp), .second, .val (.double u), .second, .val (.ref b122), .val (.int f), .val (.double x), .second, .val (.int la), .val (.int i)] [(.double x), (.double (FP.dmul (FP.dadd u (FP.i2d f)) sp))])) _
          refine XS.dcmpS XX.here hx rfl (hb hby d5_124) rfl rfl ?_
          show Steps p.tables e below (T.setTop (mkF m 125 #[.val (.ref wa), .val (.int cnt), .val (.ref a1), .val (.double x4), .second, .val (.double sp), .second, .val (.double u), .second, .val (.ref b122), .val (.int f), .val (.double x), .second, .val (.int la), .val (.int i)] [(.int (cmpValue (FP.dcmp (FP.dmul (FP.dadd u (FP.i2d f)) sp) x) .g))])) _
          refine XS.ifNo XX.here hx rfl (hb hby d5_125) rfl (own_cg_f zt zx hr) ?_
          show Steps p.tables e below (T.setTop (mkF m 128 #[.val (.ref wa), .val (.int cnt), .val (.ref a1), .val (.double x4), .second, .val (.double sp), .second, .val (.double u), .second, .val (.ref b122), .val (.int f), .val (.double x), .second, .val (.int la), .val (.int i)] [])) _
          refine XS.aload XX.here hx rfl (hb hby d5_128) rfl rfl ?_
          show Steps p.tables e below (T.setTop (mkF m 130 #[.val (.ref wa), .val (.int cnt), .val (.ref a1), .val (.double x4), .second, .val (.double sp), .second, .val (.double u), .second, .val (.ref b122), .val (.int f), .val (.double x), .second, .val (.int la), .val (.int i)] [(.ref b122)])) _
          refine XS.iload XX.here hx rfl (hb hby d5_130) rfl ?_
          show Steps p.tables e below (T.setTop (mkF m 132 #[.val (.ref wa), .val (.int cnt), .val (.ref a1), .val (.double x4), .second, .val (.double sp), .second, .val (.double u), .second, .val (.ref b122), .val (.int f), .val (.double x), .second, .val (.int la), .val (.int i)] [(.int f), (.ref b122)])) _
          refine XS.iinc XX.here hx rfl (hb hby d5_132) rfl (l' := #[.val (.ref wa), .val (.int cnt), .val (.ref a1), .val (.double x4), .second, .val (.double sp), .second, .val (.double u), .second, .val (.ref b122), .val (.int (f + (1 : Int32))), .val (.double x), .second, .val (.int la), .val (.int i)]) rfl ?_
          show Steps p.tables e below (T.setTop (mkF m 135 #[.val (.ref wa), .val (.int cnt), .val (.ref a1), .val (.double x4), .second, .val (.double sp), .second, .val (.double u), .second, .val (.ref b122), .val (.int (f + (1 : Int32))), .val (.double x), .second, .val (.int la), .val (.int i)] [(.int f), (.ref b122)])) _
          refine XS.iload XX.here hx rfl (hb hby d5_135) rfl ?_
          exact k
        obtain ⟨c125, A125, S125, V125⟩ := id HH
        obtain ⟨T125, h125, X125, e125, W125, st125⟩ := stI XX hx hZ eT A125 (j := f) (own_in hF S125) (g := (mkF m 137 #[.val (.ref wa), .val (.int cnt), .val (.ref a1), .val (.double x4), .second, .val (.double sp), .second, .val (.double u), .second, .val (.ref b122), .val (.int (f + (1 : Int32))), .val (.double x), .second, .val (.int la), .val (.int i)] [(.int i), (.int f), (.ref b122)])) rfl rfl (hb hby d5_137)
        have N125 := Fr.snoc X125 NN gb
        have C125 : ∀ t, Steps p.tables e below (T125.setTop (mkF m 138 #[.val (.ref wa), .val (.int cnt), .val (.ref a1), .val (.double x4), .second, .val (.double sp), .second, .val (.double u), .second, .val (.ref b122), .val (.int (f + (1 : Int32))), .val (.double x), .second, .val (.int la), .val (.int i)] [])) t → Steps p.tables e below (T.setTop (mkF m 107 #[.val (.ref wa), .val (.int cnt), .val (.ref a1), .val (.double x4), .second, .val (.double sp), .second, .val (.double u), .second, .val (.ref b122), .val (.int f), .val (.double x), .second, .val (.int la), .val (.int i)] [])) t := fun t k => C124 t (st125 t k)
        have C126 : ∀ t, Steps p.tables e below (T125.setTop (mkF m 107 #[.val (.ref wa), .val (.int cnt), .val (.ref a1), .val (.double x4), .second, .val (.double sp), .second, .val (.double u), .second, .val (.ref b122), .val (.int (f + (1 : Int32))), .val (.double x), .second, .val (.int la), .val (.int i)] [])) t → Steps p.tables e below (T.setTop (mkF m 107 #[.val (.ref wa), .val (.int cnt), .val (.ref a1), .val (.double x4), .second, .val (.double sp), .second, .val (.double u), .second, .val (.ref b122), .val (.int f), .val (.double x), .second, .val (.int la), .val (.int i)] [])) t := by
          intro t k
          refine C125 t ?_
          show Steps p.tables e below (T125.setTop (mkF m 138 #[.val (.ref wa), .val (.int cnt), .val (.ref a1), .val (.double x4), .second, .val (.double sp), .second, .val (.double u), .second, .val (.ref b122), .val (.int (f + (1 : Int32))), .val (.double x), .second, .val (.int la), .val (.int i)] [])) _
          refine XS.goto X125.here hx rfl (pc0 := 138) (pc' := 107) rfl (hb hby d5_138) (by decide) (by decide) ?_
          exact k
        have H2 : OwnA Z h125 b122 .int cN (own_tk A B (fN + 1)) := (HH.set W125).congr (fun j _ => by rw [own_cl hf]; exact own_tk_set (hiv fN (Nat.le_refl _) (by omega) hr) j)
        have B2 : Keep h0 h125 [a1] ∧ OwnR Z h125 a1 (own_s0 w0 w1 w2 w3) (own_s1 w0 w1 w2 w3) (own_s2 w0 w1 w2 w3) (own_s3 w0 w1 w2 w3) ∧ OwnA Z h125 wa .double 4 (fun i => .double (own_wt na nb xb i)) := ⟨BB.1.wr W125 (Or.inr szb), BB.2.1.wr W125 a_b, BB.2.2.other W125 w_b⟩
        have hf1 : (f + (1 : Int32)).toInt = ((fN + 1 : Nat) : Int) := by have y := own_add_c hf (show (1 : Int32).toInt = 1 from rfl) (by omega) (by omega); omega
        obtain ⟨T', lo', h', f', fN', Y1, Y2, Y3, Y4, Y5, Y6, Y7, Y8, Y9, Y10, Y11⟩ := ih (f + (1 : Int32)) (fN + 1) x K la i T125 _ h125 X125 e125 N125 B2 H2 hf1 (by omega) zx (fun j j1 j2 j3 => hiv j (by omega) j2 j3)
        exact ⟨T', lo', h', f', fN', Y1, Y2, Y3, Y4, Y5, Y6, by omega, Y8, fun j j1 j2 => by
          by_cases g : j = fN
          · rw [g]; exact hr
          · exact Y9 j (by omega) j2, Y10, fun t kk => C126 t (Y11 t kk)⟩
      · refine ⟨T, lo, h, f, fN, XX, eT, NN, BB, HH, hf, Nat.le_refl _, by omega, fun j j1 j2 => absurd j2 (by omega), Or.inr hr, ?_⟩
        intro t kk
        show Steps p.tables e below (T.setTop (mkF m 107 #[.val (.ref wa), .val (.int cnt), .val (.ref a1), .val (.double x4), .second, .val (.double sp), .second, .val (.double u), .second, .val (.ref b122), .val (.int f), .val (.double x), .second, .val (.int la), .val (.int i)] [])) _
        refine XS.iload XX.here hx rfl (hb hby d5_107) rfl ?_
        show Steps p.tables e below (T.setTop (mkF m 109 #[.val (.ref wa), .val (.int cnt), .val (.ref a1), .val (.double x4), .second, .val (.double sp), .second, .val (.double u), .second, .val (.ref b122), .val (.int f), .val (.double x), .second, .val (.int la), .val (.int i)] [(.int f)])) _
        refine XS.iloadN XX.here hx rfl (hb hby d5_109) rfl ?_
        show Steps p.tables e below (T.setTop (mkF m 110 #[.val (.ref wa), .val (.int cnt), .val (.ref a1), .val (.double x4), .second, .val (.double sp), .second, .val (.double u), .second, .val (.ref b122), .val (.int f), .val (.double x), .second, .val (.int la), .val (.int i)] [(.int cnt), (.int f)])) _
        refine XS.icmpNo XX.here hx rfl (hb hby d5_110) rfl (XT.ii_ge_f hfl) ?_
        show Steps p.tables e below (T.setTop (mkF m 113 #[.val (.ref wa), .val (.int cnt), .val (.ref a1), .val (.double x4), .second, .val (.double sp), .second, .val (.double u), .second, .val (.ref b122), .val (.int f), .val (.double x), .second, .val (.int la), .val (.int i)] [])) _
        refine XS.dload XX.here hx rfl (hb hby d5_113) rfl ?_
        show Steps p.tables e below (T.setTop (mkF m 115 #[.val (.ref wa), .val (.int cnt), .val (.ref a1), .val (.double x4), .second, .val (.double sp), .second, .val (.double u), .second, .val (.ref b122), .val (.int f), .val (.double x), .second, .val (.int la), .val (.int i)] [(.double u)])) _
        refine XS.iload XX.here hx rfl (hb hby d5_115) rfl ?_
        show Steps p.tables e below (T.setTop (mkF m 117 #[.val (.ref wa), .val (.int cnt), .val (.ref a1), .val (.double x4), .second, .val (.double sp), .second, .val (.double u), .second, .val (.ref b122), .val (.int f), .val (.double x), .second, .val (.int la), .val (.int i)] [(.int f), (.double u)])) _
        refine XS.i2dS XX.here hx rfl (hb hby d5_117) rfl rfl ?_
        show Steps p.tables e below (T.setTop (mkF m 118 #[.val (.ref wa), .val (.int cnt), .val (.ref a1), .val (.double x4), .second, .val (.double sp), .second, .val (.double u), .second, .val (.ref b122), .val (.int f), .val (.double x), .second, .val (.int la), .val (.int i)] [(.double (FP.i2d f)), (.double u)])) _
        refine XS.daddS XX.here hx rfl (hb hby d5_118) rfl m1 rfl ?_
        show Steps p.tables e below (T.setTop (mkF m 119 #[.val (.ref wa), .val (.int cnt), .val (.ref a1), .val (.double x4), .second, .val (.double sp), .second, .val (.double u), .second, .val (.ref b122), .val (.int f), .val (.double x), .second, .val (.int la), .val (.int i)] [(.double (FP.dadd u (FP.i2d f)))])) _
        refine XS.dload XX.here hx rfl (hb hby d5_119) rfl ?_
        show Steps p.tables e below (T.setTop (mkF m 121 #[.val (.ref wa), .val (.int cnt), .val (.ref a1), .val (.double x4), .second, .val (.double sp), .second, .val (.double u), .second, .val (.ref b122), .val (.int f), .val (.double x), .second, .val (.int la), .val (.int i)] [(.double sp), (.double (FP.dadd u (FP.i2d f)))])) _
        refine XS.dmulS XX.here hx rfl (hb hby d5_121) rfl zt.nn rfl ?_
        show Steps p.tables e below (T.setTop (mkF m 122 #[.val (.ref wa), .val (.int cnt), .val (.ref a1), .val (.double x4), .second, .val (.double sp), .second, .val (.double u), .second, .val (.ref b122), .val (.int f), .val (.double x), .second, .val (.int la), .val (.int i)] [(.double (FP.dmul (FP.dadd u (FP.i2d f)) sp))])) _
        refine XS.dload XX.here hx rfl (hb hby d5_122) rfl ?_
        show Steps p.tables e below (T.setTop (mkF m 124 #[.val (.ref wa), .val (.int cnt), .val (.ref a1), .val (.double x4), .second, .val (.double sp), .second, .val (.double u), .second, .val (.ref b122), .val (.int f), .val (.double x), .second, .val (.int la), .val (.int i)] [(.double x), (.double (FP.dmul (FP.dadd u (FP.i2d f)) sp))])) _
        refine XS.dcmpS XX.here hx rfl (hb hby d5_124) rfl rfl ?_
        show Steps p.tables e below (T.setTop (mkF m 125 #[.val (.ref wa), .val (.int cnt), .val (.ref a1), .val (.double x4), .second, .val (.double sp), .second, .val (.double u), .second, .val (.ref b122), .val (.int f), .val (.double x), .second, .val (.int la), .val (.int i)] [(.int (cmpValue (FP.dcmp (FP.dmul (FP.dadd u (FP.i2d f)) sp) x) .g))])) _
        refine XS.ifYes XX.here hx rfl (pc0 := 125) (pc' := 141) rfl (hb hby d5_125) rfl (own_cg_t zt zx hr) (by decide) (by decide) ?_
        exact kk
  have outer : ∀ (k : Nat) (i : Int32) (iN : Nat) (f : Int32) (fN : Nat) (x : UInt64) (K : Nat) (la : Int32) (T : State) (lo : List Loc) (h : Heap), Stand p l e ({ frames := 3, cells := 1, slots := 6, locals := 43 } : Room) s m #[(.ref wa), (.int cnt), (.ref a1)] below meth c T lo 1 6 → T.heap = h → Fr n0 lo → (Keep h0 h [a1] ∧ OwnR Z h a1 (own_s0 w0 w1 w2 w3) (own_s1 w0 w1 w2 w3) (own_s2 w0 w1 w2 w3) (own_s3 w0 w1 w2 w3) ∧ OwnA Z h wa .double 4 (fun i => .double (own_wt na nb xb i))) → OwnA Z h b122 .int cN (own_tk A B fN) → f.toInt = (fN : Int) → fN ≤ cN → i.toInt = (iN : Int) → iN + k = 4 → OwnZ x (K * Jvm.FP.Core.one64) → K ≤ cN → OwnInv u sp na nb cN A B iN fN K la → ∃ (T' : State) (lo' : List Loc) (h' : Heap) (f' : Int32) (fN' : Nat) (x' : UInt64) (i' : Int32), Stand p l e ({ frames := 3, cells := 1, slots := 6, locals := 43 } : Room) s m #[(.ref wa), (.int cnt), (.ref a1)] below meth c T' lo' 1 6 ∧ T'.heap = h' ∧ Fr n0 lo' ∧ (Keep h0 h' [a1] ∧ OwnR Z h' a1 (own_s0 w0 w1 w2 w3) (own_s1 w0 w1 w2 w3) (own_s2 w0 w1 w2 w3) (own_s3 w0 w1 w2 w3) ∧ OwnA Z h' wa .double 4 (fun i => .double (own_wt na nb xb i))) ∧ OwnA Z h' b122 .int cN (own_tk A B fN') ∧ f'.toInt = (fN' : Int) ∧ (fN' = cN ∨ fN' + 1 = cN) ∧ ∀ t, Steps p.tables e below (T'.setTop (mkF m 147 #[.val (.ref wa), .val (.int cnt), .val (.ref a1), .val (.double x4), .second, .val (.double sp), .second, .val (.double u), .second, .val (.ref b122), .val (.int f'), .val (.double x'), .second, .val (.int B), .val (.int i')] [])) t → Steps p.tables e below (T.setTop (mkF m 67 #[.val (.ref wa), .val (.int cnt), .val (.ref a1), .val (.double x4), .second, .val (.double sp), .second, .val (.double u), .second, .val (.ref b122), .val (.int f), .val (.double x), .second, .val (.int la), .val (.int i)] [])) t := by
    intro k
    induction k with
    | zero =>
      intro i iN f fN x K la T lo h XX eT NN BB HH hf hfc hi hk zx hK inv
      have hlast : la = B ∧ (fN = cN ∨ fN + 1 = cN) := by
        rcases inv with ⟨y, -, -⟩ | ⟨-, y, -, -, -⟩ | ⟨-, -, y, y2⟩
        · omega
        · omega
        · exact ⟨y, y2.imp id (·.1)⟩
      obtain ⟨rfl, hfe⟩ := hlast
      obtain ⟨c127, A127, S127, V127⟩ := id BB.2.2
      refine ⟨T, lo, h, f, fN, x, i, XX, eT, NN, BB, HH, hf, hfe, ?_⟩
      intro t kk
      show Steps p.tables e below (T.setTop (mkF m 67 #[.val (.ref wa), .val (.int cnt), .val (.ref a1), .val (.double x4), .second, .val (.double sp), .second, .val (.double u), .second, .val (.ref b122), .val (.int f), .val (.double x), .second, .val (.int la), .val (.int i)] [])) _
      refine XS.iload XX.here hx rfl (hb hby d5_67) rfl ?_
      show Steps p.tables e below (T.setTop (mkF m 69 #[.val (.ref wa), .val (.int cnt), .val (.ref a1), .val (.double x4), .second, .val (.double sp), .second, .val (.double u), .second, .val (.ref b122), .val (.int f), .val (.double x), .second, .val (.int la), .val (.int i)] [(.int i)])) _
      refine XS.aloadN XX.here hx rfl (hb hby d5_69) rfl rfl ?_
      show Steps p.tables e below (T.setTop (mkF m 70 #[.val (.ref wa), .val (.int cnt), .val (.ref a1), .val (.double x4), .second, .val (.double sp), .second, .val (.double u), .second, .val (.ref b122), .val (.int f), .val (.double x), .second, .val (.int la), .val (.int i)] [(.ref wa), (.int i)])) _
      refine XX.arraylength hx (by rw [eT]; exact A127.1) (State.isArrayOf_alike hZ.alike A127.2.1) (g := (mkF m 70 #[.val (.ref wa), .val (.int cnt), .val (.ref a1), .val (.double x4), .second, .val (.double sp), .second, .val (.double u), .second, .val (.ref b122), .val (.int f), .val (.double x), .second, .val (.int la), .val (.int i)] [(.ref wa), (.int i)])) rfl rfl (hb hby d5_70) _ ?_
      rw [S127, (rfl : (4 : Nat).toInt32 = (4 : Int32))]
      show Steps p.tables e below (T.setTop (mkF m 71 #[.val (.ref wa), .val (.int cnt), .val (.ref a1), .val (.double x4), .second, .val (.double sp), .second, .val (.double u), .second, .val (.ref b122), .val (.int f), .val (.double x), .second, .val (.int la), .val (.int i)] [(.int (4 : Int32)), (.int i)])) _
      refine XS.icmpYes XX.here hx rfl (pc0 := 71) (pc' := 147) rfl (hb hby d5_71) rfl (XT.ii_ge_t (fun y => by rw [own_lt32, hi, show (4 : Int32).toInt = 4 from rfl] at y; omega)) (by decide) (by decide) ?_
      exact kk
    | succ k ih =>
      intro i iN f fN x K la T lo h XX eT NN BB HH hf hfc hi hk zx hK inv
      have hi4 : i < (4 : Int32) := by rw [own_lt32, hi, show (4 : Int32).toInt = 4 from rfl]; omega
      have hI : ¬ i < 0 ∧ i.toNatClampNeg < 4 := own_idx hi (by omega)
      by_cases hfl : f < cnt
      · have hfN : fN < cN := by rw [own_lt32, hf, hcnt] at hfl; omega
        have ID : ∀ t, Steps p.tables e below (T.setTop (mkF m 67 #[.val (.ref wa), .val (.int cnt), .val (.ref a1), .val (.double x4), .second, .val (.double sp), .second, .val (.double u), .second, .val (.ref b122), .val (.int f), .val (.double x), .second, .val (.int la), .val (.int i)] [])) t → Steps p.tables e below (T.setTop (mkF m 67 #[.val (.ref wa), .val (.int cnt), .val (.ref a1), .val (.double x4), .second, .val (.double sp), .second, .val (.double u), .second, .val (.ref b122), .val (.int f), .val (.double x), .second, .val (.int la), .val (.int i)] [])) t := fun t kk => kk
        obtain ⟨wv, hwv⟩ : ∃ y : UInt64, y = own_wt na nb xb iN := ⟨_, rfl⟩
        have zw : OwnZ wv (own_wn na nb cN iN * Jvm.FP.Core.one64) := by rw [hwv]; exact own_wt_z zb
        have hwb : K + own_wn na nb cN iN ≤ cN := own_inv_le hab hc2 inv
        have zx1 := OwnZ.add zx zw (by rw [← Nat.add_mul]; exact own_rep_int (by omega))
        rw [← Nat.add_mul] at zx1
        obtain ⟨c128, A128, S128, V128⟩ := id BB.2.2
        obtain ⟨c129, A129, S129, V129⟩ := id BB.2.2
        obtain ⟨c130, A130, S130, V130⟩ := id BB.2.2
        have C131 : ∀ t, Steps p.tables e below (T.setTop (mkF m 95 #[.val (.ref wa), .val (.int cnt), .val (.ref a1), .val (.double x4), .second, .val (.double sp), .second, .val (.double u), .second, .val (.ref b122), .val (.int f), .val (.double (FP.dadd x wv)), .second, .val (.int la), .val (.int i)] [(.int (cmpValue (FP.dcmp wv 0) .l))])) t → Steps p.tables e below (T.setTop (mkF m 67 #[.val (.ref wa), .val (.int cnt), .val (.ref a1), .val (.double x4), .second, .val (.double sp), .second, .val (.double u), .second, .val (.ref b122), .val (.int f), .val (.double x), .second, .val (.int la), .val (.int i)] [])) t := by
          intro t k
          refine ID t ?_
          show Steps p.tables e below (T.setTop (mkF m 67 #[.val (.ref wa), .val (.int cnt), .val (.ref a1), .val (.double x4), .second, .val (.double sp), .second, .val (.double u), .second, .val (.ref b122), .val (.int f), .val (.double x), .second, .val (.int la), .val (.int i)] [])) _
          refine XS.iload XX.here hx rfl (hb hby d5_67) rfl ?_
          show Steps p.tables e below (T.setTop (mkF m 69 #[.val (.ref wa), .val (.int cnt), .val (.ref a1), .val (.double x4), .second, .val (.double sp), .second, .val (.double u), .second, .val (.ref b122), .val (.int f), .val (.double x), .second, .val (.int la), .val (.int i)] [(.int i)])) _
          refine XS.aloadN XX.here hx rfl (hb hby d5_69) rfl rfl ?_
          show Steps p.tables e below (T.setTop (mkF m 70 #[.val (.ref wa), .val (.int cnt), .val (.ref a1), .val (.double x4), .second, .val (.double sp), .second, .val (.double u), .second, .val (.ref b122), .val (.int f), .val (.double x), .second, .val (.int la), .val (.int i)] [(.ref wa), (.int i)])) _
          refine XX.arraylength hx (by rw [eT]; exact A128.1) (State.isArrayOf_alike hZ.alike A128.2.1) (g := (mkF m 70 #[.val (.ref wa), .val (.int cnt), .val (.ref a1), .val (.double x4), .second, .val (.double sp), .second, .val (.double u), .second, .val (.ref b122), .val (.int f), .val (.double x), .second, .val (.int la), .val (.int i)] [(.ref wa), (.int i)])) rfl rfl (hb hby d5_70) _ ?_
          rw [S128, (rfl : (4 : Nat).toInt32 = (4 : Int32))]
          show Steps p.tables e below (T.setTop (mkF m 71 #[.val (.ref wa), .val (.int cnt), .val (.ref a1), .val (.double x4), .second, .val (.double sp), .second, .val (.double u), .second, .val (.ref b122), .val (.int f), .val (.double x), .second, .val (.int la), .val (.int i)] [(.int (4 : Int32)), (.int i)])) _
          refine XS.icmpNo XX.here hx rfl (hb hby d5_71) rfl (XT.ii_ge_f hi4) ?_
          show Steps p.tables e below (T.setTop (mkF m 74 #[.val (.ref wa), .val (.int cnt), .val (.ref a1), .val (.double x4), .second, .val (.double sp), .second, .val (.double u), .second, .val (.ref b122), .val (.int f), .val (.double x), .second, .val (.int la), .val (.int i)] [])) _
          refine XS.iload XX.here hx rfl (hb hby d5_74) rfl ?_
          show Steps p.tables e below (T.setTop (mkF m 76 #[.val (.ref wa), .val (.int cnt), .val (.ref a1), .val (.double x4), .second, .val (.double sp), .second, .val (.double u), .second, .val (.ref b122), .val (.int f), .val (.double x), .second, .val (.int la), .val (.int i)] [(.int f)])) _
          refine XS.iloadN XX.here hx rfl (hb hby d5_76) rfl ?_
          show Steps p.tables e below (T.setTop (mkF m 77 #[.val (.ref wa), .val (.int cnt), .val (.ref a1), .val (.double x4), .second, .val (.double sp), .second, .val (.double u), .second, .val (.ref b122), .val (.int f), .val (.double x), .second, .val (.int la), .val (.int i)] [(.int cnt), (.int f)])) _
          refine XS.icmpNo XX.here hx rfl (hb hby d5_77) rfl (XT.ii_ge_f hfl) ?_
          show Steps p.tables e below (T.setTop (mkF m 80 #[.val (.ref wa), .val (.int cnt), .val (.ref a1), .val (.double x4), .second, .val (.double sp), .second, .val (.double u), .second, .val (.ref b122), .val (.int f), .val (.double x), .second, .val (.int la), .val (.int i)] [])) _
          refine XS.dload XX.here hx rfl (hb hby d5_80) rfl ?_
          show Steps p.tables e below (T.setTop (mkF m 82 #[.val (.ref wa), .val (.int cnt), .val (.ref a1), .val (.double x4), .second, .val (.double sp), .second, .val (.double u), .second, .val (.ref b122), .val (.int f), .val (.double x), .second, .val (.int la), .val (.int i)] [(.double x)])) _
          refine XS.aloadN XX.here hx rfl (hb hby d5_82) rfl rfl ?_
          show Steps p.tables e below (T.setTop (mkF m 83 #[.val (.ref wa), .val (.int cnt), .val (.ref a1), .val (.double x4), .second, .val (.double sp), .second, .val (.double u), .second, .val (.ref b122), .val (.int f), .val (.double x), .second, .val (.int la), .val (.int i)] [(.ref wa), (.double x)])) _
          refine XS.iload XX.here hx rfl (hb hby d5_83) rfl ?_
          show Steps p.tables e below (T.setTop (mkF m 85 #[.val (.ref wa), .val (.int cnt), .val (.ref a1), .val (.double x4), .second, .val (.double sp), .second, .val (.double u), .second, .val (.ref b122), .val (.int f), .val (.double x), .second, .val (.int la), .val (.int i)] [(.int i), (.ref wa), (.double x)])) _
          refine XX.daload hx (j := i) (v := (.double wv)) (by rw [eT]; exact A129.1) (State.isArrayOf_alike hZ.alike A129.2.1) A129.2.2 (own_in hI S129) ((by rw [hwv, ← own_cl hi]; exact V129 _ hI.2)) (g := (mkF m 85 #[.val (.ref wa), .val (.int cnt), .val (.ref a1), .val (.double x4), .second, .val (.double sp), .second, .val (.double u), .second, .val (.ref b122), .val (.int f), .val (.double x), .second, .val (.int la), .val (.int i)] [(.int i), (.ref wa), (.double x)])) rfl rfl (hb hby d5_85) _ ?_
          show Steps p.tables e below (T.setTop (mkF m 86 #[.val (.ref wa), .val (.int cnt), .val (.ref a1), .val (.double x4), .second, .val (.double sp), .second, .val (.double u), .second, .val (.ref b122), .val (.int f), .val (.double x), .second, .val (.int la), .val (.int i)] [(.double wv), (.double x)])) _
          refine XS.daddS XX.here hx rfl (hb hby d5_86) rfl zx1.nn rfl ?_
          show Steps p.tables e below (T.setTop (mkF m 87 #[.val (.ref wa), .val (.int cnt), .val (.ref a1), .val (.double x4), .second, .val (.double sp), .second, .val (.double u), .second, .val (.ref b122), .val (.int f), .val (.double x), .second, .val (.int la), .val (.int i)] [(.double (FP.dadd x wv))])) _
          refine XS.dstore XX.here hx rfl (hb hby d5_87) rfl (l' := #[.val (.ref wa), .val (.int cnt), .val (.ref a1), .val (.double x4), .second, .val (.double sp), .second, .val (.double u), .second, .val (.ref b122), .val (.int f), .val (.double (FP.dadd x wv)), .second, .val (.int la), .val (.int i)]) rfl ?_
          show Steps p.tables e below (T.setTop (mkF m 89 #[.val (.ref wa), .val (.int cnt), .val (.ref a1), .val (.double x4), .second, .val (.double sp), .second, .val (.double u), .second, .val (.ref b122), .val (.int f), .val (.double (FP.dadd x wv)), .second, .val (.int la), .val (.int i)] [])) _
          refine XS.aloadN XX.here hx rfl (hb hby d5_89) rfl rfl ?_
          show Steps p.tables e below (T.setTop (mkF m 90 #[.val (.ref wa), .val (.int cnt), .val (.ref a1), .val (.double x4), .second, .val (.double sp), .second, .val (.double u), .second, .val (.ref b122), .val (.int f), .val (.double (FP.dadd x wv)), .second, .val (.int la), .val (.int i)] [(.ref wa)])) _
          refine XS.iload XX.here hx rfl (hb hby d5_90) rfl ?_
          show Steps p.tables e below (T.setTop (mkF m 92 #[.val (.ref wa), .val (.int cnt), .val (.ref a1), .val (.double x4), .second, .val (.double sp), .second, .val (.double u), .second, .val (.ref b122), .val (.int f), .val (.double (FP.dadd x wv)), .second, .val (.int la), .val (.int i)] [(.int i), (.ref wa)])) _
          refine XX.daload hx (j := i) (v := (.double wv)) (by rw [eT]; exact A130.1) (State.isArrayOf_alike hZ.alike A130.2.1) A130.2.2 (own_in hI S130) ((by rw [hwv, ← own_cl hi]; exact V130 _ hI.2)) (g := (mkF m 92 #[.val (.ref wa), .val (.int cnt), .val (.ref a1), .val (.double x4), .second, .val (.double sp), .second, .val (.double u), .second, .val (.ref b122), .val (.int f), .val (.double (FP.dadd x wv)), .second, .val (.int la), .val (.int i)] [(.int i), (.ref wa)])) rfl rfl (hb hby d5_92) _ ?_
          show Steps p.tables e below (T.setTop (mkF m 93 #[.val (.ref wa), .val (.int cnt), .val (.ref a1), .val (.double x4), .second, .val (.double sp), .second, .val (.double u), .second, .val (.ref b122), .val (.int f), .val (.double (FP.dadd x wv)), .second, .val (.int la), .val (.int i)] [(.double wv)])) _
          refine XS.dconst0 XX.here hx rfl (hb hby d5_93) (v := 0) rfl ?_
          show Steps p.tables e below (T.setTop (mkF m 94 #[.val (.ref wa), .val (.int cnt), .val (.ref a1), .val (.double x4), .second, .val (.double sp), .second, .val (.double u), .second, .val (.ref b122), .val (.int f), .val (.double (FP.dadd x wv)), .second, .val (.int la), .val (.int i)] [(.double 0), (.double wv)])) _
          refine XS.dcmpS XX.here hx rfl (hb hby d5_94) rfl rfl ?_
          exact k
        obtain ⟨x1, hx1e⟩ : ∃ z : UInt64, z = (FP.dadd x wv) := ⟨_, rfl⟩
        rw [← hx1e] at C131
        rw [← hx1e] at zx1
        obtain ⟨la1, hla1, C105⟩ : ∃ la1 : Int32, la1 = (if own_wn na nb cN iN ≠ 0 then i else la) ∧ ∀ t, Steps p.tables e below (T.setTop (mkF m 105 #[.val (.ref wa), .val (.int cnt), .val (.ref a1), .val (.double x4), .second, .val (.double sp), .second, .val (.double u), .second, .val (.ref b122), .val (.int f), .val (.double x1), .second, .val (.int la), .val (.int i)] [(.int la1)])) t → Steps p.tables e below (T.setTop (mkF m 67 #[.val (.ref wa), .val (.int cnt), .val (.ref a1), .val (.double x4), .second, .val (.double sp), .second, .val (.double u), .second, .val (.ref b122), .val (.int f), .val (.double x), .second, .val (.int la), .val (.int i)] [])) t := by
          by_cases hw0 : own_wn na nb cN iN = 0
          · refine ⟨la, by rw [if_neg (fun y => y hw0)], ?_⟩
            intro t k
            refine C131 t ?_
            show Steps p.tables e below (T.setTop (mkF m 95 #[.val (.ref wa), .val (.int cnt), .val (.ref a1), .val (.double x4), .second, .val (.double sp), .second, .val (.double u), .second, .val (.ref b122), .val (.int f), .val (.double x1), .second, .val (.int la), .val (.int i)] [(.int (cmpValue (FP.dcmp wv 0) .l))])) _
            refine XS.ifYes XX.here hx rfl (pc0 := 95) (pc' := 103) rfl (hb hby d5_95) rfl (own_cl0_t zw (by rw [hw0, Nat.zero_mul])) (by decide) (by decide) ?_
            show Steps p.tables e below (T.setTop (mkF m 103 #[.val (.ref wa), .val (.int cnt), .val (.ref a1), .val (.double x4), .second, .val (.double sp), .second, .val (.double u), .second, .val (.ref b122), .val (.int f), .val (.double x1), .second, .val (.int la), .val (.int i)] [])) _
            refine XS.iload XX.here hx rfl (hb hby d5_103) rfl ?_
            exact k
          · refine ⟨i, by rw [if_pos hw0], ?_⟩
            intro t k
            refine C131 t ?_
            show Steps p.tables e below (T.setTop (mkF m 95 #[.val (.ref wa), .val (.int cnt), .val (.ref a1), .val (.double x4), .second, .val (.double sp), .second, .val (.double u), .second, .val (.ref b122), .val (.int f), .val (.double x1), .second, .val (.int la), .val (.int i)] [(.int (cmpValue (FP.dcmp wv 0) .l))])) _
            refine XS.ifNo XX.here hx rfl (hb hby d5_95) rfl (own_cl0_f zw (Nat.ne_of_gt (Nat.mul_pos (Nat.pos_of_ne_zero hw0) Jvm.FP.Core.one64_pos))) ?_
            show Steps p.tables e below (T.setTop (mkF m 98 #[.val (.ref wa), .val (.int cnt), .val (.ref a1), .val (.double x4), .second, .val (.double sp), .second, .val (.double u), .second, .val (.ref b122), .val (.int f), .val (.double x1), .second, .val (.int la), .val (.int i)] [])) _
            refine XS.iload XX.here hx rfl (hb hby d5_98) rfl ?_
            show Steps p.tables e below (T.setTop (mkF m 100 #[.val (.ref wa), .val (.int cnt), .val (.ref a1), .val (.double x4), .second, .val (.double sp), .second, .val (.double u), .second, .val (.ref b122), .val (.int f), .val (.double x1), .second, .val (.int la), .val (.int i)] [(.int i)])) _
            refine XS.goto XX.here hx rfl (pc0 := 100) (pc' := 105) rfl (hb hby d5_100) (by decide) (by decide) ?_
            exact k
        have C132 : ∀ t, Steps p.tables e below (T.setTop (mkF m 107 #[.val (.ref wa), .val (.int cnt), .val (.ref a1), .val (.double x4), .second, .val (.double sp), .second, .val (.double u), .second, .val (.ref b122), .val (.int f), .val (.double x1), .second, .val (.int la1), .val (.int i)] [])) t → Steps p.tables e below (T.setTop (mkF m 67 #[.val (.ref wa), .val (.int cnt), .val (.ref a1), .val (.double x4), .second, .val (.double sp), .second, .val (.double u), .second, .val (.ref b122), .val (.int f), .val (.double x), .second, .val (.int la), .val (.int i)] [])) t := by
          intro t k
          refine C105 t ?_
          show Steps p.tables e below (T.setTop (mkF m 105 #[.val (.ref wa), .val (.int cnt), .val (.ref a1), .val (.double x4), .second, .val (.double sp), .second, .val (.double u), .second, .val (.ref b122), .val (.int f), .val (.double x1), .second, .val (.int la), .val (.int i)] [(.int la1)])) _
          refine XS.istore XX.here hx rfl (hb hby d5_105) rfl (l' := #[.val (.ref wa), .val (.int cnt), .val (.ref a1), .val (.double x4), .second, .val (.double sp), .second, .val (.double u), .second, .val (.ref b122), .val (.int f), .val (.double x1), .second, .val (.int la1), .val (.int i)]) rfl ?_
          exact k
        obtain ⟨T', lo', h', f', fN', Y1, Y2, Y3, Y4, Y5, Y6, Y7, Y8, Y9, Y10, Y11⟩ := inner (cN - fN) f fN x1 _ la1 i T lo h XX eT NN BB HH hf (by omega) zx1 (own_writes zu hy zsp hab hc2 hc6 hA hB hi inv)
        have C141 : ∀ t, Steps p.tables e below (T'.setTop (mkF m 141 #[.val (.ref wa), .val (.int cnt), .val (.ref a1), .val (.double x4), .second, .val (.double sp), .second, .val (.double u), .second, .val (.ref b122), .val (.int f'), .val (.double x1), .second, .val (.int la1), .val (.int i)] [])) t → Steps p.tables e below (T.setTop (mkF m 67 #[.val (.ref wa), .val (.int cnt), .val (.ref a1), .val (.double x4), .second, .val (.double sp), .second, .val (.double u), .second, .val (.ref b122), .val (.int f), .val (.double x), .second, .val (.int la), .val (.int i)] [])) t := fun t kk => C132 t (Y11 t kk)
        have C133 : ∀ t, Steps p.tables e below (T'.setTop (mkF m 67 #[.val (.ref wa), .val (.int cnt), .val (.ref a1), .val (.double x4), .second, .val (.double sp), .second, .val (.double u), .second, .val (.ref b122), .val (.int f'), .val (.double x1), .second, .val (.int la1), .val (.int (i + (1 : Int32)))] [])) t → Steps p.tables e below (T.setTop (mkF m 67 #[.val (.ref wa), .val (.int cnt), .val (.ref a1), .val (.double x4), .second, .val (.double sp), .second, .val (.double u), .second, .val (.ref b122), .val (.int f), .val (.double x), .second, .val (.int la), .val (.int i)] [])) t := by
          intro t k
          refine C141 t ?_
          show Steps p.tables e below (T'.setTop (mkF m 141 #[.val (.ref wa), .val (.int cnt), .val (.ref a1), .val (.double x4), .second, .val (.double sp), .second, .val (.double u), .second, .val (.ref b122), .val (.int f'), .val (.double x1), .second, .val (.int la1), .val (.int i)] [])) _
          refine XS.iinc Y1.here hx rfl (hb hby d5_141) rfl (l' := #[.val (.ref wa), .val (.int cnt), .val (.ref a1), .val (.double x4), .second, .val (.double sp), .second, .val (.double u), .second, .val (.ref b122), .val (.int f'), .val (.double x1), .second, .val (.int la1), .val (.int (i + (1 : Int32)))]) rfl ?_
          show Steps p.tables e below (T'.setTop (mkF m 144 #[.val (.ref wa), .val (.int cnt), .val (.ref a1), .val (.double x4), .second, .val (.double sp), .second, .val (.double u), .second, .val (.ref b122), .val (.int f'), .val (.double x1), .second, .val (.int la1), .val (.int (i + (1 : Int32)))] [])) _
          refine XS.goto Y1.here hx rfl (pc0 := 144) (pc' := 67) rfl (hb hby d5_144) (by decide) (by decide) ?_
          exact k
        have hi1 : (i + (1 : Int32)).toInt = ((iN + 1 : Nat) : Int) := by have y := own_add_c hi (show (1 : Int32).toInt = 1 from rfl) (by omega) (by omega); omega
        have inv1 := own_turn (iv := i) zu hy zsp hab hc2 hc6 (fun y => Int32.toInt_inj.mp (by rw [hi, hA, y])) (fun y => Int32.toInt_inj.mp (by rw [hi, hB, y])) hla1 hfN inv Y7 Y8 Y9 Y10
        obtain ⟨T9, lo9, h9, f9, fN9, x9, i9, U1, U2, U3, U4, U5, U6, U7, U8⟩ := ih (i + (1 : Int32)) (iN + 1) f' fN' x1 _ la1 T' lo' h' Y1 Y2 Y3 Y4 Y5 Y6 Y8 hi1 (by omega) zx1 hwb inv1
        exact ⟨T9, lo9, h9, f9, fN9, x9, i9, U1, U2, U3, U4, U5, U6, U7, fun t kk => C133 t (U8 t kk)⟩
      · have hlast : la = B ∧ fN = cN := by
          have hge : fN = cN := by rw [own_lt32, hf, hcnt] at hfl; omega
          rcases inv with ⟨-, y, -⟩ | ⟨-, -, y, -, -⟩ | ⟨-, -, y, -⟩
          · omega
          · omega
          · exact ⟨y, hge⟩
        obtain ⟨rfl, hfe⟩ := hlast
        obtain ⟨c134, A134, S134, V134⟩ := id BB.2.2
        refine ⟨T, lo, h, f, fN, x, i, XX, eT, NN, BB, HH, hf, Or.inl hfe, ?_⟩
        intro t kk
        show Steps p.tables e below (T.setTop (mkF m 67 #[.val (.ref wa), .val (.int cnt), .val (.ref a1), .val (.double x4), .second, .val (.double sp), .second, .val (.double u), .second, .val (.ref b122), .val (.int f), .val (.double x), .second, .val (.int la), .val (.int i)] [])) _
        refine XS.iload XX.here hx rfl (hb hby d5_67) rfl ?_
        show Steps p.tables e below (T.setTop (mkF m 69 #[.val (.ref wa), .val (.int cnt), .val (.ref a1), .val (.double x4), .second, .val (.double sp), .second, .val (.double u), .second, .val (.ref b122), .val (.int f), .val (.double x), .second, .val (.int la), .val (.int i)] [(.int i)])) _
        refine XS.aloadN XX.here hx rfl (hb hby d5_69) rfl rfl ?_
        show Steps p.tables e below (T.setTop (mkF m 70 #[.val (.ref wa), .val (.int cnt), .val (.ref a1), .val (.double x4), .second, .val (.double sp), .second, .val (.double u), .second, .val (.ref b122), .val (.int f), .val (.double x), .second, .val (.int la), .val (.int i)] [(.ref wa), (.int i)])) _
        refine XX.arraylength hx (by rw [eT]; exact A134.1) (State.isArrayOf_alike hZ.alike A134.2.1) (g := (mkF m 70 #[.val (.ref wa), .val (.int cnt), .val (.ref a1), .val (.double x4), .second, .val (.double sp), .second, .val (.double u), .second, .val (.ref b122), .val (.int f), .val (.double x), .second, .val (.int la), .val (.int i)] [(.ref wa), (.int i)])) rfl rfl (hb hby d5_70) _ ?_
        rw [S134, (rfl : (4 : Nat).toInt32 = (4 : Int32))]
        show Steps p.tables e below (T.setTop (mkF m 71 #[.val (.ref wa), .val (.int cnt), .val (.ref a1), .val (.double x4), .second, .val (.double sp), .second, .val (.double u), .second, .val (.ref b122), .val (.int f), .val (.double x), .second, .val (.int la), .val (.int i)] [(.int (4 : Int32)), (.int i)])) _
        refine XS.icmpNo XX.here hx rfl (hb hby d5_71) rfl (XT.ii_ge_f hi4) ?_
        show Steps p.tables e below (T.setTop (mkF m 74 #[.val (.ref wa), .val (.int cnt), .val (.ref a1), .val (.double x4), .second, .val (.double sp), .second, .val (.double u), .second, .val (.ref b122), .val (.int f), .val (.double x), .second, .val (.int la), .val (.int i)] [])) _
        refine XS.iload XX.here hx rfl (hb hby d5_74) rfl ?_
        show Steps p.tables e below (T.setTop (mkF m 76 #[.val (.ref wa), .val (.int cnt), .val (.ref a1), .val (.double x4), .second, .val (.double sp), .second, .val (.double u), .second, .val (.ref b122), .val (.int f), .val (.double x), .second, .val (.int la), .val (.int i)] [(.int f)])) _
        refine XS.iloadN XX.here hx rfl (hb hby d5_76) rfl ?_
        show Steps p.tables e below (T.setTop (mkF m 77 #[.val (.ref wa), .val (.int cnt), .val (.ref a1), .val (.double x4), .second, .val (.double sp), .second, .val (.double u), .second, .val (.ref b122), .val (.int f), .val (.double x), .second, .val (.int la), .val (.int i)] [(.int cnt), (.int f)])) _
        refine XS.icmpYes XX.here hx rfl (pc0 := 77) (pc' := 147) rfl (hb hby d5_77) rfl (XT.ii_ge_t hfl) (by decide) (by decide) ?_
        exact kk
  obtain ⟨T9, lo9, h9, f9, fN9, x9, i9, U1, U2, U3, U4, U5, U6, U7, U8⟩ := outer 4 0 0 0 0 0 0 (-1) T122 _ h122 X122 e122 N120 ⟨K1, R1, Wt1⟩ H0 rfl (by omega) rfl rfl (by rw [Nat.zero_mul]; exact own_zero) (by omega) (Or.inl ⟨Nat.zero_le _, rfl, rfl⟩)
  have C147 : ∀ t, Steps p.tables e below (T9.setTop (mkF m 147 #[.val (.ref wa), .val (.int cnt), .val (.ref a1), .val (.double x4), .second, .val (.double sp), .second, .val (.double u), .second, .val (.ref b122), .val (.int f9), .val (.double x9), .second, .val (.int B), .val (.int i9)] [])) t → Steps p.tables e below (s₁.setTop (entryFrame m #[(.ref wa), (.int cnt), (.ref a1)] 15)) t := fun t kk => C123 t (U8 t kk)
  have fin : ∃ (T' : State) (lo' : List Loc) (h' : Heap) (f' : Int32), Stand p l e ({ frames := 3, cells := 1, slots := 6, locals := 43 } : Room) s m #[(.ref wa), (.int cnt), (.ref a1)] below meth c T' lo' 1 6 ∧ T'.heap = h' ∧ Fr n0 lo' ∧ (Keep h0 h' [a1] ∧ OwnR Z h' a1 (own_s0 w0 w1 w2 w3) (own_s1 w0 w1 w2 w3) (own_s2 w0 w1 w2 w3) (own_s3 w0 w1 w2 w3) ∧ OwnA Z h' wa .double 4 (fun i => .double (own_wt na nb xb i))) ∧ OwnA Z h' b122 .int cN (own_tk A B cN) ∧ ∀ t, Steps p.tables e below (T'.setTop (mkF m 166 #[.val (.ref wa), .val (.int cnt), .val (.ref a1), .val (.double x4), .second, .val (.double sp), .second, .val (.double u), .second, .val (.ref b122), .val (.int f'), .val (.double x9), .second, .val (.int B), .val (.int i9)] [])) t → Steps p.tables e below (s₁.setTop (entryFrame m #[(.ref wa), (.int cnt), (.ref a1)] 15)) t := by
    rcases U7 with g | g
    · subst g
      refine ⟨T9, lo9, h9, f9, U1, U2, U3, U4, U5, ?_⟩
      intro t k
      refine C147 t ?_
      show Steps p.tables e below (T9.setTop (mkF m 147 #[.val (.ref wa), .val (.int cnt), .val (.ref a1), .val (.double x4), .second, .val (.double sp), .second, .val (.double u), .second, .val (.ref b122), .val (.int f9), .val (.double x9), .second, .val (.int B), .val (.int i9)] [])) _
      refine XS.iload U1.here hx rfl (hb hby d5_147) rfl ?_
      show Steps p.tables e below (T9.setTop (mkF m 149 #[.val (.ref wa), .val (.int cnt), .val (.ref a1), .val (.double x4), .second, .val (.double sp), .second, .val (.double u), .second, .val (.ref b122), .val (.int f9), .val (.double x9), .second, .val (.int B), .val (.int i9)] [(.int f9)])) _
      refine XS.iloadN U1.here hx rfl (hb hby d5_149) rfl ?_
      show Steps p.tables e below (T9.setTop (mkF m 150 #[.val (.ref wa), .val (.int cnt), .val (.ref a1), .val (.double x4), .second, .val (.double sp), .second, .val (.double u), .second, .val (.ref b122), .val (.int f9), .val (.double x9), .second, .val (.int B), .val (.int i9)] [(.int cnt), (.int f9)])) _
      refine XS.icmpYes U1.here hx rfl (pc0 := 150) (pc' := 166) rfl (hb hby d5_150) rfl (XT.ii_ge_t (fun y => by rw [own_lt32, U6, hcnt] at y; omega)) (by decide) (by decide) ?_
      exact k
    · have hfl : f9 < cnt := by rw [own_lt32, U6, hcnt]; omega
      have hF : ¬ f9 < 0 ∧ f9.toNatClampNeg < cN := own_idx U6 (by omega)
      have hf1 : (f9 + (1 : Int32)).toInt = ((fN9 + 1 : Nat) : Int) := by have y := own_add_c U6 (show (1 : Int32).toInt = 1 from rfl) (by omega) (by omega); omega
      have C135 : ∀ t, Steps p.tables e below (T9.setTop (mkF m 162 #[.val (.ref wa), .val (.int cnt), .val (.ref a1), .val (.double x4), .second, .val (.double sp), .second, .val (.double u), .second, .val (.ref b122), .val (.int (f9 + (1 : Int32))), .val (.double x9), .second, .val (.int B), .val (.int i9)] [(.int B), (.int f9), (.ref b122)])) t → Steps p.tables e below (s₁.setTop (entryFrame m #[(.ref wa), (.int cnt), (.ref a1)] 15)) t := by
        intro t k
        refine C147 t ?_
        show Steps p.tables e below (T9.setTop (mkF m 147 #[.val (.ref wa), .val (.int cnt), .val (.ref a1), .val (.double x4), .second, .val (.double sp), .second, .val (.double u), .second, .val (.ref b122), .val (.int f9), .val (.double x9), .second, .val (.int B), .val (.int i9)] [])) _
        refine XS.iload U1.here hx rfl (hb hby d5_147) rfl ?_
        show Steps p.tables e below (T9.setTop (mkF m 149 #[.val (.ref wa), .val (.int cnt), .val (.ref a1), .val (.double x4), .second, .val (.double sp), .second, .val (.double u), .second, .val (.ref b122), .val (.int f9), .val (.double x9), .second, .val (.int B), .val (.int i9)] [(.int f9)])) _
        refine XS.iloadN U1.here hx rfl (hb hby d5_149) rfl ?_
        show Steps p.tables e below (T9.setTop (mkF m 150 #[.val (.ref wa), .val (.int cnt), .val (.ref a1), .val (.double x4), .second, .val (.double sp), .second, .val (.double u), .second, .val (.ref b122), .val (.int f9), .val (.double x9), .second, .val (.int B), .val (.int i9)] [(.int cnt), (.int f9)])) _
        refine XS.icmpNo U1.here hx rfl (hb hby d5_150) rfl (XT.ii_ge_f hfl) ?_
        show Steps p.tables e below (T9.setTop (mkF m 153 #[.val (.ref wa), .val (.int cnt), .val (.ref a1), .val (.double x4), .second, .val (.double sp), .second, .val (.double u), .second, .val (.ref b122), .val (.int f9), .val (.double x9), .second, .val (.int B), .val (.int i9)] [])) _
        refine XS.aload U1.here hx rfl (hb hby d5_153) rfl rfl ?_
        show Steps p.tables e below (T9.setTop (mkF m 155 #[.val (.ref wa), .val (.int cnt), .val (.ref a1), .val (.double x4), .second, .val (.double sp), .second, .val (.double u), .second, .val (.ref b122), .val (.int f9), .val (.double x9), .second, .val (.int B), .val (.int i9)] [(.ref b122)])) _
        refine XS.iload U1.here hx rfl (hb hby d5_155) rfl ?_
        show Steps p.tables e below (T9.setTop (mkF m 157 #[.val (.ref wa), .val (.int cnt), .val (.ref a1), .val (.double x4), .second, .val (.double sp), .second, .val (.double u), .second, .val (.ref b122), .val (.int f9), .val (.double x9), .second, .val (.int B), .val (.int i9)] [(.int f9), (.ref b122)])) _
        refine XS.iinc U1.here hx rfl (hb hby d5_157) rfl (l' := #[.val (.ref wa), .val (.int cnt), .val (.ref a1), .val (.double x4), .second, .val (.double sp), .second, .val (.double u), .second, .val (.ref b122), .val (.int (f9 + (1 : Int32))), .val (.double x9), .second, .val (.int B), .val (.int i9)]) rfl ?_
        show Steps p.tables e below (T9.setTop (mkF m 160 #[.val (.ref wa), .val (.int cnt), .val (.ref a1), .val (.double x4), .second, .val (.double sp), .second, .val (.double u), .second, .val (.ref b122), .val (.int (f9 + (1 : Int32))), .val (.double x9), .second, .val (.int B), .val (.int i9)] [(.int f9), (.ref b122)])) _
        refine XS.iload U1.here hx rfl (hb hby d5_160) rfl ?_
        exact k
      obtain ⟨c136, A136, S136, V136⟩ := id U5
      obtain ⟨T136, h136, X136, e136, W136, st136⟩ := stI U1 hx hZ U2 A136 (j := f9) (own_in hF S136) (g := (mkF m 162 #[.val (.ref wa), .val (.int cnt), .val (.ref a1), .val (.double x4), .second, .val (.double sp), .second, .val (.double u), .second, .val (.ref b122), .val (.int (f9 + (1 : Int32))), .val (.double x9), .second, .val (.int B), .val (.int i9)] [(.int B), (.int f9), (.ref b122)])) rfl rfl (hb hby d5_162)
      have N136 := Fr.snoc X136 U3 gb
      have C136 : ∀ t, Steps p.tables e below (T136.setTop (mkF m 163 #[.val (.ref wa), .val (.int cnt), .val (.ref a1), .val (.double x4), .second, .val (.double sp), .second, .val (.double u), .second, .val (.ref b122), .val (.int (f9 + (1 : Int32))), .val (.double x9), .second, .val (.int B), .val (.int i9)] [])) t → Steps p.tables e below (s₁.setTop (entryFrame m #[(.ref wa), (.int cnt), (.ref a1)] 15)) t := fun t k => C135 t (st136 t k)
      have C137 : ∀ t, Steps p.tables e below (T136.setTop (mkF m 166 #[.val (.ref wa), .val (.int cnt), .val (.ref a1), .val (.double x4), .second, .val (.double sp), .second, .val (.double u), .second, .val (.ref b122), .val (.int (f9 + (1 : Int32))), .val (.double x9), .second, .val (.int B), .val (.int i9)] [])) t → Steps p.tables e below (s₁.setTop (entryFrame m #[(.ref wa), (.int cnt), (.ref a1)] 15)) t := by
        intro t k
        refine C136 t ?_
        show Steps p.tables e below (T136.setTop (mkF m 163 #[.val (.ref wa), .val (.int cnt), .val (.ref a1), .val (.double x4), .second, .val (.double sp), .second, .val (.double u), .second, .val (.ref b122), .val (.int (f9 + (1 : Int32))), .val (.double x9), .second, .val (.int B), .val (.int i9)] [])) _
        refine XS.goto X136.here hx rfl (pc0 := 163) (pc' := 147) rfl (hb hby d5_163) (by decide) (by decide) ?_
        show Steps p.tables e below (T136.setTop (mkF m 147 #[.val (.ref wa), .val (.int cnt), .val (.ref a1), .val (.double x4), .second, .val (.double sp), .second, .val (.double u), .second, .val (.ref b122), .val (.int (f9 + (1 : Int32))), .val (.double x9), .second, .val (.int B), .val (.int i9)] [])) _
        refine XS.iload X136.here hx rfl (hb hby d5_147) rfl ?_
        show Steps p.tables e below (T136.setTop (mkF m 149 #[.val (.ref wa), .val (.int cnt), .val (.ref a1), .val (.double x4), .second, .val (.double sp), .second, .val (.double u), .second, .val (.ref b122), .val (.int (f9 + (1 : Int32))), .val (.double x9), .second, .val (.int B), .val (.int i9)] [(.int (f9 + (1 : Int32)))])) _
        refine XS.iloadN X136.here hx rfl (hb hby d5_149) rfl ?_
        show Steps p.tables e below (T136.setTop (mkF m 150 #[.val (.ref wa), .val (.int cnt), .val (.ref a1), .val (.double x4), .second, .val (.double sp), .second, .val (.double u), .second, .val (.ref b122), .val (.int (f9 + (1 : Int32))), .val (.double x9), .second, .val (.int B), .val (.int i9)] [(.int cnt), (.int (f9 + (1 : Int32)))])) _
        refine XS.icmpYes X136.here hx rfl (pc0 := 150) (pc' := 166) rfl (hb hby d5_150) rfl (XT.ii_ge_t (fun y => by rw [own_lt32, hf1, hcnt] at y; omega)) (by decide) (by decide) ?_
        exact k
      have H2 : OwnA Z h136 b122 .int cN (own_tk A B cN) := (U5.set W136).congr (fun j _ => by rw [own_cl U6, ← g]; exact own_tk_set (by rw [if_neg (by omega)]) j)
      exact ⟨T136, _, h136, _, X136, e136, N136, ⟨U4.1.wr W136 (Or.inr szb), U4.2.1.wr W136 a_b, U4.2.2.other W136 w_b⟩, H2, C137⟩
  obtain ⟨T8, lo8, h8, f8, V1, V2, V3, V4, V5, V6⟩ := fin
  have C138 : ∀ t, Steps p.tables e below (T8.setTop (mkF m 168 #[.val (.ref wa), .val (.int cnt), .val (.ref a1), .val (.double x4), .second, .val (.double sp), .second, .val (.double u), .second, .val (.ref b122), .val (.int f8), .val (.double x9), .second, .val (.int B), .val (.int i9)] [(.ref b122)])) t → Steps p.tables e below (s₁.setTop (entryFrame m #[(.ref wa), (.int cnt), (.ref a1)] 15)) t := by
    intro t k
    refine V6 t ?_
    show Steps p.tables e below (T8.setTop (mkF m 166 #[.val (.ref wa), .val (.int cnt), .val (.ref a1), .val (.double x4), .second, .val (.double sp), .second, .val (.double u), .second, .val (.ref b122), .val (.int f8), .val (.double x9), .second, .val (.int B), .val (.int i9)] [])) _
    refine XS.aload V1.here hx rfl (hb hby d5_166) rfl rfl ?_
    exact k
  obtain ⟨fs, hr, hrun, hended, hW, hsame⟩ := V1.leave (v := some (.ref b122)) (fun h => by rw [Bd.returns] at h; cases h)
  refine ⟨_, _, C138 _ ?_, hrun, hended, _, _, rfl, ?_, ⟨_, rfl⟩, hW, hsame.mono (by decide) (by decide)⟩
  · show Steps p.tables e below (T8.setTop (mkF m 168 #[.val (.ref wa), .val (.int cnt), .val (.ref a1), .val (.double x4), .second, .val (.double sp), .second, .val (.double u), .second, .val (.ref b122), .val (.int f8), .val (.double x9), .second, .val (.int B), .val (.int i9)] [(.ref b122)])) _
    exact retOut V1 hx Bd.returns rfl (Or.inr (Or.inr (Or.inr (Or.inr ⟨rfl, rfl, rfl⟩)))) (hb hby d5_168) hr
  · show Q5 Z a1 cN A B w0 w1 w2 w3 h0 n0 _ T8.heap _
    rw [V2]
    exact ⟨_, rfl, V3, szb, V5.congr (fun i hi => own_tk_hot hi), V4.2.1, V4.1⟩
section OwnUs
variable {Z : State} {h h' : Heap} {a r : Addr} {n q : Nat} {z A B : Int32}
/-- a UniversalSampling: its slots (A at q, B elsewhere) and the next one's number -/
def OwnU (Z : State) (h : Heap) (a r : Addr) (n : Nat) (z : Int32) (q : Nat) (A B : Int32) : Prop :=
  Exa Z h a "com/example/mutatune/mutatune/engine/UniversalSampling" ∧ Fld Z h a "com/example/mutatune/mutatune/engine/UniversalSampling" "slots" "[I" (.ref r) ∧ Fld Z h a "com/example/mutatune/mutatune/engine/UniversalSampling" "next" "I" (.int z) ∧ OwnA Z h r .int n (own_hot q A B)
theorem OwnU.ext (U : OwnU Z h a r n z q A B) (E : Ext h h') : OwnU Z h' a r n z q A B := ⟨U.1.ext E, U.2.1.ext E, U.2.2.1.ext E, U.2.2.2.ext E⟩
theorem OwnU.keep {ws : List Addr} (U : OwnU Z h a r n z q A B) (K : Keep h h' ws) (q1 : a ∉ ws) (q2 : r ∉ ws) : OwnU Z h' a r n z q A B := ⟨U.1.keep K, U.2.1.keep K q1, U.2.2.1.keep K q1, U.2.2.2.keep K q2⟩
theorem own_len {z : Int32} {n : Nat} (h : z.toInt = (n : Int)) (hn : n ≤ 6) : n.toInt32 = z := by
  have hc : n = 0 ∨ n = 1 ∨ n = 2 ∨ n = 3 ∨ n = 4 ∨ n = 5 ∨ n = 6 := by omega
  refine Int32.toInt_inj.mp ?_
  rw [h]
  rcases hc with e | e | e | e | e | e | e <;> subst e <;> rfl
theorem own_nin2' {x y z : Addr} (q : x ≠ y) (r : x ≠ z) : x ∉ [y, z] := own_nin2 q r
end OwnUs
theorem pd5 : parseMethodDescriptor "([DILcom/example/mutatune/mutatune/engine/SeededRandom;)[I" = some ⟨[(.array .double), .int, (.object "com/example/mutatune/mutatune/engine/SeededRandom")], some (.array .int)⟩ := by decide +kernel
theorem pd6 : parseMethodDescriptor "([I)V" = some ⟨[(.array .int)], none⟩ := by decide +kernel
theorem pd7 : parseMethodDescriptor "([II)V" = some ⟨[(.array .int), .int], none⟩ := by decide +kernel
def Q4 (Z : State) (a1 : Addr) (cN mp : Nat) (A B : Int32) (h0 : Heap) (n0 : Nat) (v : Option Value) (h : Heap) (L : List Loc) : Prop := v = none ∧ Fr n0 L ∧ ∃ r q, OwnU Z h a1 r cN 0 q A B ∧ q < 2 * mp ∧ h0.size ≤ r ∧ h0.size ≤ h.size
theorem ef4 (m : MethodId) (x0 : Addr) (x1 : Addr) (x2 : Int32) (x3 : Int32) (x4 : Addr) : entryFrame m #[(.ref x0), (.ref x1), (.int x2), (.int x3), (.ref x4)] 5 = mkF m 0 #[.val (.ref x0), .val (.ref x1), .val (.int x2), .val (.int x3), .val (.ref x4)] [] := by first | (simp [entryFrame, mkF, argsToLocals, Value.category]; done) | rfl
theorem d4_0 : decode prog_59_method_1_code 0 = .ok (.aload_n 0, 1) := by decide +kernel
theorem d4_1 : decode prog_59_method_1_code 1 = .ok (.invokespecial 1, 3) := by decide +kernel
theorem d4_4 : decode prog_59_method_1_code 4 = .ok (.aload_n 0, 1) := by decide +kernel
theorem d4_5 : decode prog_59_method_1_code 5 = .ok (.aload_n 1, 1) := by decide +kernel
theorem d4_6 : decode prog_59_method_1_code 6 = .ok (.iconst 2, 1) := by decide +kernel
theorem d4_7 : decode prog_59_method_1_code 7 = .ok (.iload_n 2, 1) := by decide +kernel
theorem d4_8 : decode prog_59_method_1_code 8 = .ok (.imul, 1) := by decide +kernel
theorem d4_9 : decode prog_59_method_1_code 9 = .ok (.iload_n 3, 1) := by decide +kernel
theorem d4_10 : decode prog_59_method_1_code 10 = .ok (.iadd, 1) := by decide +kernel
theorem d4_11 : decode prog_59_method_1_code 11 = .ok (.aload 4, 2) := by decide +kernel
theorem d4_13 : decode prog_59_method_1_code 13 = .ok (.invokestatic 7, 3) := by decide +kernel
theorem d4_16 : decode prog_59_method_1_code 16 = .ok (.putfield 13, 3) := by decide +kernel
theorem d4_19 : decode prog_59_method_1_code 19 = .ok (.aload 4, 2) := by decide +kernel
theorem d4_21 : decode prog_59_method_1_code 21 = .ok (.aload_n 0, 1) := by decide +kernel
theorem d4_22 : decode prog_59_method_1_code 22 = .ok (.getfield 13, 3) := by decide +kernel
theorem d4_25 : decode prog_59_method_1_code 25 = .ok (.invokevirtual 17, 3) := by decide +kernel
theorem d4_28 : decode prog_59_method_1_code 28 = .ok (.aload_n 0, 1) := by decide +kernel
theorem d4_29 : decode prog_59_method_1_code 29 = .ok (.getfield 13, 3) := by decide +kernel
theorem d4_32 : decode prog_59_method_1_code 32 = .ok (.iload_n 2, 1) := by decide +kernel
theorem d4_33 : decode prog_59_method_1_code 33 = .ok (.invokestatic 23, 3) := by decide +kernel
theorem d4_36 : decode prog_59_method_1_code 36 = .ok (.return_, 1) := by decide +kernel
set_option maxRecDepth 65536 in
set_option maxHeartbeats 40000000 in
theorem rm4 (l : Launch) (Z : State) (a0 : Array Value) (hw : ∀ d ∈ tables_1, d.before a0 Z = true) (ws : List Jvm.Cond) (a1 wa : Addr) (prs sgl : Int32) (ra : Addr) (na nb cN mp : Nat) (A B : Int32) (xb : UInt64) (w0 w1 w2 w3 : Int64) (h0 : Heap) (n0 : Nat) (Z0 : n0 ≤ h0.size) (F1 : Fld Z h0 a1 "com/example/mutatune/mutatune/engine/UniversalSampling" "slots" "[I" .null) (F2 : Fld Z h0 a1 "com/example/mutatune/mutatune/engine/UniversalSampling" "next" "I" (.int 0)) (E1 : Exa Z h0 a1 "com/example/mutatune/mutatune/engine/UniversalSampling") (g1 : n0 ≤ a1) (gra : n0 ≤ ra) (Wt : OwnA Z h0 wa .double 4 (fun i => .double (own_wt na nb xb i))) (R : OwnR Z h0 ra w0 w1 w2 w3) (NZ : OwnNZ w0 w1 w2 w3) (hcnt : (((2 : Int32) * prs) + sgl).toInt = (cN : Int)) (hc2 : 2 ≤ cN) (hc6 : cN ≤ 6) (hab : na < nb) (hb4 : nb < 4) (hA : A.toInt = (na : Int)) (hB : B.toInt = (nb : Int)) (hAB : A ≠ B) (zb : OwnZ xb ((cN - 1) * Jvm.FP.Core.one64)) (hprs : prs.toInt = (mp : Int)) (hmp1 : 1 ≤ mp) (hmp2 : mp ≤ 2) (h2m : 2 * mp ≤ cN) :
    MetFree l (⟨"com/example/mutatune/mutatune/engine/UniversalSampling", "<init>", "([DIILcom/example/mutatune/mutatune/engine/SeededRandom;)V"⟩ : MethodName) (head1 (Jvm.Cond.code (⟨"com/example/mutatune/mutatune/engine/UniversalSampling", "<init>", "([DIILcom/example/mutatune/mutatune/engine/SeededRandom;)V"⟩ : MethodName) prog_59_method_1_code 5 none :: ws) ({ frames := 4, cells := 1, slots := 6, locals := 70 } : Room)) (fun a U => a = #[(.ref a1), (.ref wa), (.int prs), (.int sgl), (.ref ra)] ∧ Z.Warmed39 U.vm ∧ U.heap = h0) (fun _ _ _ _ _ => True) (fun _ U o U' => ∃ v L, o = .returned v ∧ Q4 Z a1 cN mp A B h0 n0 v U'.heap L ∧ FrameEnd U o U' L ({ frames := 4, cells := 1, slots := 6, locals := 70 } : Room).cells ({ frames := 4, cells := 1, slots := 6, locals := 70 } : Room).slots) := by
  refine MetFree.of_bodySF (plainFor_of_name pn2) hisR ?_
  intro p e s m args below meth c s₁ Bd hml0 hP hK
  obtain ⟨rfl, hZ, hh⟩ := hP
  have hx := Bd.exec
  have hby := Bd.bytes
  have hml : c.maxLocals = 5 := hml0
  have hown : s.vm.findClass "com/example/mutatune/mutatune/engine/UniversalSampling" = some m.cls := findClass_of_methodNamed Bd.named
  have hnm := (name_of_methodNamed Bd.named Bd.method).1
  have X0 : Stand p l e ({ frames := 4, cells := 1, slots := 6, locals := 70 } : Room) s m #[(.ref a1), (.ref wa), (.int prs), (.int sgl), (.ref ra)] below meth c s₁ [] 0 0 := Stand.of_body Bd
  have e0 : s₁.heap = h0 := by rw [← hh, Bd.state]; rfl
  have N0 := Fr.nil n0
  have pre0 : ∀ t, Steps p.tables e below (s₁.setTop (mkF m 0 #[.val (.ref a1), .val (.ref wa), .val (.int prs), .val (.int sgl), .val (.ref ra)] [])) t → Steps p.tables e below (s₁.setTop (entryFrame m #[(.ref a1), (.ref wa), (.int prs), (.int sgl), (.ref ra)] 5)) t := fun t k => castTop (ef4 m a1 wa prs sgl ra) k
  have a_ra : a1 ≠ ra := ne_exa E1 R.1 (by decide)
  have C139 : ∀ t, Steps p.tables e below (s₁.setTop (mkF m 1 #[.val (.ref a1), .val (.ref wa), .val (.int prs), .val (.int sgl), .val (.ref ra)] [(.ref a1)])) t → Steps p.tables e below (s₁.setTop (entryFrame m #[(.ref a1), (.ref wa), (.int prs), (.int sgl), (.ref ra)] 5)) t := by
    intro t k
    refine pre0 t ?_
    show Steps p.tables e below (s₁.setTop (mkF m 0 #[.val (.ref a1), .val (.ref wa), .val (.int prs), .val (.int sgl), .val (.ref ra)] [])) _
    refine XS.aloadN X0.here hx rfl (hb hby d4_0) rfl rfl ?_
    exact k
  obtain ⟨T140, X140, e140, st140⟩ := initO X0 hx hZ hown (hw _ (List.mem_of_getElem? (i := 31) rfl)) (hw _ (List.mem_of_getElem? (i := 9) rfl)) (hw _ (List.mem_of_getElem? (i := 10) rfl)) e0 (g := (mkF m 1 #[.val (.ref a1), .val (.ref wa), .val (.int prs), .val (.int sgl), .val (.ref ra)] [(.ref a1)])) rfl (by rw [hml]; rfl) rfl (hb hby d4_1) (by decide) (W := 0) (by show 2 * 0 + _ ≤ _; exact Nat.le_of_eq rfl) (by decide)
  have C140 : ∀ t, Steps p.tables e below (T140.setTop (mkF m 4 #[.val (.ref a1), .val (.ref wa), .val (.int prs), .val (.int sgl), .val (.ref ra)] [])) t → Steps p.tables e below (s₁.setTop (entryFrame m #[(.ref a1), (.ref wa), (.int prs), (.int sgl), (.ref ra)] 5)) t := fun t k => C139 t (st140 t k)
  have C141 : ∀ t, Steps p.tables e below (T140.setTop (mkF m 13 #[.val (.ref a1), .val (.ref wa), .val (.int prs), .val (.int sgl), .val (.ref ra)] [(.ref ra), (.int (((2 : Int32) * prs) + sgl)), (.ref wa), (.ref a1)])) t → Steps p.tables e below (s₁.setTop (entryFrame m #[(.ref a1), (.ref wa), (.int prs), (.int sgl), (.ref ra)] 5)) t := by
    intro t k
    refine C140 t ?_
    show Steps p.tables e below (T140.setTop (mkF m 4 #[.val (.ref a1), .val (.ref wa), .val (.int prs), .val (.int sgl), .val (.ref ra)] [])) _
    refine XS.aloadN X140.here hx rfl (hb hby d4_4) rfl rfl ?_
    show Steps p.tables e below (T140.setTop (mkF m 5 #[.val (.ref a1), .val (.ref wa), .val (.int prs), .val (.int sgl), .val (.ref ra)] [(.ref a1)])) _
    refine XS.aloadN X140.here hx rfl (hb hby d4_5) rfl rfl ?_
    show Steps p.tables e below (T140.setTop (mkF m 6 #[.val (.ref a1), .val (.ref wa), .val (.int prs), .val (.int sgl), .val (.ref ra)] [(.ref wa), (.ref a1)])) _
    refine XS.iconst X140.here hx rfl (hb hby d4_6) ?_
    show Steps p.tables e below (T140.setTop (mkF m 7 #[.val (.ref a1), .val (.ref wa), .val (.int prs), .val (.int sgl), .val (.ref ra)] [(.int (2 : Int32)), (.ref wa), (.ref a1)])) _
    refine XS.iloadN X140.here hx rfl (hb hby d4_7) rfl ?_
    show Steps p.tables e below (T140.setTop (mkF m 8 #[.val (.ref a1), .val (.ref wa), .val (.int prs), .val (.int sgl), .val (.ref ra)] [(.int prs), (.int (2 : Int32)), (.ref wa), (.ref a1)])) _
    refine XS.imul X140.here hx rfl (hb hby d4_8) rfl ?_
    show Steps p.tables e below (T140.setTop (mkF m 9 #[.val (.ref a1), .val (.ref wa), .val (.int prs), .val (.int sgl), .val (.ref ra)] [(.int ((2 : Int32) * prs)), (.ref wa), (.ref a1)])) _
    refine XS.iloadN X140.here hx rfl (hb hby d4_9) rfl ?_
    show Steps p.tables e below (T140.setTop (mkF m 10 #[.val (.ref a1), .val (.ref wa), .val (.int prs), .val (.int sgl), .val (.ref ra)] [(.int sgl), (.int ((2 : Int32) * prs)), (.ref wa), (.ref a1)])) _
    refine XS.iadd X140.here hx rfl (hb hby d4_10) rfl ?_
    show Steps p.tables e below (T140.setTop (mkF m 11 #[.val (.ref a1), .val (.ref wa), .val (.int prs), .val (.int sgl), .val (.ref ra)] [(.int (((2 : Int32) * prs) + sgl)), (.ref wa), (.ref a1)])) _
    refine XS.aload X140.here hx rfl (hb hby d4_11) rfl rfl ?_
    exact k
  obtain ⟨_, _, ⟨T142, L142, k142, n142⟩, -, X142, ⟨Lc142, hQ142, l142, y142, z142⟩, st142⟩ := Jvm.LawKit.callS X140 hx (y := (⟨"com/example/mutatune/mutatune/engine/UniversalSampling", "sample", "([DILcom/example/mutatune/mutatune/engine/SeededRandom;)[I"⟩ : MethodName)) hown (mvT hZ (hw _ (List.mem_of_getElem? (i := 32) rfl))) (mvT hZ (hw _ (List.mem_of_getElem? (i := 33) rfl))) (mvT hZ (hw _ (List.mem_of_getElem? (i := 27) rfl))) (mvT hZ (hw _ (List.mem_of_getElem? (i := 34) rfl))) (by decide) (backOf (W := 1) (rm5 l Z a0 hw [] wa (((2 : Int32) * prs) + sgl) ra na nb cN A B xb w0 w1 w2 w3 h0 n0 Z0 Wt R gra hcnt hc2 hc6 hab hb4 hA hB zb) hZ (hw _ (List.mem_of_getElem? (i := 34) rfl)) (hw _ (List.mem_of_getElem? (i := 27) rfl)) (by decide) (by decide)) (g := (mkF m 13 #[.val (.ref a1), .val (.ref wa), .val (.int prs), .val (.int sgl), .val (.ref ra)] [(.ref ra), (.int (((2 : Int32) * prs) + sgl)), (.ref wa), (.ref a1)])) rfl (by rw [hml]; rfl) (argsL := [(.ref wa), (.int (((2 : Int32) * prs) + sgl)), (.ref ra)]) (rest := [(.ref a1)]) (lenOf pd5 rfl) rfl (by show 2 * 0 + _ ≤ _; exact Nat.le_of_eq rfl) (hb hby d4_13) (fun _ _ => ⟨rfl, e140, (by decide : 0 + 1 ≤ _), (by decide : 0 + 6 ≤ _)⟩)
  dsimp only [Pt.U, Pt.locs, Pt.cells, Pt.slots] at X142 l142 y142 z142 st142 hQ142
  subst l142 y142 z142
  obtain ⟨r, rfl, N142q, fr142, H142, R142, K142⟩ := hQ142
  have N142 := Fr.app N0 N142q
  have C142 : ∀ t, Steps p.tables e below (T142.setTop (mkF m 16 #[.val (.ref a1), .val (.ref wa), .val (.int prs), .val (.int sgl), .val (.ref ra)] [(.ref r), (.ref a1)])) t → Steps p.tables e below (s₁.setTop (entryFrame m #[(.ref a1), (.ref wa), (.int prs), (.int sgl), (.ref ra)] 5)) t := fun t k => C141 t (st142 t k)
  have F1a := F1.keep K142 (own_nin1 a_ra)
  have F2a := F2.keep K142 (own_nin1 a_ra)
  have E1a := E1.keep K142
  have a_r := own_ne E1a (hw _ (List.mem_of_getElem? (i := 26) rfl)) H142
  obtain ⟨T143, h143, X143, e143, W143, st143⟩ := putF X142 hx hZ hown (host := "") (Or.inl (hw _ (List.mem_of_getElem? (i := 51) rfl))) Via.refl rfl F1a E1a (Or.inr ⟨(hw _ (List.mem_of_getElem? (i := 52) rfl)), rfl, hnm⟩) (hw _ (List.mem_of_getElem? (i := 26) rfl)) (ty := (.array .int)) (by decide) rfl rfl (g := (mkF m 16 #[.val (.ref a1), .val (.ref wa), .val (.int prs), .val (.int sgl), .val (.ref ra)] [(.ref r), (.ref a1)])) rfl rfl (hb hby d4_16)
  have N143 := Fr.snoc X143 N142 g1
  have C143 : ∀ t, Steps p.tables e below (T143.setTop (mkF m 19 #[.val (.ref a1), .val (.ref wa), .val (.int prs), .val (.int sgl), .val (.ref ra)] [])) t → Steps p.tables e below (s₁.setTop (entryFrame m #[(.ref a1), (.ref wa), (.int prs), (.int sgl), (.ref ra)] 5)) t := fun t k => C142 t (st143 t k)
  have F1b := F1a.same W143
  have F2b := F2a.other W143 (Or.inr (slot_ne (Or.inl (hw _ (List.mem_of_getElem? (i := 73) rfl))) (Or.inr (hw _ (List.mem_of_getElem? (i := 52) rfl))) (by decide) (t := .int) (t' := (.array .int)) (by decide) (by decide)))
  have E1b := E1a.wr W143
  have Hb := H142.other W143 (Ne.symm a_r)
  have Rb := R142.wr W143 (Ne.symm a_ra)
  have K1 : Keep h0 h143 [a1, ra] := Keep.wr (Keep.trans (Keep.refl h0 [a1, ra]) K142 (fun x hx => Or.inl (by cases List.mem_singleton.mp hx; exact List.mem_of_getElem? (i := 1) rfl))) W143 (Or.inl (List.mem_of_getElem? (i := 0) rfl))
  have Z1 : n0 ≤ h143.size := Nat.le_trans Z0 K1.1
  have gr : n0 ≤ r := Nat.le_trans Z0 fr142
  have hlen := own_len hcnt hc6
  have C144 : ∀ t, Steps p.tables e below (T143.setTop (mkF m 22 #[.val (.ref a1), .val (.ref wa), .val (.int prs), .val (.int sgl), .val (.ref ra)] [(.ref a1), (.ref ra)])) t → Steps p.tables e below (s₁.setTop (entryFrame m #[(.ref a1), (.ref wa), (.int prs), (.int sgl), (.ref ra)] 5)) t := by
    intro t k
    refine C143 t ?_
    show Steps p.tables e below (T143.setTop (mkF m 19 #[.val (.ref a1), .val (.ref wa), .val (.int prs), .val (.int sgl), .val (.ref ra)] [])) _
    refine XS.aload X143.here hx rfl (hb hby d4_19) rfl rfl ?_
    show Steps p.tables e below (T143.setTop (mkF m 21 #[.val (.ref a1), .val (.ref wa), .val (.int prs), .val (.int sgl), .val (.ref ra)] [(.ref ra)])) _
    refine XS.aloadN X143.here hx rfl (hb hby d4_21) rfl rfl ?_
    exact k
  obtain ⟨T145, X145, e145, st145⟩ := getF X143 hx hZ hown (host := "") (Or.inl (hw _ (List.mem_of_getElem? (i := 51) rfl))) Via.refl e143 F1b (g := (mkF m 22 #[.val (.ref a1), .val (.ref wa), .val (.int prs), .val (.int sgl), .val (.ref ra)] [(.ref a1), (.ref ra)])) rfl rfl (hb hby d4_22)
  have C145 : ∀ t, Steps p.tables e below (T145.setTop (mkF m 25 #[.val (.ref a1), .val (.ref wa), .val (.int prs), .val (.int sgl), .val (.ref ra)] [(.ref r), (.ref ra)])) t → Steps p.tables e below (s₁.setTop (entryFrame m #[(.ref a1), (.ref wa), (.int prs), (.int sgl), (.ref ra)] 5)) t := fun t k => C144 t (st145 t k)
  obtain ⟨cq146, kq146, q146a, q146b, q146c⟩ := isOf hZ e145 Rb.1
  obtain ⟨_, _, ⟨T146, L146, k146, n146⟩, -, X146, ⟨Lc146, hQ146, l146, y146, z146⟩, st146⟩ := X145.virtualBack hx (y := (⟨"com/example/mutatune/mutatune/engine/SeededRandom", "shuffle", "([I)V"⟩ : MethodName)) (z := (⟨"com/example/mutatune/mutatune/engine/SeededRandom", "shuffle", "([I)V"⟩ : MethodName)) hown (mvT hZ (hw _ (List.mem_of_getElem? (i := 53) rfl))) (mvT hZ (hw _ (List.mem_of_getElem? (i := 54) rfl))) (notFace_of_selects (args := #[]) (mvT hZ (hw _ (List.mem_of_getElem? (i := 56) rfl)))) (mvT hZ (hw _ (List.mem_of_getElem? (i := 56) rfl))) (mvT hZ (hw _ (List.mem_of_getElem? (i := 55) rfl))) (by decide) (backOf (W := 0) (rm9 l Z a0 hw [] ra r cN (((2 : Int32) * prs) + sgl) A B 0 (own_s0 w0 w1 w2 w3) (own_s1 w0 w1 w2 w3) (own_s2 w0 w1 w2 w3) (own_s3 w0 w1 w2 w3) h143 n0 Z1 Rb (own_nz_step NZ) Hb (by omega) hc2 hc6 hlen hcnt gra gr) hZ (hw _ (List.mem_of_getElem? (i := 57) rfl)) (hw _ (List.mem_of_getElem? (i := 4) rfl)) (by decide) (by decide)) q146a q146c (g := (mkF m 25 #[.val (.ref a1), .val (.ref wa), .val (.int prs), .val (.int sgl), .val (.ref ra)] [(.ref r), (.ref ra)])) rfl (by rw [hml]; rfl) (Steps.refl _) (argsL := [(.ref r)]) (rest := []) (lenOf pd6 rfl) rfl (by show 2 * 0 + _ ≤ _; exact Nat.le_of_eq rfl) (hb hby d4_25) (fun _ _ => ⟨rfl, e145, (by decide : 1 + 0 ≤ _), (by decide : 6 + 0 ≤ _)⟩)
  dsimp only [Pt.U, Pt.locs, Pt.cells, Pt.slots] at X146 l146 y146 z146 st146 hQ146
  subst l146 y146 z146
  obtain ⟨rfl, N146q, q146, H146, hq146, K146⟩ := hQ146
  have N146 := Fr.app N143 N146q
  have C146 : ∀ t, Steps p.tables e below (T146.setTop (mkF m 28 #[.val (.ref a1), .val (.ref wa), .val (.int prs), .val (.int sgl), .val (.ref ra)] [])) t → Steps p.tables e below (s₁.setTop (entryFrame m #[(.ref a1), (.ref wa), (.int prs), (.int sgl), (.ref ra)] 5)) t := fun t k => C145 t (st146.trans k)
  have F1c := F1b.keep K146 (own_nin2 a_ra a_r)
  have F2c := F2b.keep K146 (own_nin2 a_ra a_r)
  have E1c := E1b.keep K146
  have Z2 : n0 ≤ T146.heap.size := Nat.le_trans Z1 K146.1
  have C147 : ∀ t, Steps p.tables e below (T146.setTop (mkF m 29 #[.val (.ref a1), .val (.ref wa), .val (.int prs), .val (.int sgl), .val (.ref ra)] [(.ref a1)])) t → Steps p.tables e below (s₁.setTop (entryFrame m #[(.ref a1), (.ref wa), (.int prs), (.int sgl), (.ref ra)] 5)) t := by
    intro t k
    refine C146 t ?_
    show Steps p.tables e below (T146.setTop (mkF m 28 #[.val (.ref a1), .val (.ref wa), .val (.int prs), .val (.int sgl), .val (.ref ra)] [])) _
    refine XS.aloadN X146.here hx rfl (hb hby d4_28) rfl rfl ?_
    exact k
  obtain ⟨T148, X148, e148, st148⟩ := getF X146 hx hZ hown (host := "") (Or.inl (hw _ (List.mem_of_getElem? (i := 51) rfl))) Via.refl rfl F1c (g := (mkF m 29 #[.val (.ref a1), .val (.ref wa), .val (.int prs), .val (.int sgl), .val (.ref ra)] [(.ref a1)])) rfl rfl (hb hby d4_29)
  have C148 : ∀ t, Steps p.tables e below (T148.setTop (mkF m 32 #[.val (.ref a1), .val (.ref wa), .val (.int prs), .val (.int sgl), .val (.ref ra)] [(.ref r)])) t → Steps p.tables e below (s₁.setTop (entryFrame m #[(.ref a1), (.ref wa), (.int prs), (.int sgl), (.ref ra)] 5)) t := fun t k => C147 t (st148 t k)
  have C149 : ∀ t, Steps p.tables e below (T148.setTop (mkF m 33 #[.val (.ref a1), .val (.ref wa), .val (.int prs), .val (.int sgl), .val (.ref ra)] [(.int prs), (.ref r)])) t → Steps p.tables e below (s₁.setTop (entryFrame m #[(.ref a1), (.ref wa), (.int prs), (.int sgl), (.ref ra)] 5)) t := by
    intro t k
    refine C148 t ?_
    show Steps p.tables e below (T148.setTop (mkF m 32 #[.val (.ref a1), .val (.ref wa), .val (.int prs), .val (.int sgl), .val (.ref ra)] [(.ref r)])) _
    refine XS.iloadN X148.here hx rfl (hb hby d4_32) rfl ?_
    exact k
  obtain ⟨_, _, ⟨T150, L150, k150, n150⟩, -, X150, ⟨Lc150, hQ150, l150, y150, z150⟩, st150⟩ := Jvm.LawKit.callS X148 hx (y := (⟨"com/example/mutatune/mutatune/engine/UniversalSampling", "separatePairs", "([II)V"⟩ : MethodName)) hown (mvT hZ (hw _ (List.mem_of_getElem? (i := 64) rfl))) (mvT hZ (hw _ (List.mem_of_getElem? (i := 65) rfl))) (mvT hZ (hw _ (List.mem_of_getElem? (i := 27) rfl))) (mvT hZ (hw _ (List.mem_of_getElem? (i := 66) rfl))) (by decide) (backOf (W := 0) (rm11 l Z a0 hw [] r prs cN mp (((2 : Int32) * prs) + sgl) A B q146 T146.heap n0 Z2 H146 hq146 hAB hprs hmp1 hmp2 h2m hc6 hlen hcnt gr) hZ (hw _ (List.mem_of_getElem? (i := 66) rfl)) (hw _ (List.mem_of_getElem? (i := 27) rfl)) (by decide) (by decide)) (g := (mkF m 33 #[.val (.ref a1), .val (.ref wa), .val (.int prs), .val (.int sgl), .val (.ref ra)] [(.int prs), (.ref r)])) rfl (by rw [hml]; rfl) (argsL := [(.ref r), (.int prs)]) (rest := []) (lenOf pd7 rfl) rfl (by show 2 * 0 + _ ≤ _; exact Nat.le_of_eq rfl) (hb hby d4_33) (fun _ _ => ⟨rfl, e148, (by decide : 1 + 0 ≤ _), (by decide : 6 + 0 ≤ _)⟩)
  dsimp only [Pt.U, Pt.locs, Pt.cells, Pt.slots] at X150 l150 y150 z150 st150 hQ150
  subst l150 y150 z150
  obtain ⟨rfl, N150q, q150, H150, hq150, K150⟩ := hQ150
  have N150 := Fr.app N146 N150q
  have C150 : ∀ t, Steps p.tables e below (T150.setTop (mkF m 36 #[.val (.ref a1), .val (.ref wa), .val (.int prs), .val (.int sgl), .val (.ref ra)] [])) t → Steps p.tables e below (s₁.setTop (entryFrame m #[(.ref a1), (.ref wa), (.int prs), (.int sgl), (.ref ra)] 5)) t := fun t k => C149 t (st150 t k)
  have a_rr : a1 ∉ [r] := own_nin1 a_r
  obtain ⟨fs, hr, hrun, hended, hW, hsame⟩ := X150.leave (v := none) (fun _ => rfl)
  refine ⟨_, _, C150 _ ?_, hrun, hended, _, _, rfl, ?_, ⟨_, rfl⟩, hW, hsame.mono (by decide) (by decide)⟩
  · show Steps p.tables e below (T150.setTop (mkF m 36 #[.val (.ref a1), .val (.ref wa), .val (.int prs), .val (.int sgl), .val (.ref ra)] [])) _
    exact X150.returnOut hx Bd.returns (hb hby d4_36) hr
  · show Q4 Z a1 cN mp A B h0 n0 _ T150.heap _
    exact ⟨rfl, N150, r, q150, ⟨E1c.keep K150, F1c.keep K150 a_rr, F2c.keep K150 a_rr, H150⟩, hq150, fr142, Nat.le_trans (Nat.le_trans K1.1 K146.1) K150.1⟩
theorem own_i20 : ¬ (0 : Int32) < 0 ∧ (0 : Int32).toNatClampNeg < 2 := by decide
theorem own_i21 : ¬ (1 : Int32) < 0 ∧ (1 : Int32).toNatClampNeg < 2 := by decide
theorem own_two2 {x0 x1 : Int32} {i : Nat} (h : i < 2) : (if i = (1 : Int32).toNatClampNeg then Value.int x1 else if i = (0 : Int32).toNatClampNeg then .int x0 else .int 0) = .int (if i = 0 then x0 else x1) := by
  have hc : i = 0 ∨ i = 1 := by omega
  rcases hc with e | e <;> subst e <;> rfl
def Q12 (Z : State) (a1 r : Addr) (n : Nat) (z2 : Int32) (q : Nat) (A B x0 x1 : Int32) (h0 : Heap) (n0 : Nat) (v : Option Value) (h : Heap) (L : List Loc) : Prop := ∃ pa : Addr, v = some (.ref pa) ∧ Fr n0 L ∧ OwnA Z h pa .int 2 (fun i => .int (if i = 0 then x0 else x1)) ∧ OwnU Z h a1 r n z2 q A B ∧ h0.size ≤ pa ∧ Keep h0 h [a1]
theorem ef12 (m : MethodId) (x0 : Addr) (x1 : Addr) : entryFrame m #[(.ref x0), (.ref x1)] 3 = mkF m 0 #[.val (.ref x0), .val (.ref x1), .unset] [] := by first | (simp [entryFrame, mkF, argsToLocals, Value.category]; done) | rfl
theorem d12_0 : decode prog_59_method_2_code 0 = .ok (.aload_n 0, 1) := by decide +kernel
theorem d12_1 : decode prog_59_method_2_code 1 = .ok (.getfield 13, 3) := by decide +kernel
theorem d12_4 : decode prog_59_method_2_code 4 = .ok (.aload_n 0, 1) := by decide +kernel
theorem d12_5 : decode prog_59_method_2_code 5 = .ok (.dup, 1) := by decide +kernel
theorem d12_6 : decode prog_59_method_2_code 6 = .ok (.getfield 27, 3) := by decide +kernel
theorem d12_9 : decode prog_59_method_2_code 9 = .ok (.dup_x1, 1) := by decide +kernel
theorem d12_10 : decode prog_59_method_2_code 10 = .ok (.iconst 1, 1) := by decide +kernel
theorem d12_11 : decode prog_59_method_2_code 11 = .ok (.iadd, 1) := by decide +kernel
theorem d12_12 : decode prog_59_method_2_code 12 = .ok (.putfield 27, 3) := by decide +kernel
theorem d12_15 : decode prog_59_method_2_code 15 = .ok (.iaload, 1) := by decide +kernel
theorem d12_16 : decode prog_59_method_2_code 16 = .ok (.istore_n 2, 1) := by decide +kernel
theorem d12_17 : decode prog_59_method_2_code 17 = .ok (.iconst 2, 1) := by decide +kernel
theorem d12_18 : decode prog_59_method_2_code 18 = .ok (.newarray .int, 2) := by decide +kernel
theorem d12_20 : decode prog_59_method_2_code 20 = .ok (.dup, 1) := by decide +kernel
theorem d12_21 : decode prog_59_method_2_code 21 = .ok (.iconst 0, 1) := by decide +kernel
theorem d12_22 : decode prog_59_method_2_code 22 = .ok (.iload_n 2, 1) := by decide +kernel
theorem d12_23 : decode prog_59_method_2_code 23 = .ok (.iastore, 1) := by decide +kernel
theorem d12_24 : decode prog_59_method_2_code 24 = .ok (.dup, 1) := by decide +kernel
theorem d12_25 : decode prog_59_method_2_code 25 = .ok (.iconst 1, 1) := by decide +kernel
theorem d12_26 : decode prog_59_method_2_code 26 = .ok (.aload_n 0, 1) := by decide +kernel
theorem d12_27 : decode prog_59_method_2_code 27 = .ok (.getfield 13, 3) := by decide +kernel
theorem d12_30 : decode prog_59_method_2_code 30 = .ok (.aload_n 0, 1) := by decide +kernel
theorem d12_31 : decode prog_59_method_2_code 31 = .ok (.dup, 1) := by decide +kernel
theorem d12_32 : decode prog_59_method_2_code 32 = .ok (.getfield 27, 3) := by decide +kernel
theorem d12_35 : decode prog_59_method_2_code 35 = .ok (.dup_x1, 1) := by decide +kernel
theorem d12_36 : decode prog_59_method_2_code 36 = .ok (.iconst 1, 1) := by decide +kernel
theorem d12_37 : decode prog_59_method_2_code 37 = .ok (.iadd, 1) := by decide +kernel
theorem d12_38 : decode prog_59_method_2_code 38 = .ok (.putfield 27, 3) := by decide +kernel
theorem d12_41 : decode prog_59_method_2_code 41 = .ok (.iaload, 1) := by decide +kernel
theorem d12_42 : decode prog_59_method_2_code 42 = .ok (.iastore, 1) := by decide +kernel
theorem d12_43 : decode prog_59_method_2_code 43 = .ok (.areturn, 1) := by decide +kernel
set_option maxRecDepth 65536 in
set_option maxHeartbeats 40000000 in
theorem rm12 (l : Launch) (Z : State) (a0 : Array Value) (hw : ∀ d ∈ tables_1, d.before a0 Z = true) (ws : List Jvm.Cond) (a1 ra r : Addr) (n : Nat) (z z1 z2 : Int32) (zN q : Nat) (A B x0 x1 : Int32) (h0 : Heap) (n0 : Nat) (Z0 : n0 ≤ h0.size) (U : OwnU Z h0 a1 r n z q A B) (g1 : n0 ≤ a1) (hz : z.toInt = (zN : Int)) (hz1 : z1.toInt = ((zN + 1 : Nat) : Int)) (hn : zN + 1 < n) (e1 : z + (1 : Int32) = z1) (e2 : z1 + (1 : Int32) = z2) (hx0 : x0 = (if zN = q then A else B)) (hx1 : x1 = (if zN + 1 = q then A else B)) :
    MetFree l (⟨"com/example/mutatune/mutatune/engine/UniversalSampling", "pair", "(Lcom/example/mutatune/mutatune/engine/SeededRandom;)[I"⟩ : MethodName) (head1 (Jvm.Cond.code (⟨"com/example/mutatune/mutatune/engine/UniversalSampling", "pair", "(Lcom/example/mutatune/mutatune/engine/SeededRandom;)[I"⟩ : MethodName) prog_59_method_2_code 3 (some (.array .int)) :: ws) ({ frames := 0, cells := 1, slots := 2, locals := 0 } : Room)) (fun a U => a = #[(.ref a1), (.ref ra)] ∧ Z.Warmed39 U.vm ∧ U.heap = h0) (fun _ _ _ _ _ => True) (fun _ U o U' => ∃ v L, o = .returned v ∧ Q12 Z a1 r n z2 q A B x0 x1 h0 n0 v U'.heap L ∧ FrameEnd U o U' L ({ frames := 0, cells := 1, slots := 2, locals := 0 } : Room).cells ({ frames := 0, cells := 1, slots := 2, locals := 0 } : Room).slots) := by
  refine MetFree.of_bodySF (plainFor_of_name pn2) hisR ?_
  intro p e s m args below meth c s₁ Bd hml0 hP hK
  obtain ⟨rfl, hZ, hh⟩ := hP
  have hx := Bd.exec
  have hby := Bd.bytes
  have hml : c.maxLocals = 3 := hml0
  have hown : s.vm.findClass "com/example/mutatune/mutatune/engine/UniversalSampling" = some m.cls := findClass_of_methodNamed Bd.named
  have hnm := (name_of_methodNamed Bd.named Bd.method).1
  have X0 : Stand p l e ({ frames := 0, cells := 1, slots := 2, locals := 0 } : Room) s m #[(.ref a1), (.ref ra)] below meth c s₁ [] 0 0 := Stand.of_body Bd
  have e0 : s₁.heap = h0 := by rw [← hh, Bd.state]; rfl
  have N0 := Fr.nil n0
  have pre0 : ∀ t, Steps p.tables e below (s₁.setTop (mkF m 0 #[.val (.ref a1), .val (.ref ra), .unset] [])) t → Steps p.tables e below (s₁.setTop (entryFrame m #[(.ref a1), (.ref ra)] 3)) t := fun t k => castTop (ef12 m a1 ra) k
  obtain ⟨E1, F1, F2, H⟩ := U
  have a_r := own_ne E1 (hw _ (List.mem_of_getElem? (i := 26) rfl)) H
  have hi0 : ¬ z < 0 ∧ z.toNatClampNeg < n := own_idx hz (by omega)
  have hi1 : ¬ z1 < 0 ∧ z1.toNatClampNeg < n := own_idx hz1 (by omega)
  have C151 : ∀ t, Steps p.tables e below (s₁.setTop (mkF m 1 #[.val (.ref a1), .val (.ref ra), .unset] [(.ref a1)])) t → Steps p.tables e below (s₁.setTop (entryFrame m #[(.ref a1), (.ref ra)] 3)) t := by
    intro t k
    refine pre0 t ?_
    show Steps p.tables e below (s₁.setTop (mkF m 0 #[.val (.ref a1), .val (.ref ra), .unset] [])) _
    refine XS.aloadN X0.here hx rfl (hb hby d12_0) rfl rfl ?_
    exact k
  obtain ⟨T152, X152, e152, st152⟩ := getF X0 hx hZ hown (host := "") (Or.inl (hw _ (List.mem_of_getElem? (i := 51) rfl))) Via.refl e0 F1 (g := (mkF m 1 #[.val (.ref a1), .val (.ref ra), .unset] [(.ref a1)])) rfl rfl (hb hby d12_1)
  have C152 : ∀ t, Steps p.tables e below (T152.setTop (mkF m 4 #[.val (.ref a1), .val (.ref ra), .unset] [(.ref r)])) t → Steps p.tables e below (s₁.setTop (entryFrame m #[(.ref a1), (.ref ra)] 3)) t := fun t k => C151 t (st152 t k)
  have C153 : ∀ t, Steps p.tables e below (T152.setTop (mkF m 6 #[.val (.ref a1), .val (.ref ra), .unset] [(.ref a1), (.ref a1), (.ref r)])) t → Steps p.tables e below (s₁.setTop (entryFrame m #[(.ref a1), (.ref ra)] 3)) t := by
    intro t k
    refine C152 t ?_
    show Steps p.tables e below (T152.setTop (mkF m 4 #[.val (.ref a1), .val (.ref ra), .unset] [(.ref r)])) _
    refine XS.aloadN X152.here hx rfl (hb hby d12_4) rfl rfl ?_
    show Steps p.tables e below (T152.setTop (mkF m 5 #[.val (.ref a1), .val (.ref ra), .unset] [(.ref a1), (.ref r)])) _
    refine XS.dup X152.here hx rfl (hb hby d12_5) rfl rfl ?_
    exact k
  obtain ⟨T154, X154, e154, st154⟩ := getF X152 hx hZ hown (host := "") (Or.inl (hw _ (List.mem_of_getElem? (i := 72) rfl))) Via.refl e152 F2 (g := (mkF m 6 #[.val (.ref a1), .val (.ref ra), .unset] [(.ref a1), (.ref a1), (.ref r)])) rfl rfl (hb hby d12_6)
  have C154 : ∀ t, Steps p.tables e below (T154.setTop (mkF m 9 #[.val (.ref a1), .val (.ref ra), .unset] [(.int z), (.ref a1), (.ref r)])) t → Steps p.tables e below (s₁.setTop (entryFrame m #[(.ref a1), (.ref ra)] 3)) t := fun t k => C153 t (st154 t k)
  have C155 : ∀ t, Steps p.tables e below (T154.setTop (mkF m 12 #[.val (.ref a1), .val (.ref ra), .unset] [(.int (z + (1 : Int32))), (.ref a1), (.int z), (.ref r)])) t → Steps p.tables e below (s₁.setTop (entryFrame m #[(.ref a1), (.ref ra)] 3)) t := by
    intro t k
    refine C154 t ?_
    show Steps p.tables e below (T154.setTop (mkF m 9 #[.val (.ref a1), .val (.ref ra), .unset] [(.int z), (.ref a1), (.ref r)])) _
    refine XS.dupX1 X154.here hx rfl (hb hby d12_9) rfl rfl rfl ?_
    show Steps p.tables e below (T154.setTop (mkF m 10 #[.val (.ref a1), .val (.ref ra), .unset] [(.int z), (.ref a1), (.int z), (.ref r)])) _
    refine XS.iconst X154.here hx rfl (hb hby d12_10) ?_
    show Steps p.tables e below (T154.setTop (mkF m 11 #[.val (.ref a1), .val (.ref ra), .unset] [(.int (1 : Int32)), (.int z), (.ref a1), (.int z), (.ref r)])) _
    refine XS.iadd X154.here hx rfl (hb hby d12_11) rfl ?_
    exact k
  rw [e1] at C155
  obtain ⟨T156, h156, X156, e156, W156, st156⟩ := putF X154 hx hZ hown (host := "") (Or.inl (hw _ (List.mem_of_getElem? (i := 72) rfl))) Via.refl e154 F2 E1 (Or.inl (hw _ (List.mem_of_getElem? (i := 73) rfl))) (hw _ (List.mem_of_getElem? (i := 26) rfl)) (ty := .int) (by decide) rfl rfl (g := (mkF m 12 #[.val (.ref a1), .val (.ref ra), .unset] [(.int z1), (.ref a1), (.int z), (.ref r)])) rfl rfl (hb hby d12_12)
  have N156 := Fr.snoc X156 N0 g1
  have C156 : ∀ t, Steps p.tables e below (T156.setTop (mkF m 15 #[.val (.ref a1), .val (.ref ra), .unset] [(.int z), (.ref r)])) t → Steps p.tables e below (s₁.setTop (entryFrame m #[(.ref a1), (.ref ra)] 3)) t := fun t k => C155 t (st156 t k)
  have F2a := F2.same W156
  have F1a := F1.other W156 (Or.inr (slot_ne (Or.inr (hw _ (List.mem_of_getElem? (i := 52) rfl))) (Or.inl (hw _ (List.mem_of_getElem? (i := 73) rfl))) (by decide) (t := (.array .int)) (t' := .int) (by decide) (by decide)))
  have E1a := E1.wr W156
  have Ha := H.other W156 (Ne.symm a_r)
  obtain ⟨c157, A157, S157, V157⟩ := id Ha
  have C158 : ∀ t, Steps p.tables e below (T156.setTop (mkF m 18 #[.val (.ref a1), .val (.ref ra), .val (.int x0)] [(.int (2 : Int32))])) t → Steps p.tables e below (s₁.setTop (entryFrame m #[(.ref a1), (.ref ra)] 3)) t := by
    intro t k
    refine C156 t ?_
    show Steps p.tables e below (T156.setTop (mkF m 15 #[.val (.ref a1), .val (.ref ra), .unset] [(.int z), (.ref r)])) _
    refine X156.iaload hx (j := z) (v := (.int x0)) (by rw [e156]; exact A157.1) (State.isArrayOf_alike hZ.alike A157.2.1) A157.2.2 (own_in hi0 S157) ((by rw [hx0, ← own_cl hz]; exact V157 _ hi0.2)) (g := (mkF m 15 #[.val (.ref a1), .val (.ref ra), .unset] [(.int z), (.ref r)])) rfl rfl (hb hby d12_15) _ ?_
    show Steps p.tables e below (T156.setTop (mkF m 16 #[.val (.ref a1), .val (.ref ra), .unset] [(.int x0)])) _
    refine XS.istoreN X156.here hx rfl (hb hby d12_16) rfl (l' := #[.val (.ref a1), .val (.ref ra), .val (.int x0)]) rfl ?_
    show Steps p.tables e below (T156.setTop (mkF m 17 #[.val (.ref a1), .val (.ref ra), .val (.int x0)] [])) _
    refine XS.iconst X156.here hx rfl (hb hby d12_17) ?_
    exact k
  obtain ⟨T159, h159, k159, X159, e159, E159, A159, st159⟩ := newP X156 hx hZ (hw _ (List.mem_of_getElem? (i := 50) rfl)) e156 (g := (mkF m 18 #[.val (.ref a1), .val (.ref ra), .val (.int x0)] [(.int (2 : Int32))])) rfl (hb hby d12_18) rfl (by decide) (cap := 2) (by decide) (by decide) (by decide) (by decide)
  obtain ⟨b159, g159⟩ : ∃ z, z = h156.size := ⟨_, rfl⟩
  rw [← g159] at A159 st159
  have C159 : ∀ t, Steps p.tables e below (T159.setTop (mkF m 20 #[.val (.ref a1), .val (.ref ra), .val (.int x0)] [(.ref b159)])) t → Steps p.tables e below (s₁.setTop (entryFrame m #[(.ref a1), (.ref ra)] 3)) t := fun t k => C158 t (st159 t k)
  have P0 : OwnA Z h159 b159 .int 2 (fun _ => .int 0) := OwnA.new A159 rfl
  have sz0 : h0.size = h156.size := (Wr.size W156).symm
  have sb : h0.size ≤ b159 := by omega
  have gb : n0 ≤ b159 := by omega
  have a_b : a1 ≠ b159 := own_natne (by have y := own_natlt E1.lt; omega)
  have r_b : r ≠ b159 := own_natne (by have y := own_natlt H.lt; omega)
  have F2b := F2a.ext E159
  have F1b := F1a.ext E159
  have E1b := E1a.ext E159
  have Hb := Ha.ext E159
  have C160 : ∀ t, Steps p.tables e below (T159.setTop (mkF m 23 #[.val (.ref a1), .val (.ref ra), .val (.int x0)] [(.int x0), (.int (0 : Int32)), (.ref b159), (.ref b159)])) t → Steps p.tables e below (s₁.setTop (entryFrame m #[(.ref a1), (.ref ra)] 3)) t := by
    intro t k
    refine C159 t ?_
    show Steps p.tables e below (T159.setTop (mkF m 20 #[.val (.ref a1), .val (.ref ra), .val (.int x0)] [(.ref b159)])) _
    refine XS.dup X159.here hx rfl (hb hby d12_20) rfl rfl ?_
    show Steps p.tables e below (T159.setTop (mkF m 21 #[.val (.ref a1), .val (.ref ra), .val (.int x0)] [(.ref b159), (.ref b159)])) _
    refine XS.iconst X159.here hx rfl (hb hby d12_21) ?_
    show Steps p.tables e below (T159.setTop (mkF m 22 #[.val (.ref a1), .val (.ref ra), .val (.int x0)] [(.int (0 : Int32)), (.ref b159), (.ref b159)])) _
    refine XS.iloadN X159.here hx rfl (hb hby d12_22) rfl ?_
    exact k
  obtain ⟨c161, A161, S161, V161⟩ := id P0
  obtain ⟨T161, h161, X161, e161, W161, st161⟩ := stI X159 hx hZ e159 A161 (j := (0 : Int32)) (own_in own_i20 S161) (g := (mkF m 23 #[.val (.ref a1), .val (.ref ra), .val (.int x0)] [(.int x0), (.int (0 : Int32)), (.ref b159), (.ref b159)])) rfl rfl (hb hby d12_23)
  have N161 := Fr.snoc X161 N156 gb
  have C161 : ∀ t, Steps p.tables e below (T161.setTop (mkF m 24 #[.val (.ref a1), .val (.ref ra), .val (.int x0)] [(.ref b159)])) t → Steps p.tables e below (s₁.setTop (entryFrame m #[(.ref a1), (.ref ra)] 3)) t := fun t k => C160 t (st161 t k)
  have P1 := P0.set W161
  have F2c := F2b.other W161 (Or.inl a_b)
  have F1c := F1b.other W161 (Or.inl a_b)
  have E1c := E1b.wr W161
  have Hc := Hb.other W161 r_b
  have C162 : ∀ t, Steps p.tables e below (T161.setTop (mkF m 27 #[.val (.ref a1), .val (.ref ra), .val (.int x0)] [(.ref a1), (.int (1 : Int32)), (.ref b159), (.ref b159)])) t → Steps p.tables e below (s₁.setTop (entryFrame m #[(.ref a1), (.ref ra)] 3)) t := by
    intro t k
    refine C161 t ?_
    show Steps p.tables e below (T161.setTop (mkF m 24 #[.val (.ref a1), .val (.ref ra), .val (.int x0)] [(.ref b159)])) _
    refine XS.dup X161.here hx rfl (hb hby d12_24) rfl rfl ?_
    show Steps p.tables e below (T161.setTop (mkF m 25 #[.val (.ref a1), .val (.ref ra), .val (.int x0)] [(.ref b159), (.ref b159)])) _
    refine XS.iconst X161.here hx rfl (hb hby d12_25) ?_
    show Steps p.tables e below (T161.setTop (mkF m 26 #[.val (.ref a1), .val (.ref ra), .val (.int x0)] [(.int (1 : Int32)), (.ref b159), (.ref b159)])) _
    refine XS.aloadN X161.here hx rfl (hb hby d12_26) rfl rfl ?_
    exact k
  obtain ⟨T163, X163, e163, st163⟩ := getF X161 hx hZ hown (host := "") (Or.inl (hw _ (List.mem_of_getElem? (i := 51) rfl))) Via.refl e161 F1c (g := (mkF m 27 #[.val (.ref a1), .val (.ref ra), .val (.int x0)] [(.ref a1), (.int (1 : Int32)), (.ref b159), (.ref b159)])) rfl rfl (hb hby d12_27)
  have C163 : ∀ t, Steps p.tables e below (T163.setTop (mkF m 30 #[.val (.ref a1), .val (.ref ra), .val (.int x0)] [(.ref r), (.int (1 : Int32)), (.ref b159), (.ref b159)])) t → Steps p.tables e below (s₁.setTop (entryFrame m #[(.ref a1), (.ref ra)] 3)) t := fun t k => C162 t (st163 t k)
  have C164 : ∀ t, Steps p.tables e below (T163.setTop (mkF m 32 #[.val (.ref a1), .val (.ref ra), .val (.int x0)] [(.ref a1), (.ref a1), (.ref r), (.int (1 : Int32)), (.ref b159), (.ref b159)])) t → Steps p.tables e below (s₁.setTop (entryFrame m #[(.ref a1), (.ref ra)] 3)) t := by
    intro t k
    refine C163 t ?_
    show Steps p.tables e below (T163.setTop (mkF m 30 #[.val (.ref a1), .val (.ref ra), .val (.int x0)] [(.ref r), (.int (1 : Int32)), (.ref b159), (.ref b159)])) _
    refine XS.aloadN X163.here hx rfl (hb hby d12_30) rfl rfl ?_
    show Steps p.tables e below (T163.setTop (mkF m 31 #[.val (.ref a1), .val (.ref ra), .val (.int x0)] [(.ref a1), (.ref r), (.int (1 : Int32)), (.ref b159), (.ref b159)])) _
    refine XS.dup X163.here hx rfl (hb hby d12_31) rfl rfl ?_
    exact k
  obtain ⟨T165, X165, e165, st165⟩ := getF X163 hx hZ hown (host := "") (Or.inl (hw _ (List.mem_of_getElem? (i := 72) rfl))) Via.refl e163 F2c (g := (mkF m 32 #[.val (.ref a1), .val (.ref ra), .val (.int x0)] [(.ref a1), (.ref a1), (.ref r), (.int (1 : Int32)), (.ref b159), (.ref b159)])) rfl rfl (hb hby d12_32)
  have C165 : ∀ t, Steps p.tables e below (T165.setTop (mkF m 35 #[.val (.ref a1), .val (.ref ra), .val (.int x0)] [(.int z1), (.ref a1), (.ref r), (.int (1 : Int32)), (.ref b159), (.ref b159)])) t → Steps p.tables e below (s₁.setTop (entryFrame m #[(.ref a1), (.ref ra)] 3)) t := fun t k => C164 t (st165 t k)
  have C166 : ∀ t, Steps p.tables e below (T165.setTop (mkF m 38 #[.val (.ref a1), .val (.ref ra), .val (.int x0)] [(.int (z1 + (1 : Int32))), (.ref a1), (.int z1), (.ref r), (.int (1 : Int32)), (.ref b159), (.ref b159)])) t → Steps p.tables e below (s₁.setTop (entryFrame m #[(.ref a1), (.ref ra)] 3)) t := by
    intro t k
    refine C165 t ?_
    show Steps p.tables e below (T165.setTop (mkF m 35 #[.val (.ref a1), .val (.ref ra), .val (.int x0)] [(.int z1), (.ref a1), (.ref r), (.int (1 : Int32)), (.ref b159), (.ref b159)])) _
    refine XS.dupX1 X165.here hx rfl (hb hby d12_35) rfl rfl rfl ?_
    show Steps p.tables e below (T165.setTop (mkF m 36 #[.val (.ref a1), .val (.ref ra), .val (.int x0)] [(.int z1), (.ref a1), (.int z1), (.ref r), (.int (1 : Int32)), (.ref b159), (.ref b159)])) _
    refine XS.iconst X165.here hx rfl (hb hby d12_36) ?_
    show Steps p.tables e below (T165.setTop (mkF m 37 #[.val (.ref a1), .val (.ref ra), .val (.int x0)] [(.int (1 : Int32)), (.int z1), (.ref a1), (.int z1), (.ref r), (.int (1 : Int32)), (.ref b159), (.ref b159)])) _
    refine XS.iadd X165.here hx rfl (hb hby d12_37) rfl ?_
    exact k
  rw [e2] at C166
  obtain ⟨T167, h167, X167, e167, W167, st167⟩ := putF X165 hx hZ hown (host := "") (Or.inl (hw _ (List.mem_of_getElem? (i := 72) rfl))) Via.refl e165 F2c E1c (Or.inl (hw _ (List.mem_of_getElem? (i := 73) rfl))) (hw _ (List.mem_of_getElem? (i := 26) rfl)) (ty := .int) (by decide) rfl rfl (g := (mkF m 38 #[.val (.ref a1), .val (.ref ra), .val (.int x0)] [(.int z2), (.ref a1), (.int z1), (.ref r), (.int (1 : Int32)), (.ref b159), (.ref b159)])) rfl rfl (hb hby d12_38)
  have N167 := Fr.snoc X167 N161 g1
  have C167 : ∀ t, Steps p.tables e below (T167.setTop (mkF m 41 #[.val (.ref a1), .val (.ref ra), .val (.int x0)] [(.int z1), (.ref r), (.int (1 : Int32)), (.ref b159), (.ref b159)])) t → Steps p.tables e below (s₁.setTop (entryFrame m #[(.ref a1), (.ref ra)] 3)) t := fun t k => C166 t (st167 t k)
  have F2d := F2c.same W167
  have F1d := F1c.other W167 (Or.inr (slot_ne (Or.inr (hw _ (List.mem_of_getElem? (i := 52) rfl))) (Or.inl (hw _ (List.mem_of_getElem? (i := 73) rfl))) (by decide) (t := (.array .int)) (t' := .int) (by decide) (by decide)))
  have E1d := E1c.wr W167
  have Hd := Hc.other W167 (Ne.symm a_r)
  have P2 := P1.other W167 (Ne.symm a_b)
  obtain ⟨c168, A168, S168, V168⟩ := id Hd
  have C169 : ∀ t, Steps p.tables e below (T167.setTop (mkF m 42 #[.val (.ref a1), .val (.ref ra), .val (.int x0)] [(.int x1), (.int (1 : Int32)), (.ref b159), (.ref b159)])) t → Steps p.tables e below (s₁.setTop (entryFrame m #[(.ref a1), (.ref ra)] 3)) t := by
    intro t k
    refine C167 t ?_
    show Steps p.tables e below (T167.setTop (mkF m 41 #[.val (.ref a1), .val (.ref ra), .val (.int x0)] [(.int z1), (.ref r), (.int (1 : Int32)), (.ref b159), (.ref b159)])) _
    refine X167.iaload hx (j := z1) (v := (.int x1)) (by rw [e167]; exact A168.1) (State.isArrayOf_alike hZ.alike A168.2.1) A168.2.2 (own_in hi1 S168) ((by rw [hx1, ← own_cl hz1]; exact V168 _ hi1.2)) (g := (mkF m 41 #[.val (.ref a1), .val (.ref ra), .val (.int x0)] [(.int z1), (.ref r), (.int (1 : Int32)), (.ref b159), (.ref b159)])) rfl rfl (hb hby d12_41) _ ?_
    exact k
  obtain ⟨c170, A170, S170, V170⟩ := id P2
  obtain ⟨T170, h170, X170, e170, W170, st170⟩ := stI X167 hx hZ e167 A170 (j := (1 : Int32)) (own_in own_i21 S170) (g := (mkF m 42 #[.val (.ref a1), .val (.ref ra), .val (.int x0)] [(.int x1), (.int (1 : Int32)), (.ref b159), (.ref b159)])) rfl rfl (hb hby d12_42)
  have N170 := Fr.snoc X170 N167 gb
  have C170 : ∀ t, Steps p.tables e below (T170.setTop (mkF m 43 #[.val (.ref a1), .val (.ref ra), .val (.int x0)] [(.ref b159)])) t → Steps p.tables e below (s₁.setTop (entryFrame m #[(.ref a1), (.ref ra)] 3)) t := fun t k => C169 t (st170 t k)
  have P3 : OwnA Z h170 b159 .int 2 (fun i => .int (if i = 0 then x0 else x1)) := (P2.set W170).congr (fun i hi => own_two2 hi)
  have UU : OwnU Z h170 a1 r n z2 q A B := ⟨E1d.wr W170, F1d.other W170 (Or.inl a_b), F2d.other W170 (Or.inl a_b), Hd.other W170 r_b⟩
  have KK : Keep h0 h170 [a1] := (((((Keep.refl h0 [a1]).wr W156 (Or.inl (List.mem_of_getElem? (i := 0) rfl))).ext E159).wr W161 (Or.inr sb)).wr W167 (Or.inl (List.mem_of_getElem? (i := 0) rfl))).wr W170 (Or.inr sb)
  obtain ⟨fs, hr, hrun, hended, hW, hsame⟩ := X170.leave (v := some (.ref b159)) (fun h => by rw [Bd.returns] at h; cases h)
  refine ⟨_, _, C170 _ ?_, hrun, hended, _, _, rfl, ?_, ⟨_, rfl⟩, hW, hsame.mono (by decide) (by decide)⟩
  · show Steps p.tables e below (T170.setTop (mkF m 43 #[.val (.ref a1), .val (.ref ra), .val (.int x0)] [(.ref b159)])) _
    exact retOut X170 hx Bd.returns rfl (Or.inr (Or.inr (Or.inr (Or.inr ⟨rfl, rfl, rfl⟩)))) (hb hby d12_43) hr
  · show Q12 Z a1 r n z2 q A B x0 x1 h0 n0 _ T170.heap _
    rw [e170]
    exact ⟨_, rfl, N170, P3, UU, sb, KK⟩
def Q14 (Z : State) (a1 r : Addr) (n : Nat) (z1 : Int32) (q : Nat) (A B x0 : Int32) (h0 : Heap) (n0 : Nat) (v : Option Value) (h : Heap) (L : List Loc) : Prop := v = some (.int x0) ∧ Fr n0 L ∧ OwnU Z h a1 r n z1 q A B ∧ h0.size ≤ h.size ∧ Keep h0 h [a1]
theorem ef14 (m : MethodId) (x0 : Addr) (x1 : Addr) : entryFrame m #[(.ref x0), (.ref x1)] 2 = mkF m 0 #[.val (.ref x0), .val (.ref x1)] [] := by first | (simp [entryFrame, mkF, argsToLocals, Value.category]; done) | rfl
theorem d14_0 : decode prog_59_method_3_code 0 = .ok (.aload_n 0, 1) := by decide +kernel
theorem d14_1 : decode prog_59_method_3_code 1 = .ok (.getfield 13, 3) := by decide +kernel
theorem d14_4 : decode prog_59_method_3_code 4 = .ok (.aload_n 0, 1) := by decide +kernel
theorem d14_5 : decode prog_59_method_3_code 5 = .ok (.dup, 1) := by decide +kernel
theorem d14_6 : decode prog_59_method_3_code 6 = .ok (.getfield 27, 3) := by decide +kernel
theorem d14_9 : decode prog_59_method_3_code 9 = .ok (.dup_x1, 1) := by decide +kernel
theorem d14_10 : decode prog_59_method_3_code 10 = .ok (.iconst 1, 1) := by decide +kernel
theorem d14_11 : decode prog_59_method_3_code 11 = .ok (.iadd, 1) := by decide +kernel
theorem d14_12 : decode prog_59_method_3_code 12 = .ok (.putfield 27, 3) := by decide +kernel
theorem d14_15 : decode prog_59_method_3_code 15 = .ok (.iaload, 1) := by decide +kernel
theorem d14_16 : decode prog_59_method_3_code 16 = .ok (.ireturn, 1) := by decide +kernel
set_option maxRecDepth 65536 in
set_option maxHeartbeats 40000000 in
theorem rm14 (l : Launch) (Z : State) (a0 : Array Value) (hw : ∀ d ∈ tables_1, d.before a0 Z = true) (ws : List Jvm.Cond) (a1 ra r : Addr) (n : Nat) (z z1 : Int32) (zN q : Nat) (A B x0 : Int32) (h0 : Heap) (n0 : Nat) (Z0 : n0 ≤ h0.size) (U : OwnU Z h0 a1 r n z q A B) (g1 : n0 ≤ a1) (hz : z.toInt = (zN : Int)) (hn : zN < n) (e1 : z + (1 : Int32) = z1) (hx0 : x0 = (if zN = q then A else B)) :
    MetFree l (⟨"com/example/mutatune/mutatune/engine/UniversalSampling", "single", "(Lcom/example/mutatune/mutatune/engine/SeededRandom;)I"⟩ : MethodName) (head1 (Jvm.Cond.code (⟨"com/example/mutatune/mutatune/engine/UniversalSampling", "single", "(Lcom/example/mutatune/mutatune/engine/SeededRandom;)I"⟩ : MethodName) prog_59_method_3_code 2 (some .int) :: ws) ({ frames := 0, cells := 0, slots := 0, locals := 0 } : Room)) (fun a U => a = #[(.ref a1), (.ref ra)] ∧ Z.Warmed39 U.vm ∧ U.heap = h0) (fun _ _ _ _ _ => True) (fun _ U o U' => ∃ v L, o = .returned v ∧ Q14 Z a1 r n z1 q A B x0 h0 n0 v U'.heap L ∧ FrameEnd U o U' L ({ frames := 0, cells := 0, slots := 0, locals := 0 } : Room).cells ({ frames := 0, cells := 0, slots := 0, locals := 0 } : Room).slots) := by
  refine MetFree.of_bodySF (plainFor_of_name pn2) hisR ?_
  intro p e s m args below meth c s₁ Bd hml0 hP hK
  obtain ⟨rfl, hZ, hh⟩ := hP
  have hx := Bd.exec
  have hby := Bd.bytes
  have hml : c.maxLocals = 2 := hml0
  have hown : s.vm.findClass "com/example/mutatune/mutatune/engine/UniversalSampling" = some m.cls := findClass_of_methodNamed Bd.named
  have hnm := (name_of_methodNamed Bd.named Bd.method).1
  have X0 : Stand p l e ({ frames := 0, cells := 0, slots := 0, locals := 0 } : Room) s m #[(.ref a1), (.ref ra)] below meth c s₁ [] 0 0 := Stand.of_body Bd
  have e0 : s₁.heap = h0 := by rw [← hh, Bd.state]; rfl
  have N0 := Fr.nil n0
  have pre0 : ∀ t, Steps p.tables e below (s₁.setTop (mkF m 0 #[.val (.ref a1), .val (.ref ra)] [])) t → Steps p.tables e below (s₁.setTop (entryFrame m #[(.ref a1), (.ref ra)] 2)) t := fun t k => castTop (ef14 m a1 ra) k
  obtain ⟨E1, F1, F2, H⟩ := U
  have a_r := own_ne E1 (hw _ (List.mem_of_getElem? (i := 26) rfl)) H
  have hi0 : ¬ z < 0 ∧ z.toNatClampNeg < n := own_idx hz hn
  have C171 : ∀ t, Steps p.tables e below (s₁.setTop (mkF m 1 #[.val (.ref a1), .val (.ref ra)] [(.ref a1)])) t → Steps p.tables e below (s₁.setTop (entryFrame m #[(.ref a1), (.ref ra)] 2)) t := by
    intro t k
    refine pre0 t ?_
    show Steps p.tables e below (s₁.setTop (mkF m 0 #[.val (.ref a1), .val (.ref ra)] [])) _
    refine XS.aloadN X0.here hx rfl (hb hby d14_0) rfl rfl ?_
    exact k
  obtain ⟨T172, X172, e172, st172⟩ := getF X0 hx hZ hown (host := "") (Or.inl (hw _ (List.mem_of_getElem? (i := 51) rfl))) Via.refl e0 F1 (g := (mkF m 1 #[.val (.ref a1), .val (.ref ra)] [(.ref a1)])) rfl rfl (hb hby d14_1)
  have C172 : ∀ t, Steps p.tables e below (T172.setTop (mkF m 4 #[.val (.ref a1), .val (.ref ra)] [(.ref r)])) t → Steps p.tables e below (s₁.setTop (entryFrame m #[(.ref a1), (.ref ra)] 2)) t := fun t k => C171 t (st172 t k)
  have C173 : ∀ t, Steps p.tables e below (T172.setTop (mkF m 6 #[.val (.ref a1), .val (.ref ra)] [(.ref a1), (.ref a1), (.ref r)])) t → Steps p.tables e below (s₁.setTop (entryFrame m #[(.ref a1), (.ref ra)] 2)) t := by
    intro t k
    refine C172 t ?_
    show Steps p.tables e below (T172.setTop (mkF m 4 #[.val (.ref a1), .val (.ref ra)] [(.ref r)])) _
    refine XS.aloadN X172.here hx rfl (hb hby d14_4) rfl rfl ?_
    show Steps p.tables e below (T172.setTop (mkF m 5 #[.val (.ref a1), .val (.ref ra)] [(.ref a1), (.ref r)])) _
    refine XS.dup X172.here hx rfl (hb hby d14_5) rfl rfl ?_
    exact k
  obtain ⟨T174, X174, e174, st174⟩ := getF X172 hx hZ hown (host := "") (Or.inl (hw _ (List.mem_of_getElem? (i := 72) rfl))) Via.refl e172 F2 (g := (mkF m 6 #[.val (.ref a1), .val (.ref ra)] [(.ref a1), (.ref a1), (.ref r)])) rfl rfl (hb hby d14_6)
  have C174 : ∀ t, Steps p.tables e below (T174.setTop (mkF m 9 #[.val (.ref a1), .val (.ref ra)] [(.int z), (.ref a1), (.ref r)])) t → Steps p.tables e below (s₁.setTop (entryFrame m #[(.ref a1), (.ref ra)] 2)) t := fun t k => C173 t (st174 t k)
  have C175 : ∀ t, Steps p.tables e below (T174.setTop (mkF m 12 #[.val (.ref a1), .val (.ref ra)] [(.int (z + (1 : Int32))), (.ref a1), (.int z), (.ref r)])) t → Steps p.tables e below (s₁.setTop (entryFrame m #[(.ref a1), (.ref ra)] 2)) t := by
    intro t k
    refine C174 t ?_
    show Steps p.tables e below (T174.setTop (mkF m 9 #[.val (.ref a1), .val (.ref ra)] [(.int z), (.ref a1), (.ref r)])) _
    refine XS.dupX1 X174.here hx rfl (hb hby d14_9) rfl rfl rfl ?_
    show Steps p.tables e below (T174.setTop (mkF m 10 #[.val (.ref a1), .val (.ref ra)] [(.int z), (.ref a1), (.int z), (.ref r)])) _
    refine XS.iconst X174.here hx rfl (hb hby d14_10) ?_
    show Steps p.tables e below (T174.setTop (mkF m 11 #[.val (.ref a1), .val (.ref ra)] [(.int (1 : Int32)), (.int z), (.ref a1), (.int z), (.ref r)])) _
    refine XS.iadd X174.here hx rfl (hb hby d14_11) rfl ?_
    exact k
  rw [e1] at C175
  obtain ⟨T176, h176, X176, e176, W176, st176⟩ := putF X174 hx hZ hown (host := "") (Or.inl (hw _ (List.mem_of_getElem? (i := 72) rfl))) Via.refl e174 F2 E1 (Or.inl (hw _ (List.mem_of_getElem? (i := 73) rfl))) (hw _ (List.mem_of_getElem? (i := 26) rfl)) (ty := .int) (by decide) rfl rfl (g := (mkF m 12 #[.val (.ref a1), .val (.ref ra)] [(.int z1), (.ref a1), (.int z), (.ref r)])) rfl rfl (hb hby d14_12)
  have N176 := Fr.snoc X176 N0 g1
  have C176 : ∀ t, Steps p.tables e below (T176.setTop (mkF m 15 #[.val (.ref a1), .val (.ref ra)] [(.int z), (.ref r)])) t → Steps p.tables e below (s₁.setTop (entryFrame m #[(.ref a1), (.ref ra)] 2)) t := fun t k => C175 t (st176 t k)
  have UU : OwnU Z h176 a1 r n z1 q A B := ⟨E1.wr W176, F1.other W176 (Or.inr (slot_ne (Or.inr (hw _ (List.mem_of_getElem? (i := 52) rfl))) (Or.inl (hw _ (List.mem_of_getElem? (i := 73) rfl))) (by decide) (t := (.array .int)) (t' := .int) (by decide) (by decide))), F2.same W176, H.other W176 (Ne.symm a_r)⟩
  obtain ⟨c177, A177, S177, V177⟩ := id UU.2.2.2
  have C178 : ∀ t, Steps p.tables e below (T176.setTop (mkF m 16 #[.val (.ref a1), .val (.ref ra)] [(.int x0)])) t → Steps p.tables e below (s₁.setTop (entryFrame m #[(.ref a1), (.ref ra)] 2)) t := by
    intro t k
    refine C176 t ?_
    show Steps p.tables e below (T176.setTop (mkF m 15 #[.val (.ref a1), .val (.ref ra)] [(.int z), (.ref r)])) _
    refine X176.iaload hx (j := z) (v := (.int x0)) (by rw [e176]; exact A177.1) (State.isArrayOf_alike hZ.alike A177.2.1) A177.2.2 (own_in hi0 S177) ((by rw [hx0, ← own_cl hz]; exact V177 _ hi0.2)) (g := (mkF m 15 #[.val (.ref a1), .val (.ref ra)] [(.int z), (.ref r)])) rfl rfl (hb hby d14_15) _ ?_
    exact k
  obtain ⟨fs, hr, hrun, hended, hW, hsame⟩ := X176.leave (v := some (.int x0)) (fun h => by rw [Bd.returns] at h; cases h)
  refine ⟨_, _, C178 _ ?_, hrun, hended, _, _, rfl, ?_, ⟨_, rfl⟩, hW, hsame.mono (by decide) (by decide)⟩
  · show Steps p.tables e below (T176.setTop (mkF m 16 #[.val (.ref a1), .val (.ref ra)] [(.int x0)])) _
    exact retOut X176 hx Bd.returns rfl (Or.inl ⟨rfl, Or.inl rfl, _, rfl⟩) (hb hby d14_16) hr
  · show Q14 Z a1 r n z1 q A B x0 h0 n0 _ T176.heap _
    rw [e176]
    exact ⟨rfl, N176, UU, Nat.le_of_eq (Wr.size W176).symm, Keep.of_wr W176⟩
def Q13 (Z : State) (r : Int32) (h0 : Heap) (n0 : Nat) (v : Option Value) (h : Heap) (L : List Loc) : Prop := v = some (.int r) ∧ Fr n0 L ∧ h = h0
theorem pn3 : plainName "com/example/mutatune/mutatune/engine/UniversalSamplingPairPinLaw" = true := by first | (simp [plainName, overriddenIn]; done) | decide +kernel
theorem ef13 (m : MethodId) (x0 : Int32) (x1 : Int32) (x2 : Int32) : entryFrame m #[(.int x0), (.int x1), (.int x2)] 3 = mkF m 0 #[.val (.int x0), .val (.int x1), .val (.int x2)] [] := by first | (simp [entryFrame, mkF, argsToLocals, Value.category]; done) | rfl
theorem d13_0 : decode method_3_code 0 = .ok (.iload_n 0, 1) := by decide +kernel
theorem d13_1 : decode method_3_code 1 = .ok (.iload_n 1, 1) := by decide +kernel
theorem d13_2 : decode method_3_code 2 = .ok (.if_icmp .ne 5, 3) := by decide +kernel
theorem d13_5 : decode method_3_code 5 = .ok (.iconst 1, 1) := by decide +kernel
theorem d13_6 : decode method_3_code 6 = .ok (.ireturn, 1) := by decide +kernel
theorem d13_7 : decode method_3_code 7 = .ok (.iload_n 0, 1) := by decide +kernel
theorem d13_8 : decode method_3_code 8 = .ok (.iload_n 2, 1) := by decide +kernel
theorem d13_9 : decode method_3_code 9 = .ok (.if_icmp .ne 5, 3) := by decide +kernel
theorem d13_12 : decode method_3_code 12 = .ok (.iconst 0, 1) := by decide +kernel
theorem d13_13 : decode method_3_code 13 = .ok (.ireturn, 1) := by decide +kernel
set_option maxRecDepth 65536 in
set_option maxHeartbeats 40000000 in
theorem rm13 (l : Launch) (Z : State) (a0 : Array Value) (hw : ∀ d ∈ tables_1, d.before a0 Z = true) (ws : List Jvm.Cond) (v1 v2 v3 r : Int32) (h0 : Heap) (n0 : Nat) (Z0 : n0 ≤ h0.size) (hr : (v1 = v2 ∧ r = 1) ∨ (¬ v1 = v2 ∧ v1 = v3 ∧ r = 0)) :
    MetFree l (⟨"com/example/mutatune/mutatune/engine/UniversalSamplingPairPinLaw", "tally", "(III)I"⟩ : MethodName) (head1 (Jvm.Cond.code (⟨"com/example/mutatune/mutatune/engine/UniversalSamplingPairPinLaw", "tally", "(III)I"⟩ : MethodName) method_3_code 3 (some .int) :: ws) ({ frames := 0, cells := 0, slots := 0, locals := 0 } : Room)) (fun a U => a = #[(.int v1), (.int v2), (.int v3)] ∧ Z.Warmed39 U.vm ∧ U.heap = h0) (fun _ _ _ _ _ => True) (fun _ U o U' => ∃ v L, o = .returned v ∧ Q13 Z r h0 n0 v U'.heap L ∧ FrameEnd U o U' L ({ frames := 0, cells := 0, slots := 0, locals := 0 } : Room).cells ({ frames := 0, cells := 0, slots := 0, locals := 0 } : Room).slots) := by
  refine MetFree.of_bodySF (plainFor_of_name pn3) hisR ?_
  intro p e s m args below meth c s₁ Bd hml0 hP hK
  obtain ⟨rfl, hZ, hh⟩ := hP
  have hx := Bd.exec
  have hby := Bd.bytes
  have hml : c.maxLocals = 3 := hml0
  have hown : s.vm.findClass "com/example/mutatune/mutatune/engine/UniversalSamplingPairPinLaw" = some m.cls := findClass_of_methodNamed Bd.named
  have hnm := (name_of_methodNamed Bd.named Bd.method).1
  have X0 : Stand p l e ({ frames := 0, cells := 0, slots := 0, locals := 0 } : Room) s m #[(.int v1), (.int v2), (.int v3)] below meth c s₁ [] 0 0 := Stand.of_body Bd
  have e0 : s₁.heap = h0 := by rw [← hh, Bd.state]; rfl
  have N0 := Fr.nil n0
  have pre0 : ∀ t, Steps p.tables e below (s₁.setTop (mkF m 0 #[.val (.int v1), .val (.int v2), .val (.int v3)] [])) t → Steps p.tables e below (s₁.setTop (entryFrame m #[(.int v1), (.int v2), (.int v3)] 3)) t := fun t k => castTop (ef13 m v1 v2 v3) k
  rcases hr with ⟨k1, rfl⟩ | ⟨k1, k2, rfl⟩
  · have C179 : ∀ t, Steps p.tables e below (s₁.setTop (mkF m 6 #[.val (.int v1), .val (.int v2), .val (.int v3)] [(.int (1 : Int32))])) t → Steps p.tables e below (s₁.setTop (entryFrame m #[(.int v1), (.int v2), (.int v3)] 3)) t := by
      intro t k
      refine pre0 t ?_
      show Steps p.tables e below (s₁.setTop (mkF m 0 #[.val (.int v1), .val (.int v2), .val (.int v3)] [])) _
      refine XS.iloadN X0.here hx rfl (hb hby d13_0) rfl ?_
      show Steps p.tables e below (s₁.setTop (mkF m 1 #[.val (.int v1), .val (.int v2), .val (.int v3)] [(.int v1)])) _
      refine XS.iloadN X0.here hx rfl (hb hby d13_1) rfl ?_
      show Steps p.tables e below (s₁.setTop (mkF m 2 #[.val (.int v1), .val (.int v2), .val (.int v3)] [(.int v2), (.int v1)])) _
      refine XS.icmpNo X0.here hx rfl (hb hby d13_2) rfl (XT.ii_ne_f k1) ?_
      show Steps p.tables e below (s₁.setTop (mkF m 5 #[.val (.int v1), .val (.int v2), .val (.int v3)] [])) _
      refine XS.iconst X0.here hx rfl (hb hby d13_5) ?_
      exact k
    obtain ⟨fs, hr, hrun, hended, hW, hsame⟩ := X0.leave (v := some (.int (1 : Int32))) (fun h => by rw [Bd.returns] at h; cases h)
    refine ⟨_, _, C179 _ ?_, hrun, hended, _, _, rfl, ?_, ⟨_, rfl⟩, hW, hsame.mono (by decide) (by decide)⟩
    · show Steps p.tables e below (s₁.setTop (mkF m 6 #[.val (.int v1), .val (.int v2), .val (.int v3)] [(.int (1 : Int32))])) _
      exact retOut X0 hx Bd.returns rfl (Or.inl ⟨rfl, Or.inl rfl, _, rfl⟩) (hb hby d13_6) hr
    · show Q13 Z (1 : Int32) h0 n0 _ s₁.heap _
      rw [e0]
      exact ⟨rfl, N0, rfl⟩
  · have C180 : ∀ t, Steps p.tables e below (s₁.setTop (mkF m 13 #[.val (.int v1), .val (.int v2), .val (.int v3)] [(.int (0 : Int32))])) t → Steps p.tables e below (s₁.setTop (entryFrame m #[(.int v1), (.int v2), (.int v3)] 3)) t := by
      intro t k
      refine pre0 t ?_
      show Steps p.tables e below (s₁.setTop (mkF m 0 #[.val (.int v1), .val (.int v2), .val (.int v3)] [])) _
      refine XS.iloadN X0.here hx rfl (hb hby d13_0) rfl ?_
      show Steps p.tables e below (s₁.setTop (mkF m 1 #[.val (.int v1), .val (.int v2), .val (.int v3)] [(.int v1)])) _
      refine XS.iloadN X0.here hx rfl (hb hby d13_1) rfl ?_
      show Steps p.tables e below (s₁.setTop (mkF m 2 #[.val (.int v1), .val (.int v2), .val (.int v3)] [(.int v2), (.int v1)])) _
      refine XS.icmpYes X0.here hx rfl (pc0 := 2) (pc' := 7) rfl (hb hby d13_2) rfl (XT.ii_ne_t k1) (by decide) (by decide) ?_
      show Steps p.tables e below (s₁.setTop (mkF m 7 #[.val (.int v1), .val (.int v2), .val (.int v3)] [])) _
      refine XS.iloadN X0.here hx rfl (hb hby d13_7) rfl ?_
      show Steps p.tables e below (s₁.setTop (mkF m 8 #[.val (.int v1), .val (.int v2), .val (.int v3)] [(.int v1)])) _
      refine XS.iloadN X0.here hx rfl (hb hby d13_8) rfl ?_
      show Steps p.tables e below (s₁.setTop (mkF m 9 #[.val (.int v1), .val (.int v2), .val (.int v3)] [(.int v3), (.int v1)])) _
      refine XS.icmpNo X0.here hx rfl (hb hby d13_9) rfl (XT.ii_ne_f k2) ?_
      show Steps p.tables e below (s₁.setTop (mkF m 12 #[.val (.int v1), .val (.int v2), .val (.int v3)] [])) _
      refine XS.iconst X0.here hx rfl (hb hby d13_12) ?_
      exact k
    obtain ⟨fs, hr, hrun, hended, hW, hsame⟩ := X0.leave (v := some (.int (0 : Int32))) (fun h => by rw [Bd.returns] at h; cases h)
    refine ⟨_, _, C180 _ ?_, hrun, hended, _, _, rfl, ?_, ⟨_, rfl⟩, hW, hsame.mono (by decide) (by decide)⟩
    · show Steps p.tables e below (s₁.setTop (mkF m 13 #[.val (.int v1), .val (.int v2), .val (.int v3)] [(.int (0 : Int32))])) _
      exact retOut X0 hx Bd.returns rfl (Or.inl ⟨rfl, Or.inl rfl, _, rfl⟩) (hb hby d13_13) hr
    · show Q13 Z (0 : Int32) h0 n0 _ s₁.heap _
      rw [e0]
      exact ⟨rfl, N0, rfl⟩
def Q0 (Z : State) (p1 p2 p3 : Int32) (p4 : Int64) (h0 : Heap) (n0 : Nat) (v : Option Value) (h : Heap) (L : List Loc) : Prop := v = some (.int 1) ∧ Fr n0 L
theorem pd8 : parseMethodDescriptor "(J)V" = some ⟨[.long], none⟩ := by decide +kernel
theorem pd9 : parseMethodDescriptor "([DIILcom/example/mutatune/mutatune/engine/SeededRandom;)V" = some ⟨[(.array .double), .int, .int, (.object "com/example/mutatune/mutatune/engine/SeededRandom")], none⟩ := by decide +kernel
theorem pd10 : parseMethodDescriptor "(Lcom/example/mutatune/mutatune/engine/SeededRandom;)[I" = some ⟨[(.object "com/example/mutatune/mutatune/engine/SeededRandom")], some (.array .int)⟩ := by decide +kernel
theorem pd11 : parseMethodDescriptor "(III)I" = some ⟨[.int, .int, .int], some .int⟩ := by decide +kernel
theorem own_wt_set {na nb : Nat} {xb : UInt64} (i : Nat) : (if i = nb then Value.double xb else if i = na then .double 4607182418800017408 else .double 0) = .double (own_wt na nb xb i) := by
  unfold own_wt
  split
  · rfl
  · split <;> rfl
theorem own_tal {A B x : Int32} {k q : Nat} (hAB : A ≠ B) (h : x = if k = q then A else B) : ∃ t : Int32, t = (if k = q then 1 else 0) ∧ ((x = A ∧ t = 1) ∨ (¬ x = A ∧ x = B ∧ t = 0)) := by
  refine ⟨_, rfl, ?_⟩
  subst h
  by_cases g : k = q
  · left; rw [if_pos g, if_pos g]; exact ⟨rfl, rfl⟩
  · right; rw [if_neg g, if_neg g]; exact ⟨fun y => hAB y.symm, rfl, rfl⟩
theorem own_ai (x : Int32) : 0 ≤ (((x &&& (2147483647 : Int32)) - ((x &&& (2147483647 : Int32)) / (3 : Int32)) * (3 : Int32))).toInt ∧ (((x &&& (2147483647 : Int32)) - ((x &&& (2147483647 : Int32)) / (3 : Int32)) * (3 : Int32))).toInt ≤ 2 := by
  rw [own_rem32]
  have h1 := c_and x 2147483647 (by decide)
  have h2 := (c_irem (x &&& 2147483647) 3 3 rfl).1 h1.1
  omega
theorem own_bi {ai : Int32} (x : Int32) (h : 0 ≤ ai.toInt ∧ ai.toInt ≤ 2) : ai.toInt < (((ai + (1 : Int32)) + ((x &&& (2147483647 : Int32)) - ((x &&& (2147483647 : Int32)) / ((3 : Int32) - ai)) * ((3 : Int32) - ai)))).toInt ∧ (((ai + (1 : Int32)) + ((x &&& (2147483647 : Int32)) - ((x &&& (2147483647 : Int32)) / ((3 : Int32) - ai)) * ((3 : Int32) - ai)))).toInt ≤ 3 := by
  rw [own_rem32]
  have h1 := c_and x 2147483647 (by decide)
  have h3 := own_sub_c (show (3 : Int32).toInt = 3 from rfl) (rfl : ai.toInt = ai.toInt) (by omega) (by omega)
  have h2 := (c_irem (x &&& 2147483647) ((3 : Int32) - ai) (3 - ai.toInt) h3).1 h1.1
  have h4 := own_add_c (rfl : ai.toInt = ai.toInt) (show (1 : Int32).toInt = 1 from rfl) (by omega) (by omega)
  have e1 := Int.emod_nonneg (x &&& 2147483647).toInt (show 3 - ai.toInt ≠ 0 by omega)
  have e2 := Int.emod_lt_of_pos (x &&& 2147483647).toInt (show 0 < 3 - ai.toInt by omega)
  rw [← h2] at e1 e2
  have h5 := own_add_c h4 (rfl : ((x &&& 2147483647) % ((3 : Int32) - ai)).toInt = _) (by omega) (by omega)
  omega
theorem own_prr (x : Int32) : (((1 : Int32) + (x &&& (1 : Int32)))).toInt = ((1 : Nat) : Int) ∨ (((1 : Int32) + (x &&& (1 : Int32)))).toInt = ((2 : Nat) : Int) := by
  have h := c_mask x 1 1 (by decide) (by decide)
  rw [show ((2 ^ 1 : Nat) : Int) = 2 from rfl] at h
  have h2 := own_add_c (show (1 : Int32).toInt = 1 from rfl) h (by omega) (by omega)
  omega
theorem own_sgr (x : Int32) : ((((x.toUInt32 >>> ((1 : Int32) &&& 31).toUInt32).toInt32) - (((x.toUInt32 >>> ((1 : Int32) &&& 31).toUInt32).toInt32) / (3 : Int32)) * (3 : Int32))).toInt = ((0 : Nat) : Int) ∨ ((((x.toUInt32 >>> ((1 : Int32) &&& 31).toUInt32).toInt32) - (((x.toUInt32 >>> ((1 : Int32) &&& 31).toUInt32).toInt32) / (3 : Int32)) * (3 : Int32))).toInt = ((1 : Nat) : Int) ∨ ((((x.toUInt32 >>> ((1 : Int32) &&& 31).toUInt32).toInt32) - (((x.toUInt32 >>> ((1 : Int32) &&& 31).toUInt32).toInt32) / (3 : Int32)) * (3 : Int32))).toInt = ((2 : Nat) : Int) := by
  rw [own_rem32]
  have h := c_iushr x 1 1 (by decide) (by decide)
  rw [show ((2 ^ 1 : Nat) : Int) = 2 from rfl] at h
  have h2 := (c_irem ((x.toUInt32 >>> ((1 : Int32) &&& 31).toUInt32).toInt32) 3 3 rfl).1 (by omega)
  omega
theorem ef0 (m : MethodId) (x0 : Int32) (x1 : Int32) (x2 : Int32) (x3 : Int64) : entryFrame m #[(.int x0), (.int x1), (.int x2), (.long x3)] maxLocals = mkF m 0 #[.val (.int x0), .val (.int x1), .val (.int x2), .val (.long x3), .second, .unset, .unset, .unset, .unset, .unset, .unset, .unset, .unset, .unset, .unset, .unset, .unset, .unset] [] := by first | (simp [entryFrame, mkF, argsToLocals, Value.category, maxLocals]; done) | rfl
set_option maxRecDepth 65536 in
set_option maxHeartbeats 40000000 in
theorem rm0_10 (l : Launch) (Z : State) (a0 : Array Value) (hw : ∀ d ∈ tables_1, d.before a0 Z = true) (ws : List Jvm.Cond) (p1 p2 p3 : Int32) (p4 : Int64) (h0 : Heap) (n0 : Nat) (Z0 : n0 ≤ h0.size) (hm : ((1 : Int32) + (p1 &&& (1 : Int32))).toInt = ((1 : Nat) : Int)) (hs : (((p1.toUInt32 >>> ((1 : Int32) &&& 31).toUInt32).toInt32) - (((p1.toUInt32 >>> ((1 : Int32) &&& 31).toUInt32).toInt32) / (3 : Int32)) * (3 : Int32)).toInt = ((0 : Nat) : Int)) :
    MetFree l x (head1 (Jvm.Cond.code x code maxLocals ret :: ws) room_1) (fun a U => a = #[(.int p1), (.int p2), (.int p3), (.long p4)] ∧ Z.Warmed39 U.vm ∧ U.heap = h0) (fun _ _ _ _ _ => True) (fun _ U o U' => ∃ v L, o = .returned v ∧ Q0 Z p1 p2 p3 p4 h0 n0 v U'.heap L ∧ FrameEnd U o U' L room_1.cells room_1.slots) := by
  refine MetFree.of_bodySF (plainFor_of_name pn3) hisR ?_
  intro p e s m args below meth c s₁ Bd hml0 hP hK
  obtain ⟨rfl, hZ, hh⟩ := hP
  have hx := Bd.exec
  have hby := Bd.bytes
  have hml : c.maxLocals = 18 := hml0
  have hown : s.vm.findClass "com/example/mutatune/mutatune/engine/UniversalSamplingPairPinLaw" = some m.cls := findClass_of_methodNamed Bd.named
  have hnm := (name_of_methodNamed Bd.named Bd.method).1
  have X0 : Stand p l e room_1 s m #[(.int p1), (.int p2), (.int p3), (.long p4)] below meth c s₁ [] 0 0 := Stand.of_body Bd
  have e0 : s₁.heap = h0 := by rw [← hh, Bd.state]; rfl
  have N0 := Fr.nil n0
  have pre0 : ∀ t, Steps p.tables e below (s₁.setTop (mkF m 0 #[.val (.int p1), .val (.int p2), .val (.int p3), .val (.long p4), .second, .unset, .unset, .unset, .unset, .unset, .unset, .unset, .unset, .unset, .unset, .unset, .unset, .unset] [])) t → Steps p.tables e below (s₁.setTop (entryFrame m #[(.int p1), (.int p2), (.int p3), (.long p4)] maxLocals)) t := fun t k => castTop (ef0 m p1 p2 p3 p4) k
  have C181 : ∀ t, Steps p.tables e below (s₁.setTop (mkF m 7 #[.val (.int p1), .val (.int p2), .val (.int p3), .val (.long p4), .second, .val (.int ((1 : Int32) + (p1 &&& (1 : Int32)))), .unset, .unset, .unset, .unset, .unset, .unset, .unset, .unset, .unset, .unset, .unset, .unset] [])) t → Steps p.tables e below (s₁.setTop (entryFrame m #[(.int p1), (.int p2), (.int p3), (.long p4)] maxLocals)) t := by
    intro t k
    refine pre0 t ?_
    refine XS.iconst X0.here hx rfl (hb hby at_0) ?_
    refine XS.iloadN X0.here hx rfl (hb hby at_1) rfl ?_
    refine XS.iconst X0.here hx rfl (hb hby at_2) ?_
    show Steps p.tables e below (s₁.setTop (mkF m 3 #[.val (.int p1), .val (.int p2), .val (.int p3), .val (.long p4), .second, .unset, .unset, .unset, .unset, .unset, .unset, .unset, .unset, .unset, .unset, .unset, .unset, .unset] [(.int (1 : Int32)), (.int p1), (.int (1 : Int32))])) _
    refine XS.iand X0.here hx rfl (hb hby at_3) rfl ?_
    refine XS.iadd X0.here hx rfl (hb hby at_4) rfl ?_
    refine XS.istore X0.here hx rfl (hb hby at_5) rfl (l' := #[.val (.int p1), .val (.int p2), .val (.int p3), .val (.long p4), .second, .val (.int ((1 : Int32) + (p1 &&& (1 : Int32)))), .unset, .unset, .unset, .unset, .unset, .unset, .unset, .unset, .unset, .unset, .unset, .unset]) rfl ?_
    exact k
  obtain ⟨pr, h_pr⟩ : ∃ z : Int32, z = ((1 : Int32) + (p1 &&& (1 : Int32))) := ⟨_, rfl⟩
  rw [← h_pr] at C181
  have hpr : pr.toInt = ((1 : Nat) : Int) := by rw [h_pr]; exact hm
  have C182 : ∀ t, Steps p.tables e below (s₁.setTop (mkF m 14 #[.val (.int p1), .val (.int p2), .val (.int p3), .val (.long p4), .second, .val (.int pr), .val (.int (((p1.toUInt32 >>> ((1 : Int32) &&& 31).toUInt32).toInt32) - (((p1.toUInt32 >>> ((1 : Int32) &&& 31).toUInt32).toInt32) / (3 : Int32)) * (3 : Int32))), .unset, .unset, .unset, .unset, .unset, .unset, .unset, .unset, .unset, .unset, .unset] [])) t → Steps p.tables e below (s₁.setTop (entryFrame m #[(.int p1), (.int p2), (.int p3), (.long p4)] maxLocals)) t := by
    intro t k
    refine C181 t ?_
    refine XS.iloadN X0.here hx rfl (hb hby at_7) rfl ?_
    refine XS.iconst X0.here hx rfl (hb hby at_8) ?_
    refine XS.iushr X0.here hx rfl (hb hby at_9) rfl ?_
    show Steps p.tables e below (s₁.setTop (mkF m 10 #[.val (.int p1), .val (.int p2), .val (.int p3), .val (.long p4), .second, .val (.int pr), .unset, .unset, .unset, .unset, .unset, .unset, .unset, .unset, .unset, .unset, .unset, .unset] [(.int ((p1.toUInt32 >>> ((1 : Int32) &&& 31).toUInt32).toInt32))])) _
    refine XS.iconst X0.here hx rfl (hb hby at_10) ?_
    refine XS.irem X0.here hx rfl (hb hby at_11) rfl (by decide) ?_
    refine XS.istore X0.here hx rfl (hb hby at_12) rfl (l' := #[.val (.int p1), .val (.int p2), .val (.int p3), .val (.long p4), .second, .val (.int pr), .val (.int (((p1.toUInt32 >>> ((1 : Int32) &&& 31).toUInt32).toInt32) - (((p1.toUInt32 >>> ((1 : Int32) &&& 31).toUInt32).toInt32) / (3 : Int32)) * (3 : Int32))), .unset, .unset, .unset, .unset, .unset, .unset, .unset, .unset, .unset, .unset, .unset]) rfl ?_
    exact k
  obtain ⟨sg, h_sg⟩ : ∃ z : Int32, z = (((p1.toUInt32 >>> ((1 : Int32) &&& 31).toUInt32).toInt32) - (((p1.toUInt32 >>> ((1 : Int32) &&& 31).toUInt32).toInt32) / (3 : Int32)) * (3 : Int32)) := ⟨_, rfl⟩
  rw [← h_sg] at C182
  have hsg : sg.toInt = ((0 : Nat) : Int) := by rw [h_sg]; exact hs
  have hct0 : (((2 : Int32) * pr) + sg).toInt = ((2 : Nat) : Int) := by have y := own_add_c (own_two_c hpr (by decide) (by decide)) hsg (by decide) (by decide); exact y
  have C183 : ∀ t, Steps p.tables e below (s₁.setTop (mkF m 23 #[.val (.int p1), .val (.int p2), .val (.int p3), .val (.long p4), .second, .val (.int pr), .val (.int sg), .val (.int (((2 : Int32) * pr) + sg)), .unset, .unset, .unset, .unset, .unset, .unset, .unset, .unset, .unset, .unset] [])) t → Steps p.tables e below (s₁.setTop (entryFrame m #[(.int p1), (.int p2), (.int p3), (.long p4)] maxLocals)) t := by
    intro t k
    refine C182 t ?_
    refine XS.iconst X0.here hx rfl (hb hby at_14) ?_
    refine XS.iload X0.here hx rfl (hb hby at_15) rfl ?_
    refine XS.imul X0.here hx rfl (hb hby at_17) rfl ?_
    show Steps p.tables e below (s₁.setTop (mkF m 18 #[.val (.int p1), .val (.int p2), .val (.int p3), .val (.long p4), .second, .val (.int pr), .val (.int sg), .unset, .unset, .unset, .unset, .unset, .unset, .unset, .unset, .unset, .unset, .unset] [(.int ((2 : Int32) * pr))])) _
    refine XS.iload X0.here hx rfl (hb hby at_18) rfl ?_
    refine XS.iadd X0.here hx rfl (hb hby at_20) rfl ?_
    refine XS.istore X0.here hx rfl (hb hby at_21) rfl (l' := #[.val (.int p1), .val (.int p2), .val (.int p3), .val (.long p4), .second, .val (.int pr), .val (.int sg), .val (.int (((2 : Int32) * pr) + sg)), .unset, .unset, .unset, .unset, .unset, .unset, .unset, .unset, .unset, .unset]) rfl ?_
    exact k
  obtain ⟨ct, h_ct⟩ : ∃ z : Int32, z = (((2 : Int32) * pr) + sg) := ⟨_, rfl⟩
  rw [← h_ct] at C183
  have hct := hct0
  rw [← h_ct] at hct
  have C184 : ∀ t, Steps p.tables e below (s₁.setTop (mkF m 31 #[.val (.int p1), .val (.int p2), .val (.int p3), .val (.long p4), .second, .val (.int pr), .val (.int sg), .val (.int ct), .val (.int ((p2 &&& (2147483647 : Int32)) - ((p2 &&& (2147483647 : Int32)) / (3 : Int32)) * (3 : Int32))), .unset, .unset, .unset, .unset, .unset, .unset, .unset, .unset, .unset] [])) t → Steps p.tables e below (s₁.setTop (entryFrame m #[(.int p1), (.int p2), (.int p3), (.long p4)] maxLocals)) t := by
    intro t k
    refine C183 t ?_
    refine XS.iloadN X0.here hx rfl (hb hby at_23) rfl ?_
    refine X0.ldcInt hx hown (mvT hZ (hw _ (List.mem_of_getElem? (i := 0) rfl))) (g := (mkF m 24 #[.val (.int p1), .val (.int p2), .val (.int p3), .val (.long p4), .second, .val (.int pr), .val (.int sg), .val (.int ct), .unset, .unset, .unset, .unset, .unset, .unset, .unset, .unset, .unset, .unset] [(.int p2)])) rfl (hb hby at_24) _ ?_
    refine XS.iand X0.here hx rfl (hb hby at_26) rfl ?_
    show Steps p.tables e below (s₁.setTop (mkF m 27 #[.val (.int p1), .val (.int p2), .val (.int p3), .val (.long p4), .second, .val (.int pr), .val (.int sg), .val (.int ct), .unset, .unset, .unset, .unset, .unset, .unset, .unset, .unset, .unset, .unset] [(.int (p2 &&& (2147483647 : Int32)))])) _
    refine XS.iconst X0.here hx rfl (hb hby at_27) ?_
    refine XS.irem X0.here hx rfl (hb hby at_28) rfl (by decide) ?_
    refine XS.istore X0.here hx rfl (hb hby at_29) rfl (l' := #[.val (.int p1), .val (.int p2), .val (.int p3), .val (.long p4), .second, .val (.int pr), .val (.int sg), .val (.int ct), .val (.int ((p2 &&& (2147483647 : Int32)) - ((p2 &&& (2147483647 : Int32)) / (3 : Int32)) * (3 : Int32))), .unset, .unset, .unset, .unset, .unset, .unset, .unset, .unset, .unset]) rfl ?_
    exact k
  obtain ⟨ai, h_ai⟩ : ∃ z : Int32, z = ((p2 &&& (2147483647 : Int32)) - ((p2 &&& (2147483647 : Int32)) / (3 : Int32)) * (3 : Int32)) := ⟨_, rfl⟩
  rw [← h_ai] at C184
  have hai := own_ai p2
  rw [← h_ai] at hai
  have h3a := own_sub_c (show (3 : Int32).toInt = 3 from rfl) (rfl : ai.toInt = ai.toInt) (by omega) (by omega)
  have hnz : (3 : Int32) - ai ≠ 0 := fun y => by rw [y, show (0 : Int32).toInt = 0 from rfl] at h3a; omega
  have C185 : ∀ t, Steps p.tables e below (s₁.setTop (mkF m 47 #[.val (.int p1), .val (.int p2), .val (.int p3), .val (.long p4), .second, .val (.int pr), .val (.int sg), .val (.int ct), .val (.int ai), .val (.int ((ai + (1 : Int32)) + ((p3 &&& (2147483647 : Int32)) - ((p3 &&& (2147483647 : Int32)) / ((3 : Int32) - ai)) * ((3 : Int32) - ai)))), .unset, .unset, .unset, .unset, .unset, .unset, .unset, .unset] [])) t → Steps p.tables e below (s₁.setTop (entryFrame m #[(.int p1), (.int p2), (.int p3), (.long p4)] maxLocals)) t := by
    intro t k
    refine C184 t ?_
    refine XS.iload X0.here hx rfl (hb hby at_31) rfl ?_
    refine XS.iconst X0.here hx rfl (hb hby at_33) ?_
    refine XS.iadd X0.here hx rfl (hb hby at_34) rfl ?_
    show Steps p.tables e below (s₁.setTop (mkF m 35 #[.val (.int p1), .val (.int p2), .val (.int p3), .val (.long p4), .second, .val (.int pr), .val (.int sg), .val (.int ct), .val (.int ai), .unset, .unset, .unset, .unset, .unset, .unset, .unset, .unset, .unset] [(.int (ai + (1 : Int32)))])) _
    refine XS.iloadN X0.here hx rfl (hb hby at_35) rfl ?_
    refine X0.ldcInt hx hown (mvT hZ (hw _ (List.mem_of_getElem? (i := 0) rfl))) (g := (mkF m 36 #[.val (.int p1), .val (.int p2), .val (.int p3), .val (.long p4), .second, .val (.int pr), .val (.int sg), .val (.int ct), .val (.int ai), .unset, .unset, .unset, .unset, .unset, .unset, .unset, .unset, .unset] [(.int p3), (.int (ai + (1 : Int32)))])) rfl (hb hby at_36) _ ?_
    refine XS.iand X0.here hx rfl (hb hby at_38) rfl ?_
    refine XS.iconst X0.here hx rfl (hb hby at_39) ?_
    show Steps p.tables e below (s₁.setTop (mkF m 40 #[.val (.int p1), .val (.int p2), .val (.int p3), .val (.long p4), .second, .val (.int pr), .val (.int sg), .val (.int ct), .val (.int ai), .unset, .unset, .unset, .unset, .unset, .unset, .unset, .unset, .unset] [(.int (3 : Int32)), (.int (p3 &&& (2147483647 : Int32))), (.int (ai + (1 : Int32)))])) _
    refine XS.iload X0.here hx rfl (hb hby at_40) rfl ?_
    refine XS.isub X0.here hx rfl (hb hby at_42) rfl ?_
    refine XS.irem X0.here hx rfl (hb hby at_43) rfl hnz ?_
    refine XS.iadd X0.here hx rfl (hb hby at_44) rfl ?_
    show Steps p.tables e below (s₁.setTop (mkF m 45 #[.val (.int p1), .val (.int p2), .val (.int p3), .val (.long p4), .second, .val (.int pr), .val (.int sg), .val (.int ct), .val (.int ai), .unset, .unset, .unset, .unset, .unset, .unset, .unset, .unset, .unset] [(.int ((ai + (1 : Int32)) + ((p3 &&& (2147483647 : Int32)) - ((p3 &&& (2147483647 : Int32)) / ((3 : Int32) - ai)) * ((3 : Int32) - ai))))])) _
    refine XS.istore X0.here hx rfl (hb hby at_45) rfl (l' := #[.val (.int p1), .val (.int p2), .val (.int p3), .val (.long p4), .second, .val (.int pr), .val (.int sg), .val (.int ct), .val (.int ai), .val (.int ((ai + (1 : Int32)) + ((p3 &&& (2147483647 : Int32)) - ((p3 &&& (2147483647 : Int32)) / ((3 : Int32) - ai)) * ((3 : Int32) - ai)))), .unset, .unset, .unset, .unset, .unset, .unset, .unset, .unset]) rfl ?_
    exact k
  obtain ⟨bi, h_bi⟩ : ∃ z : Int32, z = ((ai + (1 : Int32)) + ((p3 &&& (2147483647 : Int32)) - ((p3 &&& (2147483647 : Int32)) / ((3 : Int32) - ai)) * ((3 : Int32) - ai))) := ⟨_, rfl⟩
  rw [← h_bi] at C185
  have hbi := own_bi p3 hai
  rw [← h_bi] at hbi
  obtain ⟨na, hna⟩ : ∃ y : Nat, y = ai.toInt.toNat := ⟨_, rfl⟩
  obtain ⟨nb, hnb⟩ : ∃ y : Nat, y = bi.toInt.toNat := ⟨_, rfl⟩
  have hA : ai.toInt = (na : Int) := by omega
  have hB : bi.toInt = (nb : Int) := by omega
  have hab : na < nb := by omega
  have hb4 : nb < 4 := by omega
  have hAB : ai ≠ bi := fun y => by rw [y] at hA; omega
  have hia : ¬ ai < 0 ∧ ai.toNatClampNeg < 4 := own_idx hA (by omega)
  have hib : ¬ bi < 0 ∧ bi.toNatClampNeg < 4 := own_idx hB hb4
  have C186 : ∀ t, Steps p.tables e below (s₁.setTop (mkF m 48 #[.val (.int p1), .val (.int p2), .val (.int p3), .val (.long p4), .second, .val (.int pr), .val (.int sg), .val (.int ct), .val (.int ai), .val (.int bi), .unset, .unset, .unset, .unset, .unset, .unset, .unset, .unset] [(.int (4 : Int32))])) t → Steps p.tables e below (s₁.setTop (entryFrame m #[(.int p1), (.int p2), (.int p3), (.long p4)] maxLocals)) t := by
    intro t k
    refine C185 t ?_
    refine XS.iconst X0.here hx rfl (hb hby at_47) ?_
    exact k
  obtain ⟨T187, h187, k187, X187, e187, E187, A187, st187⟩ := newP X0 hx hZ (hw _ (List.mem_of_getElem? (i := 1) rfl)) e0 (g := (mkF m 48 #[.val (.int p1), .val (.int p2), .val (.int p3), .val (.long p4), .second, .val (.int pr), .val (.int sg), .val (.int ct), .val (.int ai), .val (.int bi), .unset, .unset, .unset, .unset, .unset, .unset, .unset, .unset] [(.int (4 : Int32))])) rfl (hb hby at_48) rfl (by decide) (cap := 4) (by decide) (by decide) (by decide) (by decide)
  obtain ⟨b187, g187⟩ : ∃ z, z = h0.size := ⟨_, rfl⟩
  rw [← g187] at A187 st187
  have C187 : ∀ t, Steps p.tables e below (T187.setTop (mkF m 50 #[.val (.int p1), .val (.int p2), .val (.int p3), .val (.long p4), .second, .val (.int pr), .val (.int sg), .val (.int ct), .val (.int ai), .val (.int bi), .unset, .unset, .unset, .unset, .unset, .unset, .unset, .unset] [(.ref b187)])) t → Steps p.tables e below (s₁.setTop (entryFrame m #[(.int p1), (.int p2), (.int p3), (.long p4)] maxLocals)) t := fun t k => C186 t (st187 t k)
  have V0 : OwnA Z h187 b187 .double 4 (fun _ => .double 0) := OwnA.new A187 rfl
  have Z1 : n0 ≤ h187.size := Nat.le_trans Z0 E187.1
  have gw : n0 ≤ b187 := Nat.le_trans Z0 (Nat.le_of_eq g187.symm)
  have C188 : ∀ t, Steps p.tables e below (T187.setTop (mkF m 57 #[.val (.int p1), .val (.int p2), .val (.int p3), .val (.long p4), .second, .val (.int pr), .val (.int sg), .val (.int ct), .val (.int ai), .val (.int bi), .val (.ref b187), .unset, .unset, .unset, .unset, .unset, .unset, .unset] [(.double 4607182418800017408), (.int ai), (.ref b187)])) t → Steps p.tables e below (s₁.setTop (entryFrame m #[(.int p1), (.int p2), (.int p3), (.long p4)] maxLocals)) t := by
    intro t k
    refine C187 t ?_
    refine XS.astore X187.here hx rfl (hb hby at_50) rfl rfl (l' := #[.val (.int p1), .val (.int p2), .val (.int p3), .val (.long p4), .second, .val (.int pr), .val (.int sg), .val (.int ct), .val (.int ai), .val (.int bi), .val (.ref b187), .unset, .unset, .unset, .unset, .unset, .unset, .unset]) rfl ?_
    refine XS.aload X187.here hx rfl (hb hby at_52) rfl rfl ?_
    refine XS.iload X187.here hx rfl (hb hby at_54) rfl ?_
    show Steps p.tables e below (T187.setTop (mkF m 56 #[.val (.int p1), .val (.int p2), .val (.int p3), .val (.long p4), .second, .val (.int pr), .val (.int sg), .val (.int ct), .val (.int ai), .val (.int bi), .val (.ref b187), .unset, .unset, .unset, .unset, .unset, .unset, .unset] [(.int ai), (.ref b187)])) _
    refine XS.dconst1 X187.here hx rfl (hb hby at_56) (v := 4607182418800017408) rfl ?_
    exact k
  obtain ⟨c189, A189, S189, V189⟩ := id V0
  obtain ⟨T189, h189, X189, e189, W189, st189⟩ := stD X187 hx hZ e187 A189 (j := ai) (own_in hia S189) (g := (mkF m 57 #[.val (.int p1), .val (.int p2), .val (.int p3), .val (.long p4), .second, .val (.int pr), .val (.int sg), .val (.int ct), .val (.int ai), .val (.int bi), .val (.ref b187), .unset, .unset, .unset, .unset, .unset, .unset, .unset] [(.double 4607182418800017408), (.int ai), (.ref b187)])) rfl rfl (hb hby at_57)
  have N189 := Fr.snoc X189 N0 gw
  have C189 : ∀ t, Steps p.tables e below (T189.setTop (mkF m 58 #[.val (.int p1), .val (.int p2), .val (.int p3), .val (.long p4), .second, .val (.int pr), .val (.int sg), .val (.int ct), .val (.int ai), .val (.int bi), .val (.ref b187), .unset, .unset, .unset, .unset, .unset, .unset, .unset] [])) t → Steps p.tables e below (s₁.setTop (entryFrame m #[(.int p1), (.int p2), (.int p3), (.long p4)] maxLocals)) t := fun t k => C188 t (st189 t k)
  have V1 := V0.set W189
  have zb : OwnZ (FP.i2d (ct - (1 : Int32))) ((2 - 1) * Jvm.FP.Core.one64) := by
    have hc1 : (ct - (1 : Int32)).toInt = ((2 - 1 : Nat) : Int) := own_sub_c hct (show (1 : Int32).toInt = 1 from rfl) (by decide) (by decide)
    have y := own_i2d (v := ct - (1 : Int32)) (by rw [hc1]; decide)
    rw [hc1, Int.toNat_natCast] at y
    exact y
  have C190 : ∀ t, Steps p.tables e below (T189.setTop (mkF m 67 #[.val (.int p1), .val (.int p2), .val (.int p3), .val (.long p4), .second, .val (.int pr), .val (.int sg), .val (.int ct), .val (.int ai), .val (.int bi), .val (.ref b187), .unset, .unset, .unset, .unset, .unset, .unset, .unset] [(.double (FP.i2d (ct - (1 : Int32)))), (.int bi), (.ref b187)])) t → Steps p.tables e below (s₁.setTop (entryFrame m #[(.int p1), (.int p2), (.int p3), (.long p4)] maxLocals)) t := by
    intro t k
    refine C189 t ?_
    refine XS.aload X189.here hx rfl (hb hby at_58) rfl rfl ?_
    refine XS.iload X189.here hx rfl (hb hby at_60) rfl ?_
    refine XS.iload X189.here hx rfl (hb hby at_62) rfl ?_
    show Steps p.tables e below (T189.setTop (mkF m 64 #[.val (.int p1), .val (.int p2), .val (.int p3), .val (.long p4), .second, .val (.int pr), .val (.int sg), .val (.int ct), .val (.int ai), .val (.int bi), .val (.ref b187), .unset, .unset, .unset, .unset, .unset, .unset, .unset] [(.int ct), (.int bi), (.ref b187)])) _
    refine XS.iconst X189.here hx rfl (hb hby at_64) ?_
    refine XS.isub X189.here hx rfl (hb hby at_65) rfl ?_
    refine XS.i2dS X189.here hx rfl (hb hby at_66) rfl rfl ?_
    exact k
  obtain ⟨c191, A191, S191, V191⟩ := id V1
  obtain ⟨T191, h191, X191, e191, W191, st191⟩ := stD X189 hx hZ e189 A191 (j := bi) (own_in hib S191) (g := (mkF m 67 #[.val (.int p1), .val (.int p2), .val (.int p3), .val (.long p4), .second, .val (.int pr), .val (.int sg), .val (.int ct), .val (.int ai), .val (.int bi), .val (.ref b187), .unset, .unset, .unset, .unset, .unset, .unset, .unset] [(.double (FP.i2d (ct - (1 : Int32)))), (.int bi), (.ref b187)])) rfl rfl (hb hby at_67)
  have N191 := Fr.snoc X191 N189 gw
  have C191 : ∀ t, Steps p.tables e below (T191.setTop (mkF m 68 #[.val (.int p1), .val (.int p2), .val (.int p3), .val (.long p4), .second, .val (.int pr), .val (.int sg), .val (.int ct), .val (.int ai), .val (.int bi), .val (.ref b187), .unset, .unset, .unset, .unset, .unset, .unset, .unset] [])) t → Steps p.tables e below (s₁.setTop (entryFrame m #[(.int p1), (.int p2), (.int p3), (.long p4)] maxLocals)) t := fun t k => C190 t (st191 t k)
  have V2 : OwnA Z h191 b187 .double 4 (fun i => .double (own_wt na nb (FP.i2d (ct - (1 : Int32))) i)) := (V1.set W191).congr (fun i _ => by rw [own_cl hA, own_cl hB]; exact own_wt_set i)
  have Z2 : n0 ≤ h191.size := by rw [Wr.size W191, Wr.size W189]; exact Z1
  obtain ⟨T192, h192, X192, e192, E192, A192, D192, -, st192⟩ := newO X191 hx hZ hown (hw _ (List.mem_of_getElem? (i := 2) rfl)) (hw _ (List.mem_of_getElem? (i := 3) rfl)) (hw _ (List.mem_of_getElem? (i := 4) rfl)) e191 (g := (mkF m 68 #[.val (.int p1), .val (.int p2), .val (.int p3), .val (.long p4), .second, .val (.int pr), .val (.int sg), .val (.int ct), .val (.int ai), .val (.int bi), .val (.ref b187), .unset, .unset, .unset, .unset, .unset, .unset, .unset] [])) rfl (hb hby at_68) (by decide) (by decide)
  obtain ⟨b192, g192⟩ : ∃ z, z = h191.size := ⟨_, rfl⟩
  rw [← g192] at A192 D192 st192
  have C192 : ∀ t, Steps p.tables e below (T192.setTop (mkF m 71 #[.val (.int p1), .val (.int p2), .val (.int p3), .val (.long p4), .second, .val (.int pr), .val (.int sg), .val (.int ct), .val (.int ai), .val (.int bi), .val (.ref b187), .unset, .unset, .unset, .unset, .unset, .unset, .unset] [(.ref b192)])) t → Steps p.tables e below (s₁.setTop (entryFrame m #[(.int p1), (.int p2), (.int p3), (.long p4)] maxLocals)) t := fun t k => C191 t (st192 t k)
  have F_s0 : Fld Z h192 b192 "com/example/mutatune/mutatune/engine/SeededRandom" "s0" "J" (.long 0) := D192 (Or.inl (hw _ (List.mem_of_getElem? (i := 18) rfl))) (ty := .long) (by decide)
  have F_s1 : Fld Z h192 b192 "com/example/mutatune/mutatune/engine/SeededRandom" "s1" "J" (.long 0) := D192 (Or.inl (hw _ (List.mem_of_getElem? (i := 20) rfl))) (ty := .long) (by decide)
  have F_s2 : Fld Z h192 b192 "com/example/mutatune/mutatune/engine/SeededRandom" "s2" "J" (.long 0) := D192 (Or.inl (hw _ (List.mem_of_getElem? (i := 22) rfl))) (ty := .long) (by decide)
  have F_s3 : Fld Z h192 b192 "com/example/mutatune/mutatune/engine/SeededRandom" "s3" "J" (.long 0) := D192 (Or.inl (hw _ (List.mem_of_getElem? (i := 24) rfl))) (ty := .long) (by decide)
  have Z3 : n0 ≤ h192.size := Nat.le_trans Z2 E192.1
  have gra : n0 ≤ b192 := Nat.le_trans Z2 (Nat.le_of_eq g192.symm)
  have C193 : ∀ t, Steps p.tables e below (T192.setTop (mkF m 73 #[.val (.int p1), .val (.int p2), .val (.int p3), .val (.long p4), .second, .val (.int pr), .val (.int sg), .val (.int ct), .val (.int ai), .val (.int bi), .val (.ref b187), .unset, .unset, .unset, .unset, .unset, .unset, .unset] [(.long p4), (.ref b192), (.ref b192)])) t → Steps p.tables e below (s₁.setTop (entryFrame m #[(.int p1), (.int p2), (.int p3), (.long p4)] maxLocals)) t := by
    intro t k
    refine C192 t ?_
    refine XS.dup X192.here hx rfl (hb hby at_71) rfl rfl ?_
    refine XS.lloadN X192.here hx rfl (hb hby at_72) rfl ?_
    exact k
  obtain ⟨_, _, ⟨T194, L194, k194, n194⟩, -, X194, ⟨Lc194, hQ194, l194, y194, z194⟩, st194⟩ := X192.specialBack hx (y := (⟨"com/example/mutatune/mutatune/engine/SeededRandom", "<init>", "(J)V"⟩ : MethodName)) rfl hown (mvT hZ (hw _ (List.mem_of_getElem? (i := 5) rfl))) (mvT hZ (hw _ (List.mem_of_getElem? (i := 6) rfl))) (mvT hZ (hw _ (List.mem_of_getElem? (i := 7) rfl))) (by decide) (backOf (W := 1) (rm1 l Z a0 hw [] b192 p4 h192 n0 Z3 F_s0 F_s1 F_s2 F_s3 A192 gra) hZ (hw _ (List.mem_of_getElem? (i := 7) rfl)) (hw _ (List.mem_of_getElem? (i := 4) rfl)) (by decide) (by decide)) (g := (mkF m 73 #[.val (.int p1), .val (.int p2), .val (.int p3), .val (.long p4), .second, .val (.int pr), .val (.int sg), .val (.int ct), .val (.int ai), .val (.int bi), .val (.ref b187), .unset, .unset, .unset, .unset, .unset, .unset, .unset] [(.long p4), (.ref b192), (.ref b192)])) rfl (by rw [hml]; rfl) (Steps.refl _) (a := b192) (argsL := [(.long p4)]) (rest := [(.ref b192)]) (lenOf pd8 rfl) rfl (by show 2 * 0 + _ ≤ _; exact Nat.le_of_eq rfl) (hb hby at_73) (fun _ _ => ⟨rfl, e192, (by decide : 2 + 0 ≤ _), (by decide : 8 + 0 ≤ _)⟩)
  dsimp only [Pt.U, Pt.locs, Pt.cells, Pt.slots] at X194 l194 y194 z194 st194 hQ194
  subst l194 y194 z194
  obtain ⟨rfl, N194q, R194, K194⟩ := hQ194
  have N194 := Fr.app N191 N194q
  have C194 : ∀ t, Steps p.tables e below (T194.setTop (mkF m 76 #[.val (.int p1), .val (.int p2), .val (.int p3), .val (.long p4), .second, .val (.int pr), .val (.int sg), .val (.int ct), .val (.int ai), .val (.int bi), .val (.ref b187), .unset, .unset, .unset, .unset, .unset, .unset, .unset] [(.ref b192)])) t → Steps p.tables e below (s₁.setTop (entryFrame m #[(.int p1), (.int p2), (.int p3), (.long p4)] maxLocals)) t := fun t k => C193 t (st194.trans k)
  have Z4 : n0 ≤ T194.heap.size := Nat.le_trans Z3 K194.1
  have V3 := (V2.ext E192).keep K194 (own_nin1 (own_natne (by have y := own_natlt V2.lt; omega)))
  have NZ : OwnNZ (own_mix (p4 + (-7046029254386353131 : Int64))) (own_mix ((p4 + (-7046029254386353131 : Int64)) + (-7046029254386353131 : Int64))) (own_mix (((p4 + (-7046029254386353131 : Int64)) + (-7046029254386353131 : Int64)) + (-7046029254386353131 : Int64))) (own_mix ((((p4 + (-7046029254386353131 : Int64)) + (-7046029254386353131 : Int64)) + (-7046029254386353131 : Int64)) + (-7046029254386353131 : Int64))) := own_seed_nz _ _ _
  have C195 : ∀ t, Steps p.tables e below (T194.setTop (mkF m 78 #[.val (.int p1), .val (.int p2), .val (.int p3), .val (.long p4), .second, .val (.int pr), .val (.int sg), .val (.int ct), .val (.int ai), .val (.int bi), .val (.ref b187), .val (.ref b192), .unset, .unset, .unset, .unset, .unset, .unset] [])) t → Steps p.tables e below (s₁.setTop (entryFrame m #[(.int p1), (.int p2), (.int p3), (.long p4)] maxLocals)) t := by
    intro t k
    refine C194 t ?_
    refine XS.astore X194.here hx rfl (hb hby at_76) rfl rfl (l' := #[.val (.int p1), .val (.int p2), .val (.int p3), .val (.long p4), .second, .val (.int pr), .val (.int sg), .val (.int ct), .val (.int ai), .val (.int bi), .val (.ref b187), .val (.ref b192), .unset, .unset, .unset, .unset, .unset, .unset]) rfl ?_
    exact k
  obtain ⟨T196, h196, X196, e196, E196, A196, D196, -, st196⟩ := newO X194 hx hZ hown (hw _ (List.mem_of_getElem? (i := 25) rfl)) (hw _ (List.mem_of_getElem? (i := 26) rfl)) (hw _ (List.mem_of_getElem? (i := 27) rfl)) rfl (g := (mkF m 78 #[.val (.int p1), .val (.int p2), .val (.int p3), .val (.long p4), .second, .val (.int pr), .val (.int sg), .val (.int ct), .val (.int ai), .val (.int bi), .val (.ref b187), .val (.ref b192), .unset, .unset, .unset, .unset, .unset, .unset] [])) rfl (hb hby at_78) (by decide) (by decide)
  obtain ⟨b196, g196⟩ : ∃ z, z = T194.heap.size := ⟨_, rfl⟩
  rw [← g196] at A196 D196 st196
  have C196 : ∀ t, Steps p.tables e below (T196.setTop (mkF m 81 #[.val (.int p1), .val (.int p2), .val (.int p3), .val (.long p4), .second, .val (.int pr), .val (.int sg), .val (.int ct), .val (.int ai), .val (.int bi), .val (.ref b187), .val (.ref b192), .unset, .unset, .unset, .unset, .unset, .unset] [(.ref b196)])) t → Steps p.tables e below (s₁.setTop (entryFrame m #[(.int p1), (.int p2), (.int p3), (.long p4)] maxLocals)) t := fun t k => C195 t (st196 t k)
  have G1 : Fld Z h196 b196 "com/example/mutatune/mutatune/engine/UniversalSampling" "slots" "[I" .null := D196 (Or.inr (hw _ (List.mem_of_getElem? (i := 52) rfl))) (ty := (.array .int)) (by decide)
  have G2 : Fld Z h196 b196 "com/example/mutatune/mutatune/engine/UniversalSampling" "next" "I" (.int 0) := D196 (Or.inl (hw _ (List.mem_of_getElem? (i := 73) rfl))) (ty := .int) (by decide)
  have Z5 : n0 ≤ h196.size := Nat.le_trans Z4 E196.1
  have gu : n0 ≤ b196 := Nat.le_trans Z4 (Nat.le_of_eq g196.symm)
  have C197 : ∀ t, Steps p.tables e below (T196.setTop (mkF m 90 #[.val (.int p1), .val (.int p2), .val (.int p3), .val (.long p4), .second, .val (.int pr), .val (.int sg), .val (.int ct), .val (.int ai), .val (.int bi), .val (.ref b187), .val (.ref b192), .unset, .unset, .unset, .unset, .unset, .unset] [(.ref b192), (.int sg), (.int pr), (.ref b187), (.ref b196), (.ref b196)])) t → Steps p.tables e below (s₁.setTop (entryFrame m #[(.int p1), (.int p2), (.int p3), (.long p4)] maxLocals)) t := by
    intro t k
    refine C196 t ?_
    refine XS.dup X196.here hx rfl (hb hby at_81) rfl rfl ?_
    refine XS.aload X196.here hx rfl (hb hby at_82) rfl rfl ?_
    refine XS.iload X196.here hx rfl (hb hby at_84) rfl ?_
    show Steps p.tables e below (T196.setTop (mkF m 86 #[.val (.int p1), .val (.int p2), .val (.int p3), .val (.long p4), .second, .val (.int pr), .val (.int sg), .val (.int ct), .val (.int ai), .val (.int bi), .val (.ref b187), .val (.ref b192), .unset, .unset, .unset, .unset, .unset, .unset] [(.int pr), (.ref b187), (.ref b196), (.ref b196)])) _
    refine XS.iload X196.here hx rfl (hb hby at_86) rfl ?_
    refine XS.aload X196.here hx rfl (hb hby at_88) rfl rfl ?_
    exact k
  obtain ⟨_, _, ⟨T198, L198, k198, n198⟩, -, X198, ⟨Lc198, hQ198, l198, y198, z198⟩, st198⟩ := X196.specialBack hx (y := (⟨"com/example/mutatune/mutatune/engine/UniversalSampling", "<init>", "([DIILcom/example/mutatune/mutatune/engine/SeededRandom;)V"⟩ : MethodName)) rfl hown (mvT hZ (hw _ (List.mem_of_getElem? (i := 28) rfl))) (mvT hZ (hw _ (List.mem_of_getElem? (i := 29) rfl))) (mvT hZ (hw _ (List.mem_of_getElem? (i := 30) rfl))) (by decide) (backOf (W := 1) (rm4 l Z a0 hw [] b196 b187 pr sg b192 na nb 2 1 ai bi (FP.i2d (ct - (1 : Int32))) (own_mix (p4 + (-7046029254386353131 : Int64))) (own_mix ((p4 + (-7046029254386353131 : Int64)) + (-7046029254386353131 : Int64))) (own_mix (((p4 + (-7046029254386353131 : Int64)) + (-7046029254386353131 : Int64)) + (-7046029254386353131 : Int64))) (own_mix ((((p4 + (-7046029254386353131 : Int64)) + (-7046029254386353131 : Int64)) + (-7046029254386353131 : Int64)) + (-7046029254386353131 : Int64))) h196 n0 Z5 G1 G2 A196 gu gra (V3.ext E196) (R194.ext E196) NZ hct0 (by decide) (by decide) hab hb4 hA hB hAB zb hpr (by decide) (by decide) (by decide)) hZ (hw _ (List.mem_of_getElem? (i := 30) rfl)) (hw _ (List.mem_of_getElem? (i := 27) rfl)) (by decide) (by decide)) (g := (mkF m 90 #[.val (.int p1), .val (.int p2), .val (.int p3), .val (.long p4), .second, .val (.int pr), .val (.int sg), .val (.int ct), .val (.int ai), .val (.int bi), .val (.ref b187), .val (.ref b192), .unset, .unset, .unset, .unset, .unset, .unset] [(.ref b192), (.int sg), (.int pr), (.ref b187), (.ref b196), (.ref b196)])) rfl (by rw [hml]; rfl) (Steps.refl _) (a := b196) (argsL := [(.ref b187), (.int pr), (.int sg), (.ref b192)]) (rest := [(.ref b196)]) (lenOf pd9 rfl) rfl (by show 2 * 0 + _ ≤ _; exact Nat.le_of_eq rfl) (hb hby at_90) (fun _ _ => ⟨rfl, e196, (by decide : 3 + 1 ≤ _), (by decide : 10 + 6 ≤ _)⟩)
  dsimp only [Pt.U, Pt.locs, Pt.cells, Pt.slots] at X198 l198 y198 z198 st198 hQ198
  subst l198 y198 z198
  obtain ⟨rfl, N198q, r, q, U198, hq, fr198, s198⟩ := hQ198
  have N198 := Fr.app N194 N198q
  have C198 : ∀ t, Steps p.tables e below (T198.setTop (mkF m 93 #[.val (.int p1), .val (.int p2), .val (.int p3), .val (.long p4), .second, .val (.int pr), .val (.int sg), .val (.int ct), .val (.int ai), .val (.int bi), .val (.ref b187), .val (.ref b192), .unset, .unset, .unset, .unset, .unset, .unset] [(.ref b196)])) t → Steps p.tables e below (s₁.setTop (entryFrame m #[(.int p1), (.int p2), (.int p3), (.long p4)] maxLocals)) t := fun t k => C197 t (st198.trans k)
  have Z6 : n0 ≤ T198.heap.size := Nat.le_trans Z5 s198
  obtain ⟨y0, hy0⟩ : ∃ y : Int32, y = (if 0 = q then ai else bi) := ⟨_, rfl⟩
  obtain ⟨y1, hy1⟩ : ∃ y : Int32, y = (if 1 = q then ai else bi) := ⟨_, rfl⟩
  have C199 : ∀ t, Steps p.tables e below (T198.setTop (mkF m 99 #[.val (.int p1), .val (.int p2), .val (.int p3), .val (.long p4), .second, .val (.int pr), .val (.int sg), .val (.int ct), .val (.int ai), .val (.int bi), .val (.ref b187), .val (.ref b192), .val (.ref b196), .unset, .unset, .unset, .unset, .unset] [(.ref b192), (.ref b196)])) t → Steps p.tables e below (s₁.setTop (entryFrame m #[(.int p1), (.int p2), (.int p3), (.long p4)] maxLocals)) t := by
    intro t k
    refine C198 t ?_
    refine XS.astore X198.here hx rfl (hb hby at_93) rfl rfl (l' := #[.val (.int p1), .val (.int p2), .val (.int p3), .val (.long p4), .second, .val (.int pr), .val (.int sg), .val (.int ct), .val (.int ai), .val (.int bi), .val (.ref b187), .val (.ref b192), .val (.ref b196), .unset, .unset, .unset, .unset, .unset]) rfl ?_
    refine XS.aload X198.here hx rfl (hb hby at_95) rfl rfl ?_
    refine XS.aload X198.here hx rfl (hb hby at_97) rfl rfl ?_
    exact k
  obtain ⟨cq200, kq200, q200a, q200b, q200c⟩ := isOf hZ rfl U198.1
  obtain ⟨_, _, ⟨T200, L200, k200, n200⟩, -, X200, ⟨Lc200, hQ200, l200, y200, z200⟩, st200⟩ := X198.virtualBack hx (y := (⟨"com/example/mutatune/mutatune/engine/UniversalSampling", "pair", "(Lcom/example/mutatune/mutatune/engine/SeededRandom;)[I"⟩ : MethodName)) (z := (⟨"com/example/mutatune/mutatune/engine/UniversalSampling", "pair", "(Lcom/example/mutatune/mutatune/engine/SeededRandom;)[I"⟩ : MethodName)) hown (mvT hZ (hw _ (List.mem_of_getElem? (i := 67) rfl))) (mvT hZ (hw _ (List.mem_of_getElem? (i := 68) rfl))) (notFace_of_selects (args := #[]) (mvT hZ (hw _ (List.mem_of_getElem? (i := 70) rfl)))) (mvT hZ (hw _ (List.mem_of_getElem? (i := 70) rfl))) (mvT hZ (hw _ (List.mem_of_getElem? (i := 69) rfl))) (by decide) (backOf (W := 0) (rm12 l Z a0 hw [] b196 b192 r 2 0 1 2 0 q ai bi y0 y1 T198.heap n0 Z6 U198 gu rfl rfl (by decide) (by decide) (by decide) hy0 hy1) hZ (hw _ (List.mem_of_getElem? (i := 71) rfl)) (hw _ (List.mem_of_getElem? (i := 27) rfl)) (by decide) (by decide)) q200a q200c (g := (mkF m 99 #[.val (.int p1), .val (.int p2), .val (.int p3), .val (.long p4), .second, .val (.int pr), .val (.int sg), .val (.int ct), .val (.int ai), .val (.int bi), .val (.ref b187), .val (.ref b192), .val (.ref b196), .unset, .unset, .unset, .unset, .unset] [(.ref b192), (.ref b196)])) rfl (by rw [hml]; rfl) (Steps.refl _) (argsL := [(.ref b192)]) (rest := []) (lenOf pd10 rfl) rfl (by show 2 * 0 + _ ≤ _; exact Nat.le_of_eq rfl) (hb hby at_99) (fun _ _ => ⟨rfl, rfl, (by decide : 4 + 1 ≤ _), (by decide : 16 + 2 ≤ _)⟩)
  dsimp only [Pt.U, Pt.locs, Pt.cells, Pt.slots] at X200 l200 y200 z200 st200 hQ200
  subst l200 y200 z200
  obtain ⟨pa200, rfl, N200q, P200, U200, fp200, K200⟩ := hQ200
  have N200 := Fr.app N198 N200q
  have C200 : ∀ t, Steps p.tables e below (T200.setTop (mkF m 102 #[.val (.int p1), .val (.int p2), .val (.int p3), .val (.long p4), .second, .val (.int pr), .val (.int sg), .val (.int ct), .val (.int ai), .val (.int bi), .val (.ref b187), .val (.ref b192), .val (.ref b196), .unset, .unset, .unset, .unset, .unset] [(.ref pa200)])) t → Steps p.tables e below (s₁.setTop (entryFrame m #[(.int p1), (.int p2), (.int p3), (.long p4)] maxLocals)) t := fun t k => C199 t (st200.trans k)
  have Z200 : n0 ≤ T200.heap.size := Nat.le_trans Z6 K200.1
  have C201 : ∀ t, Steps p.tables e below (T200.setTop (mkF m 121 #[.val (.int p1), .val (.int p2), .val (.int p3), .val (.long p4), .second, .val (.int pr), .val (.int sg), .val (.int ct), .val (.int ai), .val (.int bi), .val (.ref b187), .val (.ref b192), .val (.ref b196), .val (.ref pa200), .unset, .unset, .unset, .unset] [(.int (2 : Int32))])) t → Steps p.tables e below (s₁.setTop (entryFrame m #[(.int p1), (.int p2), (.int p3), (.long p4)] maxLocals)) t := by
    intro t k
    refine C200 t ?_
    refine XS.astore X200.here hx rfl (hb hby at_102) rfl rfl (l' := #[.val (.int p1), .val (.int p2), .val (.int p3), .val (.long p4), .second, .val (.int pr), .val (.int sg), .val (.int ct), .val (.int ai), .val (.int bi), .val (.ref b187), .val (.ref b192), .val (.ref b196), .val (.ref pa200), .unset, .unset, .unset, .unset]) rfl ?_
    refine XS.iload X200.here hx rfl (hb hby at_104) rfl ?_
    refine XS.iconst X200.here hx rfl (hb hby at_106) ?_
    show Steps p.tables e below (T200.setTop (mkF m 107 #[.val (.int p1), .val (.int p2), .val (.int p3), .val (.long p4), .second, .val (.int pr), .val (.int sg), .val (.int ct), .val (.int ai), .val (.int bi), .val (.ref b187), .val (.ref b192), .val (.ref b196), .val (.ref pa200), .unset, .unset, .unset, .unset] [(.int (2 : Int32)), (.int pr)])) _
    refine XS.icmpYes X200.here hx rfl (pc0 := 107) (pc' := 120) rfl (hb hby at_107) rfl (XT.ii_lt_t (by rw [own_lt32, hpr]; decide)) (by decide) (by decide) ?_
    refine XS.iconst X200.here hx rfl (hb hby at_120) ?_
    exact k
  obtain ⟨T202, h202, k202, X202, e202, E202, A202, st202⟩ := newP X200 hx hZ (hw _ (List.mem_of_getElem? (i := 50) rfl)) rfl (g := (mkF m 121 #[.val (.int p1), .val (.int p2), .val (.int p3), .val (.long p4), .second, .val (.int pr), .val (.int sg), .val (.int ct), .val (.int ai), .val (.int bi), .val (.ref b187), .val (.ref b192), .val (.ref b196), .val (.ref pa200), .unset, .unset, .unset, .unset] [(.int (2 : Int32))])) rfl (hb hby at_121) rfl (by decide) (cap := 2) (by decide) (by decide) (by decide) (by decide)
  obtain ⟨b202, g202⟩ : ∃ z, z = T200.heap.size := ⟨_, rfl⟩
  rw [← g202] at A202 st202
  have C202 : ∀ t, Steps p.tables e below (T202.setTop (mkF m 123 #[.val (.int p1), .val (.int p2), .val (.int p3), .val (.long p4), .second, .val (.int pr), .val (.int sg), .val (.int ct), .val (.int ai), .val (.int bi), .val (.ref b187), .val (.ref b192), .val (.ref b196), .val (.ref pa200), .unset, .unset, .unset, .unset] [(.ref b202)])) t → Steps p.tables e below (s₁.setTop (entryFrame m #[(.int p1), (.int p2), (.int p3), (.long p4)] maxLocals)) t := fun t k => C201 t (st202 t k)
  have B0 : OwnA Z h202 b202 .int 2 (fun _ => .int 0) := OwnA.new A202 rfl
  have gpb : n0 ≤ b202 := Nat.le_trans Z200 (Nat.le_of_eq g202.symm)
  have C203 : ∀ t, Steps p.tables e below (T202.setTop (mkF m 127 #[.val (.int p1), .val (.int p2), .val (.int p3), .val (.long p4), .second, .val (.int pr), .val (.int sg), .val (.int ct), .val (.int ai), .val (.int bi), .val (.ref b187), .val (.ref b192), .val (.ref b196), .val (.ref pa200), .unset, .unset, .unset, .unset] [(.int bi), (.int (0 : Int32)), (.ref b202), (.ref b202)])) t → Steps p.tables e below (s₁.setTop (entryFrame m #[(.int p1), (.int p2), (.int p3), (.long p4)] maxLocals)) t := by
    intro t k
    refine C202 t ?_
    refine XS.dup X202.here hx rfl (hb hby at_123) rfl rfl ?_
    refine XS.iconst X202.here hx rfl (hb hby at_124) ?_
    refine XS.iload X202.here hx rfl (hb hby at_125) rfl ?_
    exact k
  obtain ⟨c204, A204, S204, V204⟩ := id B0
  obtain ⟨T204, h204, X204, e204, W204, st204⟩ := stI X202 hx hZ e202 A204 (j := (0 : Int32)) (own_in own_i20 S204) (g := (mkF m 127 #[.val (.int p1), .val (.int p2), .val (.int p3), .val (.long p4), .second, .val (.int pr), .val (.int sg), .val (.int ct), .val (.int ai), .val (.int bi), .val (.ref b187), .val (.ref b192), .val (.ref b196), .val (.ref pa200), .unset, .unset, .unset, .unset] [(.int bi), (.int (0 : Int32)), (.ref b202), (.ref b202)])) rfl rfl (hb hby at_127)
  have N204 := Fr.snoc X204 N200 gpb
  have C204 : ∀ t, Steps p.tables e below (T204.setTop (mkF m 128 #[.val (.int p1), .val (.int p2), .val (.int p3), .val (.long p4), .second, .val (.int pr), .val (.int sg), .val (.int ct), .val (.int ai), .val (.int bi), .val (.ref b187), .val (.ref b192), .val (.ref b196), .val (.ref pa200), .unset, .unset, .unset, .unset] [(.ref b202)])) t → Steps p.tables e below (s₁.setTop (entryFrame m #[(.int p1), (.int p2), (.int p3), (.long p4)] maxLocals)) t := fun t k => C203 t (st204 t k)
  have B1 := B0.set W204
  have C205 : ∀ t, Steps p.tables e below (T204.setTop (mkF m 132 #[.val (.int p1), .val (.int p2), .val (.int p3), .val (.long p4), .second, .val (.int pr), .val (.int sg), .val (.int ct), .val (.int ai), .val (.int bi), .val (.ref b187), .val (.ref b192), .val (.ref b196), .val (.ref pa200), .unset, .unset, .unset, .unset] [(.int bi), (.int (1 : Int32)), (.ref b202), (.ref b202)])) t → Steps p.tables e below (s₁.setTop (entryFrame m #[(.int p1), (.int p2), (.int p3), (.long p4)] maxLocals)) t := by
    intro t k
    refine C204 t ?_
    refine XS.dup X204.here hx rfl (hb hby at_128) rfl rfl ?_
    refine XS.iconst X204.here hx rfl (hb hby at_129) ?_
    refine XS.iload X204.here hx rfl (hb hby at_130) rfl ?_
    exact k
  obtain ⟨c206, A206, S206, V206⟩ := id B1
  obtain ⟨T206, h206, X206, e206, W206, st206⟩ := stI X204 hx hZ e204 A206 (j := (1 : Int32)) (own_in own_i21 S206) (g := (mkF m 132 #[.val (.int p1), .val (.int p2), .val (.int p3), .val (.long p4), .second, .val (.int pr), .val (.int sg), .val (.int ct), .val (.int ai), .val (.int bi), .val (.ref b187), .val (.ref b192), .val (.ref b196), .val (.ref pa200), .unset, .unset, .unset, .unset] [(.int bi), (.int (1 : Int32)), (.ref b202), (.ref b202)])) rfl rfl (hb hby at_132)
  have N206 := Fr.snoc X206 N204 gpb
  have C206 : ∀ t, Steps p.tables e below (T206.setTop (mkF m 133 #[.val (.int p1), .val (.int p2), .val (.int p3), .val (.long p4), .second, .val (.int pr), .val (.int sg), .val (.int ct), .val (.int ai), .val (.int bi), .val (.ref b187), .val (.ref b192), .val (.ref b196), .val (.ref pa200), .unset, .unset, .unset, .unset] [(.ref b202)])) t → Steps p.tables e below (s₁.setTop (entryFrame m #[(.int p1), (.int p2), (.int p3), (.long p4)] maxLocals)) t := fun t k => C205 t (st206 t k)
  have B2 : OwnA Z h206 b202 .int 2 (fun i => .int (if i = 0 then bi else bi)) := (B1.set W206).congr (fun i hi => own_two2 hi)
  have u_b : b196 ≠ b202 := own_natne (by have y := own_natlt U200.1.lt; omega)
  have r_b : r ≠ b202 := own_natne (by have y := own_natlt U200.2.2.2.lt; omega)
  have p_b : pa200 ≠ b202 := own_natne (by have y := own_natlt P200.lt; omega)
  have UB := ((U200.ext E202).keep (Keep.of_wr W204) (own_nin1 u_b) (own_nin1 r_b)).keep (Keep.of_wr W206) (own_nin1 u_b) (own_nin1 r_b)
  have PB := ((P200.ext E202).other W204 p_b).other W206 p_b
  have ZB : n0 ≤ h206.size := by rw [Wr.size W206, Wr.size W204]; exact Nat.le_trans Z200 E202.1
  obtain ⟨c207, A207, S207, V207⟩ := id PB
  obtain ⟨c208, A208, S208, V208⟩ := id B2
  obtain ⟨c209, A209, S209, V209⟩ := id PB
  obtain ⟨t0, et0, ht0⟩ := own_tal hAB hy0
  have C210 : ∀ t, Steps p.tables e below (T206.setTop (mkF m 209 #[.val (.int p1), .val (.int p2), .val (.int p3), .val (.long p4), .second, .val (.int pr), .val (.int sg), .val (.int ct), .val (.int ai), .val (.int bi), .val (.ref b187), .val (.ref b192), .val (.ref b196), .val (.ref pa200), .val (.ref b202), .val (.int bi), .val (.int bi), .unset] [(.int bi), (.int ai), (.int y0)])) t → Steps p.tables e below (s₁.setTop (entryFrame m #[(.int p1), (.int p2), (.int p3), (.long p4)] maxLocals)) t := by
    intro t k
    refine C206 t ?_
    refine XS.astore X206.here hx rfl (hb hby at_133) rfl rfl (l' := #[.val (.int p1), .val (.int p2), .val (.int p3), .val (.long p4), .second, .val (.int pr), .val (.int sg), .val (.int ct), .val (.int ai), .val (.int bi), .val (.ref b187), .val (.ref b192), .val (.ref b196), .val (.ref pa200), .val (.ref b202), .unset, .unset, .unset]) rfl ?_
    refine XS.iload X206.here hx rfl (hb hby at_135) rfl ?_
    refine XS.iconst X206.here hx rfl (hb hby at_137) ?_
    show Steps p.tables e below (T206.setTop (mkF m 138 #[.val (.int p1), .val (.int p2), .val (.int p3), .val (.long p4), .second, .val (.int pr), .val (.int sg), .val (.int ct), .val (.int ai), .val (.int bi), .val (.ref b187), .val (.ref b192), .val (.ref b196), .val (.ref pa200), .val (.ref b202), .unset, .unset, .unset] [(.int (1 : Int32)), (.int sg)])) _
    refine XS.icmpYes X206.here hx rfl (pc0 := 138) (pc' := 151) rfl (hb hby at_138) rfl (XT.ii_lt_t (by rw [own_lt32, hsg]; decide)) (by decide) (by decide) ?_
    refine XS.iload X206.here hx rfl (hb hby at_151) rfl ?_
    refine XS.istore X206.here hx rfl (hb hby at_153) rfl (l' := #[.val (.int p1), .val (.int p2), .val (.int p3), .val (.long p4), .second, .val (.int pr), .val (.int sg), .val (.int ct), .val (.int ai), .val (.int bi), .val (.ref b187), .val (.ref b192), .val (.ref b196), .val (.ref pa200), .val (.ref b202), .val (.int bi), .unset, .unset]) rfl ?_
    refine XS.iload X206.here hx rfl (hb hby at_155) rfl ?_
    show Steps p.tables e below (T206.setTop (mkF m 157 #[.val (.int p1), .val (.int p2), .val (.int p3), .val (.long p4), .second, .val (.int pr), .val (.int sg), .val (.int ct), .val (.int ai), .val (.int bi), .val (.ref b187), .val (.ref b192), .val (.ref b196), .val (.ref pa200), .val (.ref b202), .val (.int bi), .unset, .unset] [(.int sg)])) _
    refine XS.iconst X206.here hx rfl (hb hby at_157) ?_
    refine XS.icmpYes X206.here hx rfl (pc0 := 158) (pc' := 171) rfl (hb hby at_158) rfl (XT.ii_lt_t (by rw [own_lt32, hsg]; decide)) (by decide) (by decide) ?_
    refine XS.iload X206.here hx rfl (hb hby at_171) rfl ?_
    refine XS.istore X206.here hx rfl (hb hby at_173) rfl (l' := #[.val (.int p1), .val (.int p2), .val (.int p3), .val (.long p4), .second, .val (.int pr), .val (.int sg), .val (.int ct), .val (.int ai), .val (.int bi), .val (.ref b187), .val (.ref b192), .val (.ref b196), .val (.ref pa200), .val (.ref b202), .val (.int bi), .val (.int bi), .unset]) rfl ?_
    show Steps p.tables e below (T206.setTop (mkF m 175 #[.val (.int p1), .val (.int p2), .val (.int p3), .val (.long p4), .second, .val (.int pr), .val (.int sg), .val (.int ct), .val (.int ai), .val (.int bi), .val (.ref b187), .val (.ref b192), .val (.ref b196), .val (.ref pa200), .val (.ref b202), .val (.int bi), .val (.int bi), .unset] [])) _
    refine XS.aload X206.here hx rfl (hb hby at_175) rfl rfl ?_
    refine XS.ifnullNo X206.here hx rfl (hb hby at_177) rfl  ?_
    refine XS.aload X206.here hx rfl (hb hby at_180) rfl rfl ?_
    refine XS.ifnullNo X206.here hx rfl (hb hby at_182) rfl  ?_
    show Steps p.tables e below (T206.setTop (mkF m 185 #[.val (.int p1), .val (.int p2), .val (.int p3), .val (.long p4), .second, .val (.int pr), .val (.int sg), .val (.int ct), .val (.int ai), .val (.int bi), .val (.ref b187), .val (.ref b192), .val (.ref b196), .val (.ref pa200), .val (.ref b202), .val (.int bi), .val (.int bi), .unset] [])) _
    refine XS.aload X206.here hx rfl (hb hby at_185) rfl rfl ?_
    refine X206.arraylength hx (by rw [e206]; exact A207.1) (State.isArrayOf_alike hZ.alike A207.2.1) (g := (mkF m 187 #[.val (.int p1), .val (.int p2), .val (.int p3), .val (.long p4), .second, .val (.int pr), .val (.int sg), .val (.int ct), .val (.int ai), .val (.int bi), .val (.ref b187), .val (.ref b192), .val (.ref b196), .val (.ref pa200), .val (.ref b202), .val (.int bi), .val (.int bi), .unset] [(.ref pa200)])) rfl rfl (hb hby at_187) _ ?_
    rw [S207, (rfl : (2 : Nat).toInt32 = (2 : Int32))]
    refine XS.iconst X206.here hx rfl (hb hby at_188) ?_
    refine XS.icmpNo X206.here hx rfl (hb hby at_189) rfl (XT.ii_ne_f rfl) ?_
    show Steps p.tables e below (T206.setTop (mkF m 192 #[.val (.int p1), .val (.int p2), .val (.int p3), .val (.long p4), .second, .val (.int pr), .val (.int sg), .val (.int ct), .val (.int ai), .val (.int bi), .val (.ref b187), .val (.ref b192), .val (.ref b196), .val (.ref pa200), .val (.ref b202), .val (.int bi), .val (.int bi), .unset] [])) _
    refine XS.aload X206.here hx rfl (hb hby at_192) rfl rfl ?_
    refine X206.arraylength hx (by rw [e206]; exact A208.1) (State.isArrayOf_alike hZ.alike A208.2.1) (g := (mkF m 194 #[.val (.int p1), .val (.int p2), .val (.int p3), .val (.long p4), .second, .val (.int pr), .val (.int sg), .val (.int ct), .val (.int ai), .val (.int bi), .val (.ref b187), .val (.ref b192), .val (.ref b196), .val (.ref pa200), .val (.ref b202), .val (.int bi), .val (.int bi), .unset] [(.ref b202)])) rfl rfl (hb hby at_194) _ ?_
    rw [S208, (rfl : (2 : Nat).toInt32 = (2 : Int32))]
    refine XS.iconst X206.here hx rfl (hb hby at_195) ?_
    refine XS.icmpYes X206.here hx rfl (pc0 := 196) (pc' := 201) rfl (hb hby at_196) rfl (XT.ii_eq_t rfl) (by decide) (by decide) ?_
    show Steps p.tables e below (T206.setTop (mkF m 201 #[.val (.int p1), .val (.int p2), .val (.int p3), .val (.long p4), .second, .val (.int pr), .val (.int sg), .val (.int ct), .val (.int ai), .val (.int bi), .val (.ref b187), .val (.ref b192), .val (.ref b196), .val (.ref pa200), .val (.ref b202), .val (.int bi), .val (.int bi), .unset] [])) _
    refine XS.aload X206.here hx rfl (hb hby at_201) rfl rfl ?_
    refine XS.iconst X206.here hx rfl (hb hby at_203) ?_
    refine X206.iaload hx (j := (0 : Int32)) (v := (.int y0)) (by rw [e206]; exact A209.1) (State.isArrayOf_alike hZ.alike A209.2.1) A209.2.2 (own_in own_i20 S209) (V209 _ (own_i20).2) (g := (mkF m 204 #[.val (.int p1), .val (.int p2), .val (.int p3), .val (.long p4), .second, .val (.int pr), .val (.int sg), .val (.int ct), .val (.int ai), .val (.int bi), .val (.ref b187), .val (.ref b192), .val (.ref b196), .val (.ref pa200), .val (.ref b202), .val (.int bi), .val (.int bi), .unset] [(.int (0 : Int32)), (.ref pa200)])) rfl rfl (hb hby at_204) _ ?_
    refine XS.iload X206.here hx rfl (hb hby at_205) rfl ?_
    show Steps p.tables e below (T206.setTop (mkF m 207 #[.val (.int p1), .val (.int p2), .val (.int p3), .val (.long p4), .second, .val (.int pr), .val (.int sg), .val (.int ct), .val (.int ai), .val (.int bi), .val (.ref b187), .val (.ref b192), .val (.ref b196), .val (.ref pa200), .val (.ref b202), .val (.int bi), .val (.int bi), .unset] [(.int ai), (.int y0)])) _
    refine XS.iload X206.here hx rfl (hb hby at_207) rfl ?_
    exact k
  obtain ⟨_, _, ⟨T211, L211, k211, n211⟩, -, X211, ⟨Lc211, hQ211, l211, y211, z211⟩, st211⟩ := Jvm.LawKit.callS X206 hx (y := (⟨"com/example/mutatune/mutatune/engine/UniversalSamplingPairPinLaw", "tally", "(III)I"⟩ : MethodName)) hown (mvT hZ (hw _ (List.mem_of_getElem? (i := 74) rfl))) (mvT hZ (hw _ (List.mem_of_getElem? (i := 75) rfl))) (mvT hZ (hw _ (List.mem_of_getElem? (i := 76) rfl))) (mvT hZ (hw _ (List.mem_of_getElem? (i := 77) rfl))) (by decide) (backOf (W := 0) (rm13 l Z a0 hw [] y0 ai bi t0 h206 n0 ZB ht0) hZ (hw _ (List.mem_of_getElem? (i := 77) rfl)) (hw _ (List.mem_of_getElem? (i := 76) rfl)) (by decide) (by decide)) (g := (mkF m 209 #[.val (.int p1), .val (.int p2), .val (.int p3), .val (.long p4), .second, .val (.int pr), .val (.int sg), .val (.int ct), .val (.int ai), .val (.int bi), .val (.ref b187), .val (.ref b192), .val (.ref b196), .val (.ref pa200), .val (.ref b202), .val (.int bi), .val (.int bi), .unset] [(.int bi), (.int ai), (.int y0)])) rfl (by rw [hml]; rfl) (argsL := [(.int y0), (.int ai), (.int bi)]) (rest := []) (lenOf pd11 rfl) rfl (by show 2 * 0 + _ ≤ _; exact Nat.le_of_eq rfl) (hb hby at_209) (fun _ _ => ⟨rfl, e206, (by decide : 6 + 0 ≤ _), (by decide : 20 + 0 ≤ _)⟩)
  dsimp only [Pt.U, Pt.locs, Pt.cells, Pt.slots] at X211 l211 y211 z211 st211 hQ211
  subst l211 y211 z211
  obtain ⟨rfl, N211q, q211⟩ := hQ211
  have N211 := Fr.app N206 N211q
  have C211 : ∀ t, Steps p.tables e below (T211.setTop (mkF m 212 #[.val (.int p1), .val (.int p2), .val (.int p3), .val (.long p4), .second, .val (.int pr), .val (.int sg), .val (.int ct), .val (.int ai), .val (.int bi), .val (.ref b187), .val (.ref b192), .val (.ref b196), .val (.ref pa200), .val (.ref b202), .val (.int bi), .val (.int bi), .unset] [(.int t0)])) t → Steps p.tables e below (s₁.setTop (entryFrame m #[(.int p1), (.int p2), (.int p3), (.long p4)] maxLocals)) t := fun t k => C210 t (st211 t k)
  obtain ⟨c212, A212, S212, V212⟩ := id PB
  obtain ⟨t1, et1, ht1⟩ := own_tal hAB hy1
  have C213 : ∀ t, Steps p.tables e below (T211.setTop (mkF m 220 #[.val (.int p1), .val (.int p2), .val (.int p3), .val (.long p4), .second, .val (.int pr), .val (.int sg), .val (.int ct), .val (.int ai), .val (.int bi), .val (.ref b187), .val (.ref b192), .val (.ref b196), .val (.ref pa200), .val (.ref b202), .val (.int bi), .val (.int bi), .unset] [(.int bi), (.int ai), (.int y1), (.int t0)])) t → Steps p.tables e below (s₁.setTop (entryFrame m #[(.int p1), (.int p2), (.int p3), (.long p4)] maxLocals)) t := by
    intro t k
    refine C211 t ?_
    refine XS.aload X211.here hx rfl (hb hby at_212) rfl rfl ?_
    refine XS.iconst X211.here hx rfl (hb hby at_214) ?_
    refine X211.iaload hx (j := (1 : Int32)) (v := (.int y1)) (by rw [q211]; exact A212.1) (State.isArrayOf_alike hZ.alike A212.2.1) A212.2.2 (own_in own_i21 S212) (V212 _ (own_i21).2) (g := (mkF m 215 #[.val (.int p1), .val (.int p2), .val (.int p3), .val (.long p4), .second, .val (.int pr), .val (.int sg), .val (.int ct), .val (.int ai), .val (.int bi), .val (.ref b187), .val (.ref b192), .val (.ref b196), .val (.ref pa200), .val (.ref b202), .val (.int bi), .val (.int bi), .unset] [(.int (1 : Int32)), (.ref pa200), (.int t0)])) rfl rfl (hb hby at_215) _ ?_
    show Steps p.tables e below (T211.setTop (mkF m 216 #[.val (.int p1), .val (.int p2), .val (.int p3), .val (.long p4), .second, .val (.int pr), .val (.int sg), .val (.int ct), .val (.int ai), .val (.int bi), .val (.ref b187), .val (.ref b192), .val (.ref b196), .val (.ref pa200), .val (.ref b202), .val (.int bi), .val (.int bi), .unset] [(.int y1), (.int t0)])) _
    refine XS.iload X211.here hx rfl (hb hby at_216) rfl ?_
    refine XS.iload X211.here hx rfl (hb hby at_218) rfl ?_
    exact k
  obtain ⟨_, _, ⟨T214, L214, k214, n214⟩, -, X214, ⟨Lc214, hQ214, l214, y214, z214⟩, st214⟩ := Jvm.LawKit.callS X211 hx (y := (⟨"com/example/mutatune/mutatune/engine/UniversalSamplingPairPinLaw", "tally", "(III)I"⟩ : MethodName)) hown (mvT hZ (hw _ (List.mem_of_getElem? (i := 74) rfl))) (mvT hZ (hw _ (List.mem_of_getElem? (i := 75) rfl))) (mvT hZ (hw _ (List.mem_of_getElem? (i := 76) rfl))) (mvT hZ (hw _ (List.mem_of_getElem? (i := 77) rfl))) (by decide) (backOf (W := 1) (rm13 l Z a0 hw [] y1 ai bi t1 h206 n0 ZB ht1) hZ (hw _ (List.mem_of_getElem? (i := 77) rfl)) (hw _ (List.mem_of_getElem? (i := 76) rfl)) (by decide) (by decide)) (g := (mkF m 220 #[.val (.int p1), .val (.int p2), .val (.int p3), .val (.long p4), .second, .val (.int pr), .val (.int sg), .val (.int ct), .val (.int ai), .val (.int bi), .val (.ref b187), .val (.ref b192), .val (.ref b196), .val (.ref pa200), .val (.ref b202), .val (.int bi), .val (.int bi), .unset] [(.int bi), (.int ai), (.int y1), (.int t0)])) rfl (by rw [hml]; rfl) (argsL := [(.int y1), (.int ai), (.int bi)]) (rest := [(.int t0)]) (lenOf pd11 rfl) rfl (by show 2 * 0 + _ ≤ _; exact Nat.le_of_eq rfl) (hb hby at_220) (fun _ _ => ⟨rfl, q211, (by decide : 6 + 0 ≤ _), (by decide : 20 + 0 ≤ _)⟩)
  dsimp only [Pt.U, Pt.locs, Pt.cells, Pt.slots] at X214 l214 y214 z214 st214 hQ214
  subst l214 y214 z214
  obtain ⟨rfl, N214q, q214⟩ := hQ214
  have N214 := Fr.app N211 N214q
  have C214 : ∀ t, Steps p.tables e below (T214.setTop (mkF m 223 #[.val (.int p1), .val (.int p2), .val (.int p3), .val (.long p4), .second, .val (.int pr), .val (.int sg), .val (.int ct), .val (.int ai), .val (.int bi), .val (.ref b187), .val (.ref b192), .val (.ref b196), .val (.ref pa200), .val (.ref b202), .val (.int bi), .val (.int bi), .unset] [(.int t1), (.int t0)])) t → Steps p.tables e below (s₁.setTop (entryFrame m #[(.int p1), (.int p2), (.int p3), (.long p4)] maxLocals)) t := fun t k => C213 t (st214 t k)
  obtain ⟨c215, A215, S215, V215⟩ := id B2
  have ht2 : (bi = ai ∧ (0 : Int32) = 1) ∨ (¬ bi = ai ∧ bi = bi ∧ (0 : Int32) = 0) := Or.inr ⟨fun y => hAB y.symm, rfl, rfl⟩
  have C216 : ∀ t, Steps p.tables e below (T214.setTop (mkF m 232 #[.val (.int p1), .val (.int p2), .val (.int p3), .val (.long p4), .second, .val (.int pr), .val (.int sg), .val (.int ct), .val (.int ai), .val (.int bi), .val (.ref b187), .val (.ref b192), .val (.ref b196), .val (.ref pa200), .val (.ref b202), .val (.int bi), .val (.int bi), .unset] [(.int bi), (.int ai), (.int bi), (.int (t0 + t1))])) t → Steps p.tables e below (s₁.setTop (entryFrame m #[(.int p1), (.int p2), (.int p3), (.long p4)] maxLocals)) t := by
    intro t k
    refine C214 t ?_
    refine XS.iadd X214.here hx rfl (hb hby at_223) rfl ?_
    refine XS.aload X214.here hx rfl (hb hby at_224) rfl rfl ?_
    refine XS.iconst X214.here hx rfl (hb hby at_226) ?_
    show Steps p.tables e below (T214.setTop (mkF m 227 #[.val (.int p1), .val (.int p2), .val (.int p3), .val (.long p4), .second, .val (.int pr), .val (.int sg), .val (.int ct), .val (.int ai), .val (.int bi), .val (.ref b187), .val (.ref b192), .val (.ref b196), .val (.ref pa200), .val (.ref b202), .val (.int bi), .val (.int bi), .unset] [(.int (0 : Int32)), (.ref b202), (.int (t0 + t1))])) _
    refine X214.iaload hx (j := (0 : Int32)) (v := (.int bi)) (by rw [q214]; exact A215.1) (State.isArrayOf_alike hZ.alike A215.2.1) A215.2.2 (own_in own_i20 S215) (V215 _ (own_i20).2) (g := (mkF m 227 #[.val (.int p1), .val (.int p2), .val (.int p3), .val (.long p4), .second, .val (.int pr), .val (.int sg), .val (.int ct), .val (.int ai), .val (.int bi), .val (.ref b187), .val (.ref b192), .val (.ref b196), .val (.ref pa200), .val (.ref b202), .val (.int bi), .val (.int bi), .unset] [(.int (0 : Int32)), (.ref b202), (.int (t0 + t1))])) rfl rfl (hb hby at_227) _ ?_
    refine XS.iload X214.here hx rfl (hb hby at_228) rfl ?_
    refine XS.iload X214.here hx rfl (hb hby at_230) rfl ?_
    exact k
  obtain ⟨_, _, ⟨T217, L217, k217, n217⟩, -, X217, ⟨Lc217, hQ217, l217, y217, z217⟩, st217⟩ := Jvm.LawKit.callS X214 hx (y := (⟨"com/example/mutatune/mutatune/engine/UniversalSamplingPairPinLaw", "tally", "(III)I"⟩ : MethodName)) hown (mvT hZ (hw _ (List.mem_of_getElem? (i := 74) rfl))) (mvT hZ (hw _ (List.mem_of_getElem? (i := 75) rfl))) (mvT hZ (hw _ (List.mem_of_getElem? (i := 76) rfl))) (mvT hZ (hw _ (List.mem_of_getElem? (i := 77) rfl))) (by decide) (backOf (W := 1) (rm13 l Z a0 hw [] bi ai bi (0 : Int32) h206 n0 ZB ht2) hZ (hw _ (List.mem_of_getElem? (i := 77) rfl)) (hw _ (List.mem_of_getElem? (i := 76) rfl)) (by decide) (by decide)) (g := (mkF m 232 #[.val (.int p1), .val (.int p2), .val (.int p3), .val (.long p4), .second, .val (.int pr), .val (.int sg), .val (.int ct), .val (.int ai), .val (.int bi), .val (.ref b187), .val (.ref b192), .val (.ref b196), .val (.ref pa200), .val (.ref b202), .val (.int bi), .val (.int bi), .unset] [(.int bi), (.int ai), (.int bi), (.int (t0 + t1))])) rfl (by rw [hml]; rfl) (argsL := [(.int bi), (.int ai), (.int bi)]) (rest := [(.int (t0 + t1))]) (lenOf pd11 rfl) rfl (by show 2 * 0 + _ ≤ _; exact Nat.le_of_eq rfl) (hb hby at_232) (fun _ _ => ⟨rfl, q214, (by decide : 6 + 0 ≤ _), (by decide : 20 + 0 ≤ _)⟩)
  dsimp only [Pt.U, Pt.locs, Pt.cells, Pt.slots] at X217 l217 y217 z217 st217 hQ217
  subst l217 y217 z217
  obtain ⟨rfl, N217q, q217⟩ := hQ217
  have N217 := Fr.app N214 N217q
  have C217 : ∀ t, Steps p.tables e below (T217.setTop (mkF m 235 #[.val (.int p1), .val (.int p2), .val (.int p3), .val (.long p4), .second, .val (.int pr), .val (.int sg), .val (.int ct), .val (.int ai), .val (.int bi), .val (.ref b187), .val (.ref b192), .val (.ref b196), .val (.ref pa200), .val (.ref b202), .val (.int bi), .val (.int bi), .unset] [(.int (0 : Int32)), (.int (t0 + t1))])) t → Steps p.tables e below (s₁.setTop (entryFrame m #[(.int p1), (.int p2), (.int p3), (.long p4)] maxLocals)) t := fun t k => C216 t (st217 t k)
  obtain ⟨c218, A218, S218, V218⟩ := id B2
  have ht3 : (bi = ai ∧ (0 : Int32) = 1) ∨ (¬ bi = ai ∧ bi = bi ∧ (0 : Int32) = 0) := Or.inr ⟨fun y => hAB y.symm, rfl, rfl⟩
  have C219 : ∀ t, Steps p.tables e below (T217.setTop (mkF m 244 #[.val (.int p1), .val (.int p2), .val (.int p3), .val (.long p4), .second, .val (.int pr), .val (.int sg), .val (.int ct), .val (.int ai), .val (.int bi), .val (.ref b187), .val (.ref b192), .val (.ref b196), .val (.ref pa200), .val (.ref b202), .val (.int bi), .val (.int bi), .unset] [(.int bi), (.int ai), (.int bi), (.int ((t0 + t1) + (0 : Int32)))])) t → Steps p.tables e below (s₁.setTop (entryFrame m #[(.int p1), (.int p2), (.int p3), (.long p4)] maxLocals)) t := by
    intro t k
    refine C217 t ?_
    refine XS.iadd X217.here hx rfl (hb hby at_235) rfl ?_
    refine XS.aload X217.here hx rfl (hb hby at_236) rfl rfl ?_
    refine XS.iconst X217.here hx rfl (hb hby at_238) ?_
    show Steps p.tables e below (T217.setTop (mkF m 239 #[.val (.int p1), .val (.int p2), .val (.int p3), .val (.long p4), .second, .val (.int pr), .val (.int sg), .val (.int ct), .val (.int ai), .val (.int bi), .val (.ref b187), .val (.ref b192), .val (.ref b196), .val (.ref pa200), .val (.ref b202), .val (.int bi), .val (.int bi), .unset] [(.int (1 : Int32)), (.ref b202), (.int ((t0 + t1) + (0 : Int32)))])) _
    refine X217.iaload hx (j := (1 : Int32)) (v := (.int bi)) (by rw [q217]; exact A218.1) (State.isArrayOf_alike hZ.alike A218.2.1) A218.2.2 (own_in own_i21 S218) (V218 _ (own_i21).2) (g := (mkF m 239 #[.val (.int p1), .val (.int p2), .val (.int p3), .val (.long p4), .second, .val (.int pr), .val (.int sg), .val (.int ct), .val (.int ai), .val (.int bi), .val (.ref b187), .val (.ref b192), .val (.ref b196), .val (.ref pa200), .val (.ref b202), .val (.int bi), .val (.int bi), .unset] [(.int (1 : Int32)), (.ref b202), (.int ((t0 + t1) + (0 : Int32)))])) rfl rfl (hb hby at_239) _ ?_
    refine XS.iload X217.here hx rfl (hb hby at_240) rfl ?_
    refine XS.iload X217.here hx rfl (hb hby at_242) rfl ?_
    exact k
  obtain ⟨_, _, ⟨T220, L220, k220, n220⟩, -, X220, ⟨Lc220, hQ220, l220, y220, z220⟩, st220⟩ := Jvm.LawKit.callS X217 hx (y := (⟨"com/example/mutatune/mutatune/engine/UniversalSamplingPairPinLaw", "tally", "(III)I"⟩ : MethodName)) hown (mvT hZ (hw _ (List.mem_of_getElem? (i := 74) rfl))) (mvT hZ (hw _ (List.mem_of_getElem? (i := 75) rfl))) (mvT hZ (hw _ (List.mem_of_getElem? (i := 76) rfl))) (mvT hZ (hw _ (List.mem_of_getElem? (i := 77) rfl))) (by decide) (backOf (W := 1) (rm13 l Z a0 hw [] bi ai bi (0 : Int32) h206 n0 ZB ht3) hZ (hw _ (List.mem_of_getElem? (i := 77) rfl)) (hw _ (List.mem_of_getElem? (i := 76) rfl)) (by decide) (by decide)) (g := (mkF m 244 #[.val (.int p1), .val (.int p2), .val (.int p3), .val (.long p4), .second, .val (.int pr), .val (.int sg), .val (.int ct), .val (.int ai), .val (.int bi), .val (.ref b187), .val (.ref b192), .val (.ref b196), .val (.ref pa200), .val (.ref b202), .val (.int bi), .val (.int bi), .unset] [(.int bi), (.int ai), (.int bi), (.int ((t0 + t1) + (0 : Int32)))])) rfl (by rw [hml]; rfl) (argsL := [(.int bi), (.int ai), (.int bi)]) (rest := [(.int ((t0 + t1) + (0 : Int32)))]) (lenOf pd11 rfl) rfl (by show 2 * 0 + _ ≤ _; exact Nat.le_of_eq rfl) (hb hby at_244) (fun _ _ => ⟨rfl, q217, (by decide : 6 + 0 ≤ _), (by decide : 20 + 0 ≤ _)⟩)
  dsimp only [Pt.U, Pt.locs, Pt.cells, Pt.slots] at X220 l220 y220 z220 st220 hQ220
  subst l220 y220 z220
  obtain ⟨rfl, N220q, q220⟩ := hQ220
  have N220 := Fr.app N217 N220q
  have C220 : ∀ t, Steps p.tables e below (T220.setTop (mkF m 247 #[.val (.int p1), .val (.int p2), .val (.int p3), .val (.long p4), .second, .val (.int pr), .val (.int sg), .val (.int ct), .val (.int ai), .val (.int bi), .val (.ref b187), .val (.ref b192), .val (.ref b196), .val (.ref pa200), .val (.ref b202), .val (.int bi), .val (.int bi), .unset] [(.int (0 : Int32)), (.int ((t0 + t1) + (0 : Int32)))])) t → Steps p.tables e below (s₁.setTop (entryFrame m #[(.int p1), (.int p2), (.int p3), (.long p4)] maxLocals)) t := fun t k => C219 t (st220 t k)
  have C221 : ∀ t, Steps p.tables e below (T220.setTop (mkF m 253 #[.val (.int p1), .val (.int p2), .val (.int p3), .val (.long p4), .second, .val (.int pr), .val (.int sg), .val (.int ct), .val (.int ai), .val (.int bi), .val (.ref b187), .val (.ref b192), .val (.ref b196), .val (.ref pa200), .val (.ref b202), .val (.int bi), .val (.int bi), .val (.int (((t0 + t1) + (0 : Int32)) + (0 : Int32)))] [(.int (1 : Int32)), (.int (((t0 + t1) + (0 : Int32)) + (0 : Int32)))])) t → Steps p.tables e below (s₁.setTop (entryFrame m #[(.int p1), (.int p2), (.int p3), (.long p4)] maxLocals)) t := by
    intro t k
    refine C220 t ?_
    refine XS.iadd X220.here hx rfl (hb hby at_247) rfl ?_
    refine XS.istore X220.here hx rfl (hb hby at_248) rfl (l' := #[.val (.int p1), .val (.int p2), .val (.int p3), .val (.long p4), .second, .val (.int pr), .val (.int sg), .val (.int ct), .val (.int ai), .val (.int bi), .val (.ref b187), .val (.ref b192), .val (.ref b196), .val (.ref pa200), .val (.ref b202), .val (.int bi), .val (.int bi), .val (.int (((t0 + t1) + (0 : Int32)) + (0 : Int32)))]) rfl ?_
    refine XS.iload X220.here hx rfl (hb hby at_250) rfl ?_
    show Steps p.tables e below (T220.setTop (mkF m 252 #[.val (.int p1), .val (.int p2), .val (.int p3), .val (.long p4), .second, .val (.int pr), .val (.int sg), .val (.int ct), .val (.int ai), .val (.int bi), .val (.ref b187), .val (.ref b192), .val (.ref b196), .val (.ref pa200), .val (.ref b202), .val (.int bi), .val (.int bi), .val (.int (((t0 + t1) + (0 : Int32)) + (0 : Int32)))] [(.int (((t0 + t1) + (0 : Int32)) + (0 : Int32)))])) _
    refine XS.iconst X220.here hx rfl (hb hby at_252) ?_
    exact k
  have hsum : (((t0 + t1) + (0 : Int32)) + (0 : Int32)) = 1 := by
    have hq4 : q = 0 ∨ q = 1 := by omega
    rcases hq4 with g | g <;> subst g et0 et1 <;> rfl
  have C222 : ∀ t, Steps p.tables e below (T220.setTop (mkF m 275 #[.val (.int p1), .val (.int p2), .val (.int p3), .val (.long p4), .second, .val (.int pr), .val (.int sg), .val (.int ct), .val (.int ai), .val (.int bi), .val (.ref b187), .val (.ref b192), .val (.ref b196), .val (.ref pa200), .val (.ref b202), .val (.int bi), .val (.int bi), .val (.int (((t0 + t1) + (0 : Int32)) + (0 : Int32)))] [(.int (1 : Int32))])) t → Steps p.tables e below (s₁.setTop (entryFrame m #[(.int p1), (.int p2), (.int p3), (.long p4)] maxLocals)) t := by
    intro t k
    refine C221 t ?_
    refine XS.icmpNo X220.here hx rfl (hb hby at_253) rfl (XT.ii_ne_f hsum) ?_
    refine XS.iload X220.here hx rfl (hb hby at_256) rfl ?_
    refine XS.iload X220.here hx rfl (hb hby at_258) rfl ?_
    show Steps p.tables e below (T220.setTop (mkF m 260 #[.val (.int p1), .val (.int p2), .val (.int p3), .val (.long p4), .second, .val (.int pr), .val (.int sg), .val (.int ct), .val (.int ai), .val (.int bi), .val (.ref b187), .val (.ref b192), .val (.ref b196), .val (.ref pa200), .val (.ref b202), .val (.int bi), .val (.int bi), .val (.int (((t0 + t1) + (0 : Int32)) + (0 : Int32)))] [(.int bi), (.int bi)])) _
    refine XS.icmpNo X220.here hx rfl (hb hby at_260) rfl (XT.ii_ne_f rfl) ?_
    refine XS.iload X220.here hx rfl (hb hby at_263) rfl ?_
    refine XS.iload X220.here hx rfl (hb hby at_265) rfl ?_
    refine XS.icmpNo X220.here hx rfl (hb hby at_267) rfl (XT.ii_ne_f rfl) ?_
    show Steps p.tables e below (T220.setTop (mkF m 270 #[.val (.int p1), .val (.int p2), .val (.int p3), .val (.long p4), .second, .val (.int pr), .val (.int sg), .val (.int ct), .val (.int ai), .val (.int bi), .val (.ref b187), .val (.ref b192), .val (.ref b196), .val (.ref pa200), .val (.ref b202), .val (.int bi), .val (.int bi), .val (.int (((t0 + t1) + (0 : Int32)) + (0 : Int32)))] [])) _
    refine XS.iconst X220.here hx rfl (hb hby at_270) ?_
    refine XS.goto X220.here hx rfl (pc0 := 271) (pc' := 275) rfl (hb hby at_271) (by decide) (by decide) ?_
    exact k
  obtain ⟨fs, hr, hrun, hended, hW, hsame⟩ := X220.leave (v := some (.int (1 : Int32))) (fun h => by rw [Bd.returns] at h; cases h)
  refine ⟨_, _, C222 _ ?_, hrun, hended, _, _, rfl, ?_, ⟨_, rfl⟩, hW, hsame.mono (by decide) (by decide)⟩
  · show Steps p.tables e below (T220.setTop (mkF m 275 #[.val (.int p1), .val (.int p2), .val (.int p3), .val (.long p4), .second, .val (.int pr), .val (.int sg), .val (.int ct), .val (.int ai), .val (.int bi), .val (.ref b187), .val (.ref b192), .val (.ref b196), .val (.ref pa200), .val (.ref b202), .val (.int bi), .val (.int bi), .val (.int (((t0 + t1) + (0 : Int32)) + (0 : Int32)))] [(.int (1 : Int32))])) _
    exact retN X220 hx (t := .boolean) Bd.returns (by simp) (hb hby at_275) hr
  · show Q0 Z p1 p2 p3 p4 h0 n0 _ T220.heap _
    rw [q220]
    exact ⟨rfl, N220⟩
theorem pd12 : parseMethodDescriptor "(Lcom/example/mutatune/mutatune/engine/SeededRandom;)I" = some ⟨[(.object "com/example/mutatune/mutatune/engine/SeededRandom")], some .int⟩ := by decide +kernel
set_option maxRecDepth 65536 in
set_option maxHeartbeats 40000000 in
theorem rm0_11 (l : Launch) (Z : State) (a0 : Array Value) (hw : ∀ d ∈ tables_1, d.before a0 Z = true) (ws : List Jvm.Cond) (p1 p2 p3 : Int32) (p4 : Int64) (h0 : Heap) (n0 : Nat) (Z0 : n0 ≤ h0.size) (hm : ((1 : Int32) + (p1 &&& (1 : Int32))).toInt = ((1 : Nat) : Int)) (hs : (((p1.toUInt32 >>> ((1 : Int32) &&& 31).toUInt32).toInt32) - (((p1.toUInt32 >>> ((1 : Int32) &&& 31).toUInt32).toInt32) / (3 : Int32)) * (3 : Int32)).toInt = ((1 : Nat) : Int)) :
    MetFree l x (head1 (Jvm.Cond.code x code maxLocals ret :: ws) room_1) (fun a U => a = #[(.int p1), (.int p2), (.int p3), (.long p4)] ∧ Z.Warmed39 U.vm ∧ U.heap = h0) (fun _ _ _ _ _ => True) (fun _ U o U' => ∃ v L, o = .returned v ∧ Q0 Z p1 p2 p3 p4 h0 n0 v U'.heap L ∧ FrameEnd U o U' L room_1.cells room_1.slots) := by
  refine MetFree.of_bodySF (plainFor_of_name pn3) hisR ?_
  intro p e s m args below meth c s₁ Bd hml0 hP hK
  obtain ⟨rfl, hZ, hh⟩ := hP
  have hx := Bd.exec
  have hby := Bd.bytes
  have hml : c.maxLocals = 18 := hml0
  have hown : s.vm.findClass "com/example/mutatune/mutatune/engine/UniversalSamplingPairPinLaw" = some m.cls := findClass_of_methodNamed Bd.named
  have hnm := (name_of_methodNamed Bd.named Bd.method).1
  have X0 : Stand p l e room_1 s m #[(.int p1), (.int p2), (.int p3), (.long p4)] below meth c s₁ [] 0 0 := Stand.of_body Bd
  have e0 : s₁.heap = h0 := by rw [← hh, Bd.state]; rfl
  have N0 := Fr.nil n0
  have pre0 : ∀ t, Steps p.tables e below (s₁.setTop (mkF m 0 #[.val (.int p1), .val (.int p2), .val (.int p3), .val (.long p4), .second, .unset, .unset, .unset, .unset, .unset, .unset, .unset, .unset, .unset, .unset, .unset, .unset, .unset] [])) t → Steps p.tables e below (s₁.setTop (entryFrame m #[(.int p1), (.int p2), (.int p3), (.long p4)] maxLocals)) t := fun t k => castTop (ef0 m p1 p2 p3 p4) k
  have C223 : ∀ t, Steps p.tables e below (s₁.setTop (mkF m 7 #[.val (.int p1), .val (.int p2), .val (.int p3), .val (.long p4), .second, .val (.int ((1 : Int32) + (p1 &&& (1 : Int32)))), .unset, .unset, .unset, .unset, .unset, .unset, .unset, .unset, .unset, .unset, .unset, .unset] [])) t → Steps p.tables e below (s₁.setTop (entryFrame m #[(.int p1), (.int p2), (.int p3), (.long p4)] maxLocals)) t := by
    intro t k
    refine pre0 t ?_
    refine XS.iconst X0.here hx rfl (hb hby at_0) ?_
    refine XS.iloadN X0.here hx rfl (hb hby at_1) rfl ?_
    refine XS.iconst X0.here hx rfl (hb hby at_2) ?_
    show Steps p.tables e below (s₁.setTop (mkF m 3 #[.val (.int p1), .val (.int p2), .val (.int p3), .val (.long p4), .second, .unset, .unset, .unset, .unset, .unset, .unset, .unset, .unset, .unset, .unset, .unset, .unset, .unset] [(.int (1 : Int32)), (.int p1), (.int (1 : Int32))])) _
    refine XS.iand X0.here hx rfl (hb hby at_3) rfl ?_
    refine XS.iadd X0.here hx rfl (hb hby at_4) rfl ?_
    refine XS.istore X0.here hx rfl (hb hby at_5) rfl (l' := #[.val (.int p1), .val (.int p2), .val (.int p3), .val (.long p4), .second, .val (.int ((1 : Int32) + (p1 &&& (1 : Int32)))), .unset, .unset, .unset, .unset, .unset, .unset, .unset, .unset, .unset, .unset, .unset, .unset]) rfl ?_
    exact k
  obtain ⟨pr, h_pr⟩ : ∃ z : Int32, z = ((1 : Int32) + (p1 &&& (1 : Int32))) := ⟨_, rfl⟩
  rw [← h_pr] at C223
  have hpr : pr.toInt = ((1 : Nat) : Int) := by rw [h_pr]; exact hm
  have C224 : ∀ t, Steps p.tables e below (s₁.setTop (mkF m 14 #[.val (.int p1), .val (.int p2), .val (.int p3), .val (.long p4), .second, .val (.int pr), .val (.int (((p1.toUInt32 >>> ((1 : Int32) &&& 31).toUInt32).toInt32) - (((p1.toUInt32 >>> ((1 : Int32) &&& 31).toUInt32).toInt32) / (3 : Int32)) * (3 : Int32))), .unset, .unset, .unset, .unset, .unset, .unset, .unset, .unset, .unset, .unset, .unset] [])) t → Steps p.tables e below (s₁.setTop (entryFrame m #[(.int p1), (.int p2), (.int p3), (.long p4)] maxLocals)) t := by
    intro t k
    refine C223 t ?_
    refine XS.iloadN X0.here hx rfl (hb hby at_7) rfl ?_
    refine XS.iconst X0.here hx rfl (hb hby at_8) ?_
    refine XS.iushr X0.here hx rfl (hb hby at_9) rfl ?_
    show Steps p.tables e below (s₁.setTop (mkF m 10 #[.val (.int p1), .val (.int p2), .val (.int p3), .val (.long p4), .second, .val (.int pr), .unset, .unset, .unset, .unset, .unset, .unset, .unset, .unset, .unset, .unset, .unset, .unset] [(.int ((p1.toUInt32 >>> ((1 : Int32) &&& 31).toUInt32).toInt32))])) _
    refine XS.iconst X0.here hx rfl (hb hby at_10) ?_
    refine XS.irem X0.here hx rfl (hb hby at_11) rfl (by decide) ?_
    refine XS.istore X0.here hx rfl (hb hby at_12) rfl (l' := #[.val (.int p1), .val (.int p2), .val (.int p3), .val (.long p4), .second, .val (.int pr), .val (.int (((p1.toUInt32 >>> ((1 : Int32) &&& 31).toUInt32).toInt32) - (((p1.toUInt32 >>> ((1 : Int32) &&& 31).toUInt32).toInt32) / (3 : Int32)) * (3 : Int32))), .unset, .unset, .unset, .unset, .unset, .unset, .unset, .unset, .unset, .unset, .unset]) rfl ?_
    exact k
  obtain ⟨sg, h_sg⟩ : ∃ z : Int32, z = (((p1.toUInt32 >>> ((1 : Int32) &&& 31).toUInt32).toInt32) - (((p1.toUInt32 >>> ((1 : Int32) &&& 31).toUInt32).toInt32) / (3 : Int32)) * (3 : Int32)) := ⟨_, rfl⟩
  rw [← h_sg] at C224
  have hsg : sg.toInt = ((1 : Nat) : Int) := by rw [h_sg]; exact hs
  have hct0 : (((2 : Int32) * pr) + sg).toInt = ((3 : Nat) : Int) := by have y := own_add_c (own_two_c hpr (by decide) (by decide)) hsg (by decide) (by decide); exact y
  have C225 : ∀ t, Steps p.tables e below (s₁.setTop (mkF m 23 #[.val (.int p1), .val (.int p2), .val (.int p3), .val (.long p4), .second, .val (.int pr), .val (.int sg), .val (.int (((2 : Int32) * pr) + sg)), .unset, .unset, .unset, .unset, .unset, .unset, .unset, .unset, .unset, .unset] [])) t → Steps p.tables e below (s₁.setTop (entryFrame m #[(.int p1), (.int p2), (.int p3), (.long p4)] maxLocals)) t := by
    intro t k
    refine C224 t ?_
    refine XS.iconst X0.here hx rfl (hb hby at_14) ?_
    refine XS.iload X0.here hx rfl (hb hby at_15) rfl ?_
    refine XS.imul X0.here hx rfl (hb hby at_17) rfl ?_
    show Steps p.tables e below (s₁.setTop (mkF m 18 #[.val (.int p1), .val (.int p2), .val (.int p3), .val (.long p4), .second, .val (.int pr), .val (.int sg), .unset, .unset, .unset, .unset, .unset, .unset, .unset, .unset, .unset, .unset, .unset] [(.int ((2 : Int32) * pr))])) _
    refine XS.iload X0.here hx rfl (hb hby at_18) rfl ?_
    refine XS.iadd X0.here hx rfl (hb hby at_20) rfl ?_
    refine XS.istore X0.here hx rfl (hb hby at_21) rfl (l' := #[.val (.int p1), .val (.int p2), .val (.int p3), .val (.long p4), .second, .val (.int pr), .val (.int sg), .val (.int (((2 : Int32) * pr) + sg)), .unset, .unset, .unset, .unset, .unset, .unset, .unset, .unset, .unset, .unset]) rfl ?_
    exact k
  obtain ⟨ct, h_ct⟩ : ∃ z : Int32, z = (((2 : Int32) * pr) + sg) := ⟨_, rfl⟩
  rw [← h_ct] at C225
  have hct := hct0
  rw [← h_ct] at hct
  have C226 : ∀ t, Steps p.tables e below (s₁.setTop (mkF m 31 #[.val (.int p1), .val (.int p2), .val (.int p3), .val (.long p4), .second, .val (.int pr), .val (.int sg), .val (.int ct), .val (.int ((p2 &&& (2147483647 : Int32)) - ((p2 &&& (2147483647 : Int32)) / (3 : Int32)) * (3 : Int32))), .unset, .unset, .unset, .unset, .unset, .unset, .unset, .unset, .unset] [])) t → Steps p.tables e below (s₁.setTop (entryFrame m #[(.int p1), (.int p2), (.int p3), (.long p4)] maxLocals)) t := by
    intro t k
    refine C225 t ?_
    refine XS.iloadN X0.here hx rfl (hb hby at_23) rfl ?_
    refine X0.ldcInt hx hown (mvT hZ (hw _ (List.mem_of_getElem? (i := 0) rfl))) (g := (mkF m 24 #[.val (.int p1), .val (.int p2), .val (.int p3), .val (.long p4), .second, .val (.int pr), .val (.int sg), .val (.int ct), .unset, .unset, .unset, .unset, .unset, .unset, .unset, .unset, .unset, .unset] [(.int p2)])) rfl (hb hby at_24) _ ?_
    refine XS.iand X0.here hx rfl (hb hby at_26) rfl ?_
    show Steps p.tables e below (s₁.setTop (mkF m 27 #[.val (.int p1), .val (.int p2), .val (.int p3), .val (.long p4), .second, .val (.int pr), .val (.int sg), .val (.int ct), .unset, .unset, .unset, .unset, .unset, .unset, .unset, .unset, .unset, .unset] [(.int (p2 &&& (2147483647 : Int32)))])) _
    refine XS.iconst X0.here hx rfl (hb hby at_27) ?_
    refine XS.irem X0.here hx rfl (hb hby at_28) rfl (by decide) ?_
    refine XS.istore X0.here hx rfl (hb hby at_29) rfl (l' := #[.val (.int p1), .val (.int p2), .val (.int p3), .val (.long p4), .second, .val (.int pr), .val (.int sg), .val (.int ct), .val (.int ((p2 &&& (2147483647 : Int32)) - ((p2 &&& (2147483647 : Int32)) / (3 : Int32)) * (3 : Int32))), .unset, .unset, .unset, .unset, .unset, .unset, .unset, .unset, .unset]) rfl ?_
    exact k
  obtain ⟨ai, h_ai⟩ : ∃ z : Int32, z = ((p2 &&& (2147483647 : Int32)) - ((p2 &&& (2147483647 : Int32)) / (3 : Int32)) * (3 : Int32)) := ⟨_, rfl⟩
  rw [← h_ai] at C226
  have hai := own_ai p2
  rw [← h_ai] at hai
  have h3a := own_sub_c (show (3 : Int32).toInt = 3 from rfl) (rfl : ai.toInt = ai.toInt) (by omega) (by omega)
  have hnz : (3 : Int32) - ai ≠ 0 := fun y => by rw [y, show (0 : Int32).toInt = 0 from rfl] at h3a; omega
  have C227 : ∀ t, Steps p.tables e below (s₁.setTop (mkF m 47 #[.val (.int p1), .val (.int p2), .val (.int p3), .val (.long p4), .second, .val (.int pr), .val (.int sg), .val (.int ct), .val (.int ai), .val (.int ((ai + (1 : Int32)) + ((p3 &&& (2147483647 : Int32)) - ((p3 &&& (2147483647 : Int32)) / ((3 : Int32) - ai)) * ((3 : Int32) - ai)))), .unset, .unset, .unset, .unset, .unset, .unset, .unset, .unset] [])) t → Steps p.tables e below (s₁.setTop (entryFrame m #[(.int p1), (.int p2), (.int p3), (.long p4)] maxLocals)) t := by
    intro t k
    refine C226 t ?_
    refine XS.iload X0.here hx rfl (hb hby at_31) rfl ?_
    refine XS.iconst X0.here hx rfl (hb hby at_33) ?_
    refine XS.iadd X0.here hx rfl (hb hby at_34) rfl ?_
    show Steps p.tables e below (s₁.setTop (mkF m 35 #[.val (.int p1), .val (.int p2), .val (.int p3), .val (.long p4), .second, .val (.int pr), .val (.int sg), .val (.int ct), .val (.int ai), .unset, .unset, .unset, .unset, .unset, .unset, .unset, .unset, .unset] [(.int (ai + (1 : Int32)))])) _
    refine XS.iloadN X0.here hx rfl (hb hby at_35) rfl ?_
    refine X0.ldcInt hx hown (mvT hZ (hw _ (List.mem_of_getElem? (i := 0) rfl))) (g := (mkF m 36 #[.val (.int p1), .val (.int p2), .val (.int p3), .val (.long p4), .second, .val (.int pr), .val (.int sg), .val (.int ct), .val (.int ai), .unset, .unset, .unset, .unset, .unset, .unset, .unset, .unset, .unset] [(.int p3), (.int (ai + (1 : Int32)))])) rfl (hb hby at_36) _ ?_
    refine XS.iand X0.here hx rfl (hb hby at_38) rfl ?_
    refine XS.iconst X0.here hx rfl (hb hby at_39) ?_
    show Steps p.tables e below (s₁.setTop (mkF m 40 #[.val (.int p1), .val (.int p2), .val (.int p3), .val (.long p4), .second, .val (.int pr), .val (.int sg), .val (.int ct), .val (.int ai), .unset, .unset, .unset, .unset, .unset, .unset, .unset, .unset, .unset] [(.int (3 : Int32)), (.int (p3 &&& (2147483647 : Int32))), (.int (ai + (1 : Int32)))])) _
    refine XS.iload X0.here hx rfl (hb hby at_40) rfl ?_
    refine XS.isub X0.here hx rfl (hb hby at_42) rfl ?_
    refine XS.irem X0.here hx rfl (hb hby at_43) rfl hnz ?_
    refine XS.iadd X0.here hx rfl (hb hby at_44) rfl ?_
    show Steps p.tables e below (s₁.setTop (mkF m 45 #[.val (.int p1), .val (.int p2), .val (.int p3), .val (.long p4), .second, .val (.int pr), .val (.int sg), .val (.int ct), .val (.int ai), .unset, .unset, .unset, .unset, .unset, .unset, .unset, .unset, .unset] [(.int ((ai + (1 : Int32)) + ((p3 &&& (2147483647 : Int32)) - ((p3 &&& (2147483647 : Int32)) / ((3 : Int32) - ai)) * ((3 : Int32) - ai))))])) _
    refine XS.istore X0.here hx rfl (hb hby at_45) rfl (l' := #[.val (.int p1), .val (.int p2), .val (.int p3), .val (.long p4), .second, .val (.int pr), .val (.int sg), .val (.int ct), .val (.int ai), .val (.int ((ai + (1 : Int32)) + ((p3 &&& (2147483647 : Int32)) - ((p3 &&& (2147483647 : Int32)) / ((3 : Int32) - ai)) * ((3 : Int32) - ai)))), .unset, .unset, .unset, .unset, .unset, .unset, .unset, .unset]) rfl ?_
    exact k
  obtain ⟨bi, h_bi⟩ : ∃ z : Int32, z = ((ai + (1 : Int32)) + ((p3 &&& (2147483647 : Int32)) - ((p3 &&& (2147483647 : Int32)) / ((3 : Int32) - ai)) * ((3 : Int32) - ai))) := ⟨_, rfl⟩
  rw [← h_bi] at C227
  have hbi := own_bi p3 hai
  rw [← h_bi] at hbi
  obtain ⟨na, hna⟩ : ∃ y : Nat, y = ai.toInt.toNat := ⟨_, rfl⟩
  obtain ⟨nb, hnb⟩ : ∃ y : Nat, y = bi.toInt.toNat := ⟨_, rfl⟩
  have hA : ai.toInt = (na : Int) := by omega
  have hB : bi.toInt = (nb : Int) := by omega
  have hab : na < nb := by omega
  have hb4 : nb < 4 := by omega
  have hAB : ai ≠ bi := fun y => by rw [y] at hA; omega
  have hia : ¬ ai < 0 ∧ ai.toNatClampNeg < 4 := own_idx hA (by omega)
  have hib : ¬ bi < 0 ∧ bi.toNatClampNeg < 4 := own_idx hB hb4
  have C228 : ∀ t, Steps p.tables e below (s₁.setTop (mkF m 48 #[.val (.int p1), .val (.int p2), .val (.int p3), .val (.long p4), .second, .val (.int pr), .val (.int sg), .val (.int ct), .val (.int ai), .val (.int bi), .unset, .unset, .unset, .unset, .unset, .unset, .unset, .unset] [(.int (4 : Int32))])) t → Steps p.tables e below (s₁.setTop (entryFrame m #[(.int p1), (.int p2), (.int p3), (.long p4)] maxLocals)) t := by
    intro t k
    refine C227 t ?_
    refine XS.iconst X0.here hx rfl (hb hby at_47) ?_
    exact k
  obtain ⟨T229, h229, k229, X229, e229, E229, A229, st229⟩ := newP X0 hx hZ (hw _ (List.mem_of_getElem? (i := 1) rfl)) e0 (g := (mkF m 48 #[.val (.int p1), .val (.int p2), .val (.int p3), .val (.long p4), .second, .val (.int pr), .val (.int sg), .val (.int ct), .val (.int ai), .val (.int bi), .unset, .unset, .unset, .unset, .unset, .unset, .unset, .unset] [(.int (4 : Int32))])) rfl (hb hby at_48) rfl (by decide) (cap := 4) (by decide) (by decide) (by decide) (by decide)
  obtain ⟨b229, g229⟩ : ∃ z, z = h0.size := ⟨_, rfl⟩
  rw [← g229] at A229 st229
  have C229 : ∀ t, Steps p.tables e below (T229.setTop (mkF m 50 #[.val (.int p1), .val (.int p2), .val (.int p3), .val (.long p4), .second, .val (.int pr), .val (.int sg), .val (.int ct), .val (.int ai), .val (.int bi), .unset, .unset, .unset, .unset, .unset, .unset, .unset, .unset] [(.ref b229)])) t → Steps p.tables e below (s₁.setTop (entryFrame m #[(.int p1), (.int p2), (.int p3), (.long p4)] maxLocals)) t := fun t k => C228 t (st229 t k)
  have V0 : OwnA Z h229 b229 .double 4 (fun _ => .double 0) := OwnA.new A229 rfl
  have Z1 : n0 ≤ h229.size := Nat.le_trans Z0 E229.1
  have gw : n0 ≤ b229 := Nat.le_trans Z0 (Nat.le_of_eq g229.symm)
  have C230 : ∀ t, Steps p.tables e below (T229.setTop (mkF m 57 #[.val (.int p1), .val (.int p2), .val (.int p3), .val (.long p4), .second, .val (.int pr), .val (.int sg), .val (.int ct), .val (.int ai), .val (.int bi), .val (.ref b229), .unset, .unset, .unset, .unset, .unset, .unset, .unset] [(.double 4607182418800017408), (.int ai), (.ref b229)])) t → Steps p.tables e below (s₁.setTop (entryFrame m #[(.int p1), (.int p2), (.int p3), (.long p4)] maxLocals)) t := by
    intro t k
    refine C229 t ?_
    refine XS.astore X229.here hx rfl (hb hby at_50) rfl rfl (l' := #[.val (.int p1), .val (.int p2), .val (.int p3), .val (.long p4), .second, .val (.int pr), .val (.int sg), .val (.int ct), .val (.int ai), .val (.int bi), .val (.ref b229), .unset, .unset, .unset, .unset, .unset, .unset, .unset]) rfl ?_
    refine XS.aload X229.here hx rfl (hb hby at_52) rfl rfl ?_
    refine XS.iload X229.here hx rfl (hb hby at_54) rfl ?_
    show Steps p.tables e below (T229.setTop (mkF m 56 #[.val (.int p1), .val (.int p2), .val (.int p3), .val (.long p4), .second, .val (.int pr), .val (.int sg), .val (.int ct), .val (.int ai), .val (.int bi), .val (.ref b229), .unset, .unset, .unset, .unset, .unset, .unset, .unset] [(.int ai), (.ref b229)])) _
    refine XS.dconst1 X229.here hx rfl (hb hby at_56) (v := 4607182418800017408) rfl ?_
    exact k
  obtain ⟨c231, A231, S231, V231⟩ := id V0
  obtain ⟨T231, h231, X231, e231, W231, st231⟩ := stD X229 hx hZ e229 A231 (j := ai) (own_in hia S231) (g := (mkF m 57 #[.val (.int p1), .val (.int p2), .val (.int p3), .val (.long p4), .second, .val (.int pr), .val (.int sg), .val (.int ct), .val (.int ai), .val (.int bi), .val (.ref b229), .unset, .unset, .unset, .unset, .unset, .unset, .unset] [(.double 4607182418800017408), (.int ai), (.ref b229)])) rfl rfl (hb hby at_57)
  have N231 := Fr.snoc X231 N0 gw
  have C231 : ∀ t, Steps p.tables e below (T231.setTop (mkF m 58 #[.val (.int p1), .val (.int p2), .val (.int p3), .val (.long p4), .second, .val (.int pr), .val (.int sg), .val (.int ct), .val (.int ai), .val (.int bi), .val (.ref b229), .unset, .unset, .unset, .unset, .unset, .unset, .unset] [])) t → Steps p.tables e below (s₁.setTop (entryFrame m #[(.int p1), (.int p2), (.int p3), (.long p4)] maxLocals)) t := fun t k => C230 t (st231 t k)
  have V1 := V0.set W231
  have zb : OwnZ (FP.i2d (ct - (1 : Int32))) ((3 - 1) * Jvm.FP.Core.one64) := by
    have hc1 : (ct - (1 : Int32)).toInt = ((3 - 1 : Nat) : Int) := own_sub_c hct (show (1 : Int32).toInt = 1 from rfl) (by decide) (by decide)
    have y := own_i2d (v := ct - (1 : Int32)) (by rw [hc1]; decide)
    rw [hc1, Int.toNat_natCast] at y
    exact y
  have C232 : ∀ t, Steps p.tables e below (T231.setTop (mkF m 67 #[.val (.int p1), .val (.int p2), .val (.int p3), .val (.long p4), .second, .val (.int pr), .val (.int sg), .val (.int ct), .val (.int ai), .val (.int bi), .val (.ref b229), .unset, .unset, .unset, .unset, .unset, .unset, .unset] [(.double (FP.i2d (ct - (1 : Int32)))), (.int bi), (.ref b229)])) t → Steps p.tables e below (s₁.setTop (entryFrame m #[(.int p1), (.int p2), (.int p3), (.long p4)] maxLocals)) t := by
    intro t k
    refine C231 t ?_
    refine XS.aload X231.here hx rfl (hb hby at_58) rfl rfl ?_
    refine XS.iload X231.here hx rfl (hb hby at_60) rfl ?_
    refine XS.iload X231.here hx rfl (hb hby at_62) rfl ?_
    show Steps p.tables e below (T231.setTop (mkF m 64 #[.val (.int p1), .val (.int p2), .val (.int p3), .val (.long p4), .second, .val (.int pr), .val (.int sg), .val (.int ct), .val (.int ai), .val (.int bi), .val (.ref b229), .unset, .unset, .unset, .unset, .unset, .unset, .unset] [(.int ct), (.int bi), (.ref b229)])) _
    refine XS.iconst X231.here hx rfl (hb hby at_64) ?_
    refine XS.isub X231.here hx rfl (hb hby at_65) rfl ?_
    refine XS.i2dS X231.here hx rfl (hb hby at_66) rfl rfl ?_
    exact k
  obtain ⟨c233, A233, S233, V233⟩ := id V1
  obtain ⟨T233, h233, X233, e233, W233, st233⟩ := stD X231 hx hZ e231 A233 (j := bi) (own_in hib S233) (g := (mkF m 67 #[.val (.int p1), .val (.int p2), .val (.int p3), .val (.long p4), .second, .val (.int pr), .val (.int sg), .val (.int ct), .val (.int ai), .val (.int bi), .val (.ref b229), .unset, .unset, .unset, .unset, .unset, .unset, .unset] [(.double (FP.i2d (ct - (1 : Int32)))), (.int bi), (.ref b229)])) rfl rfl (hb hby at_67)
  have N233 := Fr.snoc X233 N231 gw
  have C233 : ∀ t, Steps p.tables e below (T233.setTop (mkF m 68 #[.val (.int p1), .val (.int p2), .val (.int p3), .val (.long p4), .second, .val (.int pr), .val (.int sg), .val (.int ct), .val (.int ai), .val (.int bi), .val (.ref b229), .unset, .unset, .unset, .unset, .unset, .unset, .unset] [])) t → Steps p.tables e below (s₁.setTop (entryFrame m #[(.int p1), (.int p2), (.int p3), (.long p4)] maxLocals)) t := fun t k => C232 t (st233 t k)
  have V2 : OwnA Z h233 b229 .double 4 (fun i => .double (own_wt na nb (FP.i2d (ct - (1 : Int32))) i)) := (V1.set W233).congr (fun i _ => by rw [own_cl hA, own_cl hB]; exact own_wt_set i)
  have Z2 : n0 ≤ h233.size := by rw [Wr.size W233, Wr.size W231]; exact Z1
  obtain ⟨T234, h234, X234, e234, E234, A234, D234, -, st234⟩ := newO X233 hx hZ hown (hw _ (List.mem_of_getElem? (i := 2) rfl)) (hw _ (List.mem_of_getElem? (i := 3) rfl)) (hw _ (List.mem_of_getElem? (i := 4) rfl)) e233 (g := (mkF m 68 #[.val (.int p1), .val (.int p2), .val (.int p3), .val (.long p4), .second, .val (.int pr), .val (.int sg), .val (.int ct), .val (.int ai), .val (.int bi), .val (.ref b229), .unset, .unset, .unset, .unset, .unset, .unset, .unset] [])) rfl (hb hby at_68) (by decide) (by decide)
  obtain ⟨b234, g234⟩ : ∃ z, z = h233.size := ⟨_, rfl⟩
  rw [← g234] at A234 D234 st234
  have C234 : ∀ t, Steps p.tables e below (T234.setTop (mkF m 71 #[.val (.int p1), .val (.int p2), .val (.int p3), .val (.long p4), .second, .val (.int pr), .val (.int sg), .val (.int ct), .val (.int ai), .val (.int bi), .val (.ref b229), .unset, .unset, .unset, .unset, .unset, .unset, .unset] [(.ref b234)])) t → Steps p.tables e below (s₁.setTop (entryFrame m #[(.int p1), (.int p2), (.int p3), (.long p4)] maxLocals)) t := fun t k => C233 t (st234 t k)
  have F_s0 : Fld Z h234 b234 "com/example/mutatune/mutatune/engine/SeededRandom" "s0" "J" (.long 0) := D234 (Or.inl (hw _ (List.mem_of_getElem? (i := 18) rfl))) (ty := .long) (by decide)
  have F_s1 : Fld Z h234 b234 "com/example/mutatune/mutatune/engine/SeededRandom" "s1" "J" (.long 0) := D234 (Or.inl (hw _ (List.mem_of_getElem? (i := 20) rfl))) (ty := .long) (by decide)
  have F_s2 : Fld Z h234 b234 "com/example/mutatune/mutatune/engine/SeededRandom" "s2" "J" (.long 0) := D234 (Or.inl (hw _ (List.mem_of_getElem? (i := 22) rfl))) (ty := .long) (by decide)
  have F_s3 : Fld Z h234 b234 "com/example/mutatune/mutatune/engine/SeededRandom" "s3" "J" (.long 0) := D234 (Or.inl (hw _ (List.mem_of_getElem? (i := 24) rfl))) (ty := .long) (by decide)
  have Z3 : n0 ≤ h234.size := Nat.le_trans Z2 E234.1
  have gra : n0 ≤ b234 := Nat.le_trans Z2 (Nat.le_of_eq g234.symm)
  have C235 : ∀ t, Steps p.tables e below (T234.setTop (mkF m 73 #[.val (.int p1), .val (.int p2), .val (.int p3), .val (.long p4), .second, .val (.int pr), .val (.int sg), .val (.int ct), .val (.int ai), .val (.int bi), .val (.ref b229), .unset, .unset, .unset, .unset, .unset, .unset, .unset] [(.long p4), (.ref b234), (.ref b234)])) t → Steps p.tables e below (s₁.setTop (entryFrame m #[(.int p1), (.int p2), (.int p3), (.long p4)] maxLocals)) t := by
    intro t k
    refine C234 t ?_
    refine XS.dup X234.here hx rfl (hb hby at_71) rfl rfl ?_
    refine XS.lloadN X234.here hx rfl (hb hby at_72) rfl ?_
    exact k
  obtain ⟨_, _, ⟨T236, L236, k236, n236⟩, -, X236, ⟨Lc236, hQ236, l236, y236, z236⟩, st236⟩ := X234.specialBack hx (y := (⟨"com/example/mutatune/mutatune/engine/SeededRandom", "<init>", "(J)V"⟩ : MethodName)) rfl hown (mvT hZ (hw _ (List.mem_of_getElem? (i := 5) rfl))) (mvT hZ (hw _ (List.mem_of_getElem? (i := 6) rfl))) (mvT hZ (hw _ (List.mem_of_getElem? (i := 7) rfl))) (by decide) (backOf (W := 1) (rm1 l Z a0 hw [] b234 p4 h234 n0 Z3 F_s0 F_s1 F_s2 F_s3 A234 gra) hZ (hw _ (List.mem_of_getElem? (i := 7) rfl)) (hw _ (List.mem_of_getElem? (i := 4) rfl)) (by decide) (by decide)) (g := (mkF m 73 #[.val (.int p1), .val (.int p2), .val (.int p3), .val (.long p4), .second, .val (.int pr), .val (.int sg), .val (.int ct), .val (.int ai), .val (.int bi), .val (.ref b229), .unset, .unset, .unset, .unset, .unset, .unset, .unset] [(.long p4), (.ref b234), (.ref b234)])) rfl (by rw [hml]; rfl) (Steps.refl _) (a := b234) (argsL := [(.long p4)]) (rest := [(.ref b234)]) (lenOf pd8 rfl) rfl (by show 2 * 0 + _ ≤ _; exact Nat.le_of_eq rfl) (hb hby at_73) (fun _ _ => ⟨rfl, e234, (by decide : 2 + 0 ≤ _), (by decide : 8 + 0 ≤ _)⟩)
  dsimp only [Pt.U, Pt.locs, Pt.cells, Pt.slots] at X236 l236 y236 z236 st236 hQ236
  subst l236 y236 z236
  obtain ⟨rfl, N236q, R236, K236⟩ := hQ236
  have N236 := Fr.app N233 N236q
  have C236 : ∀ t, Steps p.tables e below (T236.setTop (mkF m 76 #[.val (.int p1), .val (.int p2), .val (.int p3), .val (.long p4), .second, .val (.int pr), .val (.int sg), .val (.int ct), .val (.int ai), .val (.int bi), .val (.ref b229), .unset, .unset, .unset, .unset, .unset, .unset, .unset] [(.ref b234)])) t → Steps p.tables e below (s₁.setTop (entryFrame m #[(.int p1), (.int p2), (.int p3), (.long p4)] maxLocals)) t := fun t k => C235 t (st236.trans k)
  have Z4 : n0 ≤ T236.heap.size := Nat.le_trans Z3 K236.1
  have V3 := (V2.ext E234).keep K236 (own_nin1 (own_natne (by have y := own_natlt V2.lt; omega)))
  have NZ : OwnNZ (own_mix (p4 + (-7046029254386353131 : Int64))) (own_mix ((p4 + (-7046029254386353131 : Int64)) + (-7046029254386353131 : Int64))) (own_mix (((p4 + (-7046029254386353131 : Int64)) + (-7046029254386353131 : Int64)) + (-7046029254386353131 : Int64))) (own_mix ((((p4 + (-7046029254386353131 : Int64)) + (-7046029254386353131 : Int64)) + (-7046029254386353131 : Int64)) + (-7046029254386353131 : Int64))) := own_seed_nz _ _ _
  have C237 : ∀ t, Steps p.tables e below (T236.setTop (mkF m 78 #[.val (.int p1), .val (.int p2), .val (.int p3), .val (.long p4), .second, .val (.int pr), .val (.int sg), .val (.int ct), .val (.int ai), .val (.int bi), .val (.ref b229), .val (.ref b234), .unset, .unset, .unset, .unset, .unset, .unset] [])) t → Steps p.tables e below (s₁.setTop (entryFrame m #[(.int p1), (.int p2), (.int p3), (.long p4)] maxLocals)) t := by
    intro t k
    refine C236 t ?_
    refine XS.astore X236.here hx rfl (hb hby at_76) rfl rfl (l' := #[.val (.int p1), .val (.int p2), .val (.int p3), .val (.long p4), .second, .val (.int pr), .val (.int sg), .val (.int ct), .val (.int ai), .val (.int bi), .val (.ref b229), .val (.ref b234), .unset, .unset, .unset, .unset, .unset, .unset]) rfl ?_
    exact k
  obtain ⟨T238, h238, X238, e238, E238, A238, D238, -, st238⟩ := newO X236 hx hZ hown (hw _ (List.mem_of_getElem? (i := 25) rfl)) (hw _ (List.mem_of_getElem? (i := 26) rfl)) (hw _ (List.mem_of_getElem? (i := 27) rfl)) rfl (g := (mkF m 78 #[.val (.int p1), .val (.int p2), .val (.int p3), .val (.long p4), .second, .val (.int pr), .val (.int sg), .val (.int ct), .val (.int ai), .val (.int bi), .val (.ref b229), .val (.ref b234), .unset, .unset, .unset, .unset, .unset, .unset] [])) rfl (hb hby at_78) (by decide) (by decide)
  obtain ⟨b238, g238⟩ : ∃ z, z = T236.heap.size := ⟨_, rfl⟩
  rw [← g238] at A238 D238 st238
  have C238 : ∀ t, Steps p.tables e below (T238.setTop (mkF m 81 #[.val (.int p1), .val (.int p2), .val (.int p3), .val (.long p4), .second, .val (.int pr), .val (.int sg), .val (.int ct), .val (.int ai), .val (.int bi), .val (.ref b229), .val (.ref b234), .unset, .unset, .unset, .unset, .unset, .unset] [(.ref b238)])) t → Steps p.tables e below (s₁.setTop (entryFrame m #[(.int p1), (.int p2), (.int p3), (.long p4)] maxLocals)) t := fun t k => C237 t (st238 t k)
  have G1 : Fld Z h238 b238 "com/example/mutatune/mutatune/engine/UniversalSampling" "slots" "[I" .null := D238 (Or.inr (hw _ (List.mem_of_getElem? (i := 52) rfl))) (ty := (.array .int)) (by decide)
  have G2 : Fld Z h238 b238 "com/example/mutatune/mutatune/engine/UniversalSampling" "next" "I" (.int 0) := D238 (Or.inl (hw _ (List.mem_of_getElem? (i := 73) rfl))) (ty := .int) (by decide)
  have Z5 : n0 ≤ h238.size := Nat.le_trans Z4 E238.1
  have gu : n0 ≤ b238 := Nat.le_trans Z4 (Nat.le_of_eq g238.symm)
  have C239 : ∀ t, Steps p.tables e below (T238.setTop (mkF m 90 #[.val (.int p1), .val (.int p2), .val (.int p3), .val (.long p4), .second, .val (.int pr), .val (.int sg), .val (.int ct), .val (.int ai), .val (.int bi), .val (.ref b229), .val (.ref b234), .unset, .unset, .unset, .unset, .unset, .unset] [(.ref b234), (.int sg), (.int pr), (.ref b229), (.ref b238), (.ref b238)])) t → Steps p.tables e below (s₁.setTop (entryFrame m #[(.int p1), (.int p2), (.int p3), (.long p4)] maxLocals)) t := by
    intro t k
    refine C238 t ?_
    refine XS.dup X238.here hx rfl (hb hby at_81) rfl rfl ?_
    refine XS.aload X238.here hx rfl (hb hby at_82) rfl rfl ?_
    refine XS.iload X238.here hx rfl (hb hby at_84) rfl ?_
    show Steps p.tables e below (T238.setTop (mkF m 86 #[.val (.int p1), .val (.int p2), .val (.int p3), .val (.long p4), .second, .val (.int pr), .val (.int sg), .val (.int ct), .val (.int ai), .val (.int bi), .val (.ref b229), .val (.ref b234), .unset, .unset, .unset, .unset, .unset, .unset] [(.int pr), (.ref b229), (.ref b238), (.ref b238)])) _
    refine XS.iload X238.here hx rfl (hb hby at_86) rfl ?_
    refine XS.aload X238.here hx rfl (hb hby at_88) rfl rfl ?_
    exact k
  obtain ⟨_, _, ⟨T240, L240, k240, n240⟩, -, X240, ⟨Lc240, hQ240, l240, y240, z240⟩, st240⟩ := X238.specialBack hx (y := (⟨"com/example/mutatune/mutatune/engine/UniversalSampling", "<init>", "([DIILcom/example/mutatune/mutatune/engine/SeededRandom;)V"⟩ : MethodName)) rfl hown (mvT hZ (hw _ (List.mem_of_getElem? (i := 28) rfl))) (mvT hZ (hw _ (List.mem_of_getElem? (i := 29) rfl))) (mvT hZ (hw _ (List.mem_of_getElem? (i := 30) rfl))) (by decide) (backOf (W := 1) (rm4 l Z a0 hw [] b238 b229 pr sg b234 na nb 3 1 ai bi (FP.i2d (ct - (1 : Int32))) (own_mix (p4 + (-7046029254386353131 : Int64))) (own_mix ((p4 + (-7046029254386353131 : Int64)) + (-7046029254386353131 : Int64))) (own_mix (((p4 + (-7046029254386353131 : Int64)) + (-7046029254386353131 : Int64)) + (-7046029254386353131 : Int64))) (own_mix ((((p4 + (-7046029254386353131 : Int64)) + (-7046029254386353131 : Int64)) + (-7046029254386353131 : Int64)) + (-7046029254386353131 : Int64))) h238 n0 Z5 G1 G2 A238 gu gra (V3.ext E238) (R236.ext E238) NZ hct0 (by decide) (by decide) hab hb4 hA hB hAB zb hpr (by decide) (by decide) (by decide)) hZ (hw _ (List.mem_of_getElem? (i := 30) rfl)) (hw _ (List.mem_of_getElem? (i := 27) rfl)) (by decide) (by decide)) (g := (mkF m 90 #[.val (.int p1), .val (.int p2), .val (.int p3), .val (.long p4), .second, .val (.int pr), .val (.int sg), .val (.int ct), .val (.int ai), .val (.int bi), .val (.ref b229), .val (.ref b234), .unset, .unset, .unset, .unset, .unset, .unset] [(.ref b234), (.int sg), (.int pr), (.ref b229), (.ref b238), (.ref b238)])) rfl (by rw [hml]; rfl) (Steps.refl _) (a := b238) (argsL := [(.ref b229), (.int pr), (.int sg), (.ref b234)]) (rest := [(.ref b238)]) (lenOf pd9 rfl) rfl (by show 2 * 0 + _ ≤ _; exact Nat.le_of_eq rfl) (hb hby at_90) (fun _ _ => ⟨rfl, e238, (by decide : 3 + 1 ≤ _), (by decide : 10 + 6 ≤ _)⟩)
  dsimp only [Pt.U, Pt.locs, Pt.cells, Pt.slots] at X240 l240 y240 z240 st240 hQ240
  subst l240 y240 z240
  obtain ⟨rfl, N240q, r, q, U240, hq, fr240, s240⟩ := hQ240
  have N240 := Fr.app N236 N240q
  have C240 : ∀ t, Steps p.tables e below (T240.setTop (mkF m 93 #[.val (.int p1), .val (.int p2), .val (.int p3), .val (.long p4), .second, .val (.int pr), .val (.int sg), .val (.int ct), .val (.int ai), .val (.int bi), .val (.ref b229), .val (.ref b234), .unset, .unset, .unset, .unset, .unset, .unset] [(.ref b238)])) t → Steps p.tables e below (s₁.setTop (entryFrame m #[(.int p1), (.int p2), (.int p3), (.long p4)] maxLocals)) t := fun t k => C239 t (st240.trans k)
  have Z6 : n0 ≤ T240.heap.size := Nat.le_trans Z5 s240
  obtain ⟨y0, hy0⟩ : ∃ y : Int32, y = (if 0 = q then ai else bi) := ⟨_, rfl⟩
  obtain ⟨y1, hy1⟩ : ∃ y : Int32, y = (if 1 = q then ai else bi) := ⟨_, rfl⟩
  obtain ⟨y2, hy2⟩ : ∃ y : Int32, y = (if 2 = q then ai else bi) := ⟨_, rfl⟩
  have C241 : ∀ t, Steps p.tables e below (T240.setTop (mkF m 99 #[.val (.int p1), .val (.int p2), .val (.int p3), .val (.long p4), .second, .val (.int pr), .val (.int sg), .val (.int ct), .val (.int ai), .val (.int bi), .val (.ref b229), .val (.ref b234), .val (.ref b238), .unset, .unset, .unset, .unset, .unset] [(.ref b234), (.ref b238)])) t → Steps p.tables e below (s₁.setTop (entryFrame m #[(.int p1), (.int p2), (.int p3), (.long p4)] maxLocals)) t := by
    intro t k
    refine C240 t ?_
    refine XS.astore X240.here hx rfl (hb hby at_93) rfl rfl (l' := #[.val (.int p1), .val (.int p2), .val (.int p3), .val (.long p4), .second, .val (.int pr), .val (.int sg), .val (.int ct), .val (.int ai), .val (.int bi), .val (.ref b229), .val (.ref b234), .val (.ref b238), .unset, .unset, .unset, .unset, .unset]) rfl ?_
    refine XS.aload X240.here hx rfl (hb hby at_95) rfl rfl ?_
    refine XS.aload X240.here hx rfl (hb hby at_97) rfl rfl ?_
    exact k
  obtain ⟨cq242, kq242, q242a, q242b, q242c⟩ := isOf hZ rfl U240.1
  obtain ⟨_, _, ⟨T242, L242, k242, n242⟩, -, X242, ⟨Lc242, hQ242, l242, y242, z242⟩, st242⟩ := X240.virtualBack hx (y := (⟨"com/example/mutatune/mutatune/engine/UniversalSampling", "pair", "(Lcom/example/mutatune/mutatune/engine/SeededRandom;)[I"⟩ : MethodName)) (z := (⟨"com/example/mutatune/mutatune/engine/UniversalSampling", "pair", "(Lcom/example/mutatune/mutatune/engine/SeededRandom;)[I"⟩ : MethodName)) hown (mvT hZ (hw _ (List.mem_of_getElem? (i := 67) rfl))) (mvT hZ (hw _ (List.mem_of_getElem? (i := 68) rfl))) (notFace_of_selects (args := #[]) (mvT hZ (hw _ (List.mem_of_getElem? (i := 70) rfl)))) (mvT hZ (hw _ (List.mem_of_getElem? (i := 70) rfl))) (mvT hZ (hw _ (List.mem_of_getElem? (i := 69) rfl))) (by decide) (backOf (W := 0) (rm12 l Z a0 hw [] b238 b234 r 3 0 1 2 0 q ai bi y0 y1 T240.heap n0 Z6 U240 gu rfl rfl (by decide) (by decide) (by decide) hy0 hy1) hZ (hw _ (List.mem_of_getElem? (i := 71) rfl)) (hw _ (List.mem_of_getElem? (i := 27) rfl)) (by decide) (by decide)) q242a q242c (g := (mkF m 99 #[.val (.int p1), .val (.int p2), .val (.int p3), .val (.long p4), .second, .val (.int pr), .val (.int sg), .val (.int ct), .val (.int ai), .val (.int bi), .val (.ref b229), .val (.ref b234), .val (.ref b238), .unset, .unset, .unset, .unset, .unset] [(.ref b234), (.ref b238)])) rfl (by rw [hml]; rfl) (Steps.refl _) (argsL := [(.ref b234)]) (rest := []) (lenOf pd10 rfl) rfl (by show 2 * 0 + _ ≤ _; exact Nat.le_of_eq rfl) (hb hby at_99) (fun _ _ => ⟨rfl, rfl, (by decide : 4 + 1 ≤ _), (by decide : 16 + 2 ≤ _)⟩)
  dsimp only [Pt.U, Pt.locs, Pt.cells, Pt.slots] at X242 l242 y242 z242 st242 hQ242
  subst l242 y242 z242
  obtain ⟨pa242, rfl, N242q, P242, U242, fp242, K242⟩ := hQ242
  have N242 := Fr.app N240 N242q
  have C242 : ∀ t, Steps p.tables e below (T242.setTop (mkF m 102 #[.val (.int p1), .val (.int p2), .val (.int p3), .val (.long p4), .second, .val (.int pr), .val (.int sg), .val (.int ct), .val (.int ai), .val (.int bi), .val (.ref b229), .val (.ref b234), .val (.ref b238), .unset, .unset, .unset, .unset, .unset] [(.ref pa242)])) t → Steps p.tables e below (s₁.setTop (entryFrame m #[(.int p1), (.int p2), (.int p3), (.long p4)] maxLocals)) t := fun t k => C241 t (st242.trans k)
  have Z242 : n0 ≤ T242.heap.size := Nat.le_trans Z6 K242.1
  have C243 : ∀ t, Steps p.tables e below (T242.setTop (mkF m 121 #[.val (.int p1), .val (.int p2), .val (.int p3), .val (.long p4), .second, .val (.int pr), .val (.int sg), .val (.int ct), .val (.int ai), .val (.int bi), .val (.ref b229), .val (.ref b234), .val (.ref b238), .val (.ref pa242), .unset, .unset, .unset, .unset] [(.int (2 : Int32))])) t → Steps p.tables e below (s₁.setTop (entryFrame m #[(.int p1), (.int p2), (.int p3), (.long p4)] maxLocals)) t := by
    intro t k
    refine C242 t ?_
    refine XS.astore X242.here hx rfl (hb hby at_102) rfl rfl (l' := #[.val (.int p1), .val (.int p2), .val (.int p3), .val (.long p4), .second, .val (.int pr), .val (.int sg), .val (.int ct), .val (.int ai), .val (.int bi), .val (.ref b229), .val (.ref b234), .val (.ref b238), .val (.ref pa242), .unset, .unset, .unset, .unset]) rfl ?_
    refine XS.iload X242.here hx rfl (hb hby at_104) rfl ?_
    refine XS.iconst X242.here hx rfl (hb hby at_106) ?_
    show Steps p.tables e below (T242.setTop (mkF m 107 #[.val (.int p1), .val (.int p2), .val (.int p3), .val (.long p4), .second, .val (.int pr), .val (.int sg), .val (.int ct), .val (.int ai), .val (.int bi), .val (.ref b229), .val (.ref b234), .val (.ref b238), .val (.ref pa242), .unset, .unset, .unset, .unset] [(.int (2 : Int32)), (.int pr)])) _
    refine XS.icmpYes X242.here hx rfl (pc0 := 107) (pc' := 120) rfl (hb hby at_107) rfl (XT.ii_lt_t (by rw [own_lt32, hpr]; decide)) (by decide) (by decide) ?_
    refine XS.iconst X242.here hx rfl (hb hby at_120) ?_
    exact k
  obtain ⟨T244, h244, k244, X244, e244, E244, A244, st244⟩ := newP X242 hx hZ (hw _ (List.mem_of_getElem? (i := 50) rfl)) rfl (g := (mkF m 121 #[.val (.int p1), .val (.int p2), .val (.int p3), .val (.long p4), .second, .val (.int pr), .val (.int sg), .val (.int ct), .val (.int ai), .val (.int bi), .val (.ref b229), .val (.ref b234), .val (.ref b238), .val (.ref pa242), .unset, .unset, .unset, .unset] [(.int (2 : Int32))])) rfl (hb hby at_121) rfl (by decide) (cap := 2) (by decide) (by decide) (by decide) (by decide)
  obtain ⟨b244, g244⟩ : ∃ z, z = T242.heap.size := ⟨_, rfl⟩
  rw [← g244] at A244 st244
  have C244 : ∀ t, Steps p.tables e below (T244.setTop (mkF m 123 #[.val (.int p1), .val (.int p2), .val (.int p3), .val (.long p4), .second, .val (.int pr), .val (.int sg), .val (.int ct), .val (.int ai), .val (.int bi), .val (.ref b229), .val (.ref b234), .val (.ref b238), .val (.ref pa242), .unset, .unset, .unset, .unset] [(.ref b244)])) t → Steps p.tables e below (s₁.setTop (entryFrame m #[(.int p1), (.int p2), (.int p3), (.long p4)] maxLocals)) t := fun t k => C243 t (st244 t k)
  have B0 : OwnA Z h244 b244 .int 2 (fun _ => .int 0) := OwnA.new A244 rfl
  have gpb : n0 ≤ b244 := Nat.le_trans Z242 (Nat.le_of_eq g244.symm)
  have C245 : ∀ t, Steps p.tables e below (T244.setTop (mkF m 127 #[.val (.int p1), .val (.int p2), .val (.int p3), .val (.long p4), .second, .val (.int pr), .val (.int sg), .val (.int ct), .val (.int ai), .val (.int bi), .val (.ref b229), .val (.ref b234), .val (.ref b238), .val (.ref pa242), .unset, .unset, .unset, .unset] [(.int bi), (.int (0 : Int32)), (.ref b244), (.ref b244)])) t → Steps p.tables e below (s₁.setTop (entryFrame m #[(.int p1), (.int p2), (.int p3), (.long p4)] maxLocals)) t := by
    intro t k
    refine C244 t ?_
    refine XS.dup X244.here hx rfl (hb hby at_123) rfl rfl ?_
    refine XS.iconst X244.here hx rfl (hb hby at_124) ?_
    refine XS.iload X244.here hx rfl (hb hby at_125) rfl ?_
    exact k
  obtain ⟨c246, A246, S246, V246⟩ := id B0
  obtain ⟨T246, h246, X246, e246, W246, st246⟩ := stI X244 hx hZ e244 A246 (j := (0 : Int32)) (own_in own_i20 S246) (g := (mkF m 127 #[.val (.int p1), .val (.int p2), .val (.int p3), .val (.long p4), .second, .val (.int pr), .val (.int sg), .val (.int ct), .val (.int ai), .val (.int bi), .val (.ref b229), .val (.ref b234), .val (.ref b238), .val (.ref pa242), .unset, .unset, .unset, .unset] [(.int bi), (.int (0 : Int32)), (.ref b244), (.ref b244)])) rfl rfl (hb hby at_127)
  have N246 := Fr.snoc X246 N242 gpb
  have C246 : ∀ t, Steps p.tables e below (T246.setTop (mkF m 128 #[.val (.int p1), .val (.int p2), .val (.int p3), .val (.long p4), .second, .val (.int pr), .val (.int sg), .val (.int ct), .val (.int ai), .val (.int bi), .val (.ref b229), .val (.ref b234), .val (.ref b238), .val (.ref pa242), .unset, .unset, .unset, .unset] [(.ref b244)])) t → Steps p.tables e below (s₁.setTop (entryFrame m #[(.int p1), (.int p2), (.int p3), (.long p4)] maxLocals)) t := fun t k => C245 t (st246 t k)
  have B1 := B0.set W246
  have C247 : ∀ t, Steps p.tables e below (T246.setTop (mkF m 132 #[.val (.int p1), .val (.int p2), .val (.int p3), .val (.long p4), .second, .val (.int pr), .val (.int sg), .val (.int ct), .val (.int ai), .val (.int bi), .val (.ref b229), .val (.ref b234), .val (.ref b238), .val (.ref pa242), .unset, .unset, .unset, .unset] [(.int bi), (.int (1 : Int32)), (.ref b244), (.ref b244)])) t → Steps p.tables e below (s₁.setTop (entryFrame m #[(.int p1), (.int p2), (.int p3), (.long p4)] maxLocals)) t := by
    intro t k
    refine C246 t ?_
    refine XS.dup X246.here hx rfl (hb hby at_128) rfl rfl ?_
    refine XS.iconst X246.here hx rfl (hb hby at_129) ?_
    refine XS.iload X246.here hx rfl (hb hby at_130) rfl ?_
    exact k
  obtain ⟨c248, A248, S248, V248⟩ := id B1
  obtain ⟨T248, h248, X248, e248, W248, st248⟩ := stI X246 hx hZ e246 A248 (j := (1 : Int32)) (own_in own_i21 S248) (g := (mkF m 132 #[.val (.int p1), .val (.int p2), .val (.int p3), .val (.long p4), .second, .val (.int pr), .val (.int sg), .val (.int ct), .val (.int ai), .val (.int bi), .val (.ref b229), .val (.ref b234), .val (.ref b238), .val (.ref pa242), .unset, .unset, .unset, .unset] [(.int bi), (.int (1 : Int32)), (.ref b244), (.ref b244)])) rfl rfl (hb hby at_132)
  have N248 := Fr.snoc X248 N246 gpb
  have C248 : ∀ t, Steps p.tables e below (T248.setTop (mkF m 133 #[.val (.int p1), .val (.int p2), .val (.int p3), .val (.long p4), .second, .val (.int pr), .val (.int sg), .val (.int ct), .val (.int ai), .val (.int bi), .val (.ref b229), .val (.ref b234), .val (.ref b238), .val (.ref pa242), .unset, .unset, .unset, .unset] [(.ref b244)])) t → Steps p.tables e below (s₁.setTop (entryFrame m #[(.int p1), (.int p2), (.int p3), (.long p4)] maxLocals)) t := fun t k => C247 t (st248 t k)
  have B2 : OwnA Z h248 b244 .int 2 (fun i => .int (if i = 0 then bi else bi)) := (B1.set W248).congr (fun i hi => own_two2 hi)
  have u_b : b238 ≠ b244 := own_natne (by have y := own_natlt U242.1.lt; omega)
  have r_b : r ≠ b244 := own_natne (by have y := own_natlt U242.2.2.2.lt; omega)
  have p_b : pa242 ≠ b244 := own_natne (by have y := own_natlt P242.lt; omega)
  have UB := ((U242.ext E244).keep (Keep.of_wr W246) (own_nin1 u_b) (own_nin1 r_b)).keep (Keep.of_wr W248) (own_nin1 u_b) (own_nin1 r_b)
  have PB := ((P242.ext E244).other W246 p_b).other W248 p_b
  have ZB : n0 ≤ h248.size := by rw [Wr.size W248, Wr.size W246]; exact Nat.le_trans Z242 E244.1
  have hyb2 : y2 = bi := by rw [hy2, if_neg (by omega)]
  have C249 : ∀ t, Steps p.tables e below (T248.setTop (mkF m 145 #[.val (.int p1), .val (.int p2), .val (.int p3), .val (.long p4), .second, .val (.int pr), .val (.int sg), .val (.int ct), .val (.int ai), .val (.int bi), .val (.ref b229), .val (.ref b234), .val (.ref b238), .val (.ref pa242), .val (.ref b244), .unset, .unset, .unset] [(.ref b234), (.ref b238)])) t → Steps p.tables e below (s₁.setTop (entryFrame m #[(.int p1), (.int p2), (.int p3), (.long p4)] maxLocals)) t := by
    intro t k
    refine C248 t ?_
    refine XS.astore X248.here hx rfl (hb hby at_133) rfl rfl (l' := #[.val (.int p1), .val (.int p2), .val (.int p3), .val (.long p4), .second, .val (.int pr), .val (.int sg), .val (.int ct), .val (.int ai), .val (.int bi), .val (.ref b229), .val (.ref b234), .val (.ref b238), .val (.ref pa242), .val (.ref b244), .unset, .unset, .unset]) rfl ?_
    refine XS.iload X248.here hx rfl (hb hby at_135) rfl ?_
    refine XS.iconst X248.here hx rfl (hb hby at_137) ?_
    show Steps p.tables e below (T248.setTop (mkF m 138 #[.val (.int p1), .val (.int p2), .val (.int p3), .val (.long p4), .second, .val (.int pr), .val (.int sg), .val (.int ct), .val (.int ai), .val (.int bi), .val (.ref b229), .val (.ref b234), .val (.ref b238), .val (.ref pa242), .val (.ref b244), .unset, .unset, .unset] [(.int (1 : Int32)), (.int sg)])) _
    refine XS.icmpNo X248.here hx rfl (hb hby at_138) rfl (XT.ii_lt_f (by rw [own_lt32, hsg]; decide)) ?_
    refine XS.aload X248.here hx rfl (hb hby at_141) rfl rfl ?_
    refine XS.aload X248.here hx rfl (hb hby at_143) rfl rfl ?_
    exact k
  obtain ⟨cq250, kq250, q250a, q250b, q250c⟩ := isOf hZ e248 UB.1
  obtain ⟨_, _, ⟨T250, L250, k250, n250⟩, -, X250, ⟨Lc250, hQ250, l250, y250, z250⟩, st250⟩ := X248.virtualBack hx (y := (⟨"com/example/mutatune/mutatune/engine/UniversalSampling", "single", "(Lcom/example/mutatune/mutatune/engine/SeededRandom;)I"⟩ : MethodName)) (z := (⟨"com/example/mutatune/mutatune/engine/UniversalSampling", "single", "(Lcom/example/mutatune/mutatune/engine/SeededRandom;)I"⟩ : MethodName)) hown (mvT hZ (hw _ (List.mem_of_getElem? (i := 78) rfl))) (mvT hZ (hw _ (List.mem_of_getElem? (i := 79) rfl))) (notFace_of_selects (args := #[]) (mvT hZ (hw _ (List.mem_of_getElem? (i := 81) rfl)))) (mvT hZ (hw _ (List.mem_of_getElem? (i := 81) rfl))) (mvT hZ (hw _ (List.mem_of_getElem? (i := 80) rfl))) (by decide) (backOf (W := 0) (rm14 l Z a0 hw [] b238 b234 r 3 2 3 2 q ai bi y2 h248 n0 ZB UB gu rfl (by decide) (by decide) hy2) hZ (hw _ (List.mem_of_getElem? (i := 82) rfl)) (hw _ (List.mem_of_getElem? (i := 27) rfl)) (by decide) (by decide)) q250a q250c (g := (mkF m 145 #[.val (.int p1), .val (.int p2), .val (.int p3), .val (.long p4), .second, .val (.int pr), .val (.int sg), .val (.int ct), .val (.int ai), .val (.int bi), .val (.ref b229), .val (.ref b234), .val (.ref b238), .val (.ref pa242), .val (.ref b244), .unset, .unset, .unset] [(.ref b234), (.ref b238)])) rfl (by rw [hml]; rfl) (Steps.refl _) (argsL := [(.ref b234)]) (rest := []) (lenOf pd12 rfl) rfl (by show 2 * 0 + _ ≤ _; exact Nat.le_of_eq rfl) (hb hby at_145) (fun _ _ => ⟨rfl, e248, (by decide : 6 + 0 ≤ _), (by decide : 20 + 0 ≤ _)⟩)
  dsimp only [Pt.U, Pt.locs, Pt.cells, Pt.slots] at X250 l250 y250 z250 st250 hQ250
  subst l250 y250 z250
  obtain ⟨rfl, N250q, U250, s250, K250⟩ := hQ250
  have N250 := Fr.app N248 N250q
  have C250 : ∀ t, Steps p.tables e below (T250.setTop (mkF m 148 #[.val (.int p1), .val (.int p2), .val (.int p3), .val (.long p4), .second, .val (.int pr), .val (.int sg), .val (.int ct), .val (.int ai), .val (.int bi), .val (.ref b229), .val (.ref b234), .val (.ref b238), .val (.ref pa242), .val (.ref b244), .unset, .unset, .unset] [(.int y2)])) t → Steps p.tables e below (s₁.setTop (entryFrame m #[(.int p1), (.int p2), (.int p3), (.long p4)] maxLocals)) t := fun t k => C249 t (st250.trans k)
  have Z250 : n0 ≤ T250.heap.size := Nat.le_trans ZB s250
  have PB_250 := PB.keep K250 (own_nin1 (Ne.symm (own_ne UB.1 (hw _ (List.mem_of_getElem? (i := 26) rfl)) PB)))
  have B2_250 := B2.keep K250 (own_nin1 (Ne.symm (own_ne UB.1 (hw _ (List.mem_of_getElem? (i := 26) rfl)) B2)))
  rw [hyb2] at C250
  obtain ⟨c251, A251, S251, V251⟩ := id PB_250
  obtain ⟨c252, A252, S252, V252⟩ := id B2_250
  obtain ⟨c253, A253, S253, V253⟩ := id PB_250
  obtain ⟨t0, et0, ht0⟩ := own_tal hAB hy0
  have C254 : ∀ t, Steps p.tables e below (T250.setTop (mkF m 209 #[.val (.int p1), .val (.int p2), .val (.int p3), .val (.long p4), .second, .val (.int pr), .val (.int sg), .val (.int ct), .val (.int ai), .val (.int bi), .val (.ref b229), .val (.ref b234), .val (.ref b238), .val (.ref pa242), .val (.ref b244), .val (.int bi), .val (.int bi), .unset] [(.int bi), (.int ai), (.int y0)])) t → Steps p.tables e below (s₁.setTop (entryFrame m #[(.int p1), (.int p2), (.int p3), (.long p4)] maxLocals)) t := by
    intro t k
    refine C250 t ?_
    refine XS.goto X250.here hx rfl (pc0 := 148) (pc' := 153) rfl (hb hby at_148) (by decide) (by decide) ?_
    refine XS.istore X250.here hx rfl (hb hby at_153) rfl (l' := #[.val (.int p1), .val (.int p2), .val (.int p3), .val (.long p4), .second, .val (.int pr), .val (.int sg), .val (.int ct), .val (.int ai), .val (.int bi), .val (.ref b229), .val (.ref b234), .val (.ref b238), .val (.ref pa242), .val (.ref b244), .val (.int bi), .unset, .unset]) rfl ?_
    refine XS.iload X250.here hx rfl (hb hby at_155) rfl ?_
    show Steps p.tables e below (T250.setTop (mkF m 157 #[.val (.int p1), .val (.int p2), .val (.int p3), .val (.long p4), .second, .val (.int pr), .val (.int sg), .val (.int ct), .val (.int ai), .val (.int bi), .val (.ref b229), .val (.ref b234), .val (.ref b238), .val (.ref pa242), .val (.ref b244), .val (.int bi), .unset, .unset] [(.int sg)])) _
    refine XS.iconst X250.here hx rfl (hb hby at_157) ?_
    refine XS.icmpYes X250.here hx rfl (pc0 := 158) (pc' := 171) rfl (hb hby at_158) rfl (XT.ii_lt_t (by rw [own_lt32, hsg]; decide)) (by decide) (by decide) ?_
    refine XS.iload X250.here hx rfl (hb hby at_171) rfl ?_
    refine XS.istore X250.here hx rfl (hb hby at_173) rfl (l' := #[.val (.int p1), .val (.int p2), .val (.int p3), .val (.long p4), .second, .val (.int pr), .val (.int sg), .val (.int ct), .val (.int ai), .val (.int bi), .val (.ref b229), .val (.ref b234), .val (.ref b238), .val (.ref pa242), .val (.ref b244), .val (.int bi), .val (.int bi), .unset]) rfl ?_
    show Steps p.tables e below (T250.setTop (mkF m 175 #[.val (.int p1), .val (.int p2), .val (.int p3), .val (.long p4), .second, .val (.int pr), .val (.int sg), .val (.int ct), .val (.int ai), .val (.int bi), .val (.ref b229), .val (.ref b234), .val (.ref b238), .val (.ref pa242), .val (.ref b244), .val (.int bi), .val (.int bi), .unset] [])) _
    refine XS.aload X250.here hx rfl (hb hby at_175) rfl rfl ?_
    refine XS.ifnullNo X250.here hx rfl (hb hby at_177) rfl  ?_
    refine XS.aload X250.here hx rfl (hb hby at_180) rfl rfl ?_
    refine XS.ifnullNo X250.here hx rfl (hb hby at_182) rfl  ?_
    show Steps p.tables e below (T250.setTop (mkF m 185 #[.val (.int p1), .val (.int p2), .val (.int p3), .val (.long p4), .second, .val (.int pr), .val (.int sg), .val (.int ct), .val (.int ai), .val (.int bi), .val (.ref b229), .val (.ref b234), .val (.ref b238), .val (.ref pa242), .val (.ref b244), .val (.int bi), .val (.int bi), .unset] [])) _
    refine XS.aload X250.here hx rfl (hb hby at_185) rfl rfl ?_
    refine X250.arraylength hx A251.1 (State.isArrayOf_alike hZ.alike A251.2.1) (g := (mkF m 187 #[.val (.int p1), .val (.int p2), .val (.int p3), .val (.long p4), .second, .val (.int pr), .val (.int sg), .val (.int ct), .val (.int ai), .val (.int bi), .val (.ref b229), .val (.ref b234), .val (.ref b238), .val (.ref pa242), .val (.ref b244), .val (.int bi), .val (.int bi), .unset] [(.ref pa242)])) rfl rfl (hb hby at_187) _ ?_
    rw [S251, (rfl : (2 : Nat).toInt32 = (2 : Int32))]
    refine XS.iconst X250.here hx rfl (hb hby at_188) ?_
    refine XS.icmpNo X250.here hx rfl (hb hby at_189) rfl (XT.ii_ne_f rfl) ?_
    show Steps p.tables e below (T250.setTop (mkF m 192 #[.val (.int p1), .val (.int p2), .val (.int p3), .val (.long p4), .second, .val (.int pr), .val (.int sg), .val (.int ct), .val (.int ai), .val (.int bi), .val (.ref b229), .val (.ref b234), .val (.ref b238), .val (.ref pa242), .val (.ref b244), .val (.int bi), .val (.int bi), .unset] [])) _
    refine XS.aload X250.here hx rfl (hb hby at_192) rfl rfl ?_
    refine X250.arraylength hx A252.1 (State.isArrayOf_alike hZ.alike A252.2.1) (g := (mkF m 194 #[.val (.int p1), .val (.int p2), .val (.int p3), .val (.long p4), .second, .val (.int pr), .val (.int sg), .val (.int ct), .val (.int ai), .val (.int bi), .val (.ref b229), .val (.ref b234), .val (.ref b238), .val (.ref pa242), .val (.ref b244), .val (.int bi), .val (.int bi), .unset] [(.ref b244)])) rfl rfl (hb hby at_194) _ ?_
    rw [S252, (rfl : (2 : Nat).toInt32 = (2 : Int32))]
    refine XS.iconst X250.here hx rfl (hb hby at_195) ?_
    refine XS.icmpYes X250.here hx rfl (pc0 := 196) (pc' := 201) rfl (hb hby at_196) rfl (XT.ii_eq_t rfl) (by decide) (by decide) ?_
    show Steps p.tables e below (T250.setTop (mkF m 201 #[.val (.int p1), .val (.int p2), .val (.int p3), .val (.long p4), .second, .val (.int pr), .val (.int sg), .val (.int ct), .val (.int ai), .val (.int bi), .val (.ref b229), .val (.ref b234), .val (.ref b238), .val (.ref pa242), .val (.ref b244), .val (.int bi), .val (.int bi), .unset] [])) _
    refine XS.aload X250.here hx rfl (hb hby at_201) rfl rfl ?_
    refine XS.iconst X250.here hx rfl (hb hby at_203) ?_
    refine X250.iaload hx (j := (0 : Int32)) (v := (.int y0)) A253.1 (State.isArrayOf_alike hZ.alike A253.2.1) A253.2.2 (own_in own_i20 S253) (V253 _ (own_i20).2) (g := (mkF m 204 #[.val (.int p1), .val (.int p2), .val (.int p3), .val (.long p4), .second, .val (.int pr), .val (.int sg), .val (.int ct), .val (.int ai), .val (.int bi), .val (.ref b229), .val (.ref b234), .val (.ref b238), .val (.ref pa242), .val (.ref b244), .val (.int bi), .val (.int bi), .unset] [(.int (0 : Int32)), (.ref pa242)])) rfl rfl (hb hby at_204) _ ?_
    refine XS.iload X250.here hx rfl (hb hby at_205) rfl ?_
    show Steps p.tables e below (T250.setTop (mkF m 207 #[.val (.int p1), .val (.int p2), .val (.int p3), .val (.long p4), .second, .val (.int pr), .val (.int sg), .val (.int ct), .val (.int ai), .val (.int bi), .val (.ref b229), .val (.ref b234), .val (.ref b238), .val (.ref pa242), .val (.ref b244), .val (.int bi), .val (.int bi), .unset] [(.int ai), (.int y0)])) _
    refine XS.iload X250.here hx rfl (hb hby at_207) rfl ?_
    exact k
  obtain ⟨_, _, ⟨T255, L255, k255, n255⟩, -, X255, ⟨Lc255, hQ255, l255, y255, z255⟩, st255⟩ := Jvm.LawKit.callS X250 hx (y := (⟨"com/example/mutatune/mutatune/engine/UniversalSamplingPairPinLaw", "tally", "(III)I"⟩ : MethodName)) hown (mvT hZ (hw _ (List.mem_of_getElem? (i := 74) rfl))) (mvT hZ (hw _ (List.mem_of_getElem? (i := 75) rfl))) (mvT hZ (hw _ (List.mem_of_getElem? (i := 76) rfl))) (mvT hZ (hw _ (List.mem_of_getElem? (i := 77) rfl))) (by decide) (backOf (W := 0) (rm13 l Z a0 hw [] y0 ai bi t0 T250.heap n0 Z250 ht0) hZ (hw _ (List.mem_of_getElem? (i := 77) rfl)) (hw _ (List.mem_of_getElem? (i := 76) rfl)) (by decide) (by decide)) (g := (mkF m 209 #[.val (.int p1), .val (.int p2), .val (.int p3), .val (.long p4), .second, .val (.int pr), .val (.int sg), .val (.int ct), .val (.int ai), .val (.int bi), .val (.ref b229), .val (.ref b234), .val (.ref b238), .val (.ref pa242), .val (.ref b244), .val (.int bi), .val (.int bi), .unset] [(.int bi), (.int ai), (.int y0)])) rfl (by rw [hml]; rfl) (argsL := [(.int y0), (.int ai), (.int bi)]) (rest := []) (lenOf pd11 rfl) rfl (by show 2 * 0 + _ ≤ _; exact Nat.le_of_eq rfl) (hb hby at_209) (fun _ _ => ⟨rfl, rfl, (by decide : 6 + 0 ≤ _), (by decide : 20 + 0 ≤ _)⟩)
  dsimp only [Pt.U, Pt.locs, Pt.cells, Pt.slots] at X255 l255 y255 z255 st255 hQ255
  subst l255 y255 z255
  obtain ⟨rfl, N255q, q255⟩ := hQ255
  have N255 := Fr.app N250 N255q
  have C255 : ∀ t, Steps p.tables e below (T255.setTop (mkF m 212 #[.val (.int p1), .val (.int p2), .val (.int p3), .val (.long p4), .second, .val (.int pr), .val (.int sg), .val (.int ct), .val (.int ai), .val (.int bi), .val (.ref b229), .val (.ref b234), .val (.ref b238), .val (.ref pa242), .val (.ref b244), .val (.int bi), .val (.int bi), .unset] [(.int t0)])) t → Steps p.tables e below (s₁.setTop (entryFrame m #[(.int p1), (.int p2), (.int p3), (.long p4)] maxLocals)) t := fun t k => C254 t (st255 t k)
  obtain ⟨c256, A256, S256, V256⟩ := id PB_250
  obtain ⟨t1, et1, ht1⟩ := own_tal hAB hy1
  have C257 : ∀ t, Steps p.tables e below (T255.setTop (mkF m 220 #[.val (.int p1), .val (.int p2), .val (.int p3), .val (.long p4), .second, .val (.int pr), .val (.int sg), .val (.int ct), .val (.int ai), .val (.int bi), .val (.ref b229), .val (.ref b234), .val (.ref b238), .val (.ref pa242), .val (.ref b244), .val (.int bi), .val (.int bi), .unset] [(.int bi), (.int ai), (.int y1), (.int t0)])) t → Steps p.tables e below (s₁.setTop (entryFrame m #[(.int p1), (.int p2), (.int p3), (.long p4)] maxLocals)) t := by
    intro t k
    refine C255 t ?_
    refine XS.aload X255.here hx rfl (hb hby at_212) rfl rfl ?_
    refine XS.iconst X255.here hx rfl (hb hby at_214) ?_
    refine X255.iaload hx (j := (1 : Int32)) (v := (.int y1)) (by rw [q255]; exact A256.1) (State.isArrayOf_alike hZ.alike A256.2.1) A256.2.2 (own_in own_i21 S256) (V256 _ (own_i21).2) (g := (mkF m 215 #[.val (.int p1), .val (.int p2), .val (.int p3), .val (.long p4), .second, .val (.int pr), .val (.int sg), .val (.int ct), .val (.int ai), .val (.int bi), .val (.ref b229), .val (.ref b234), .val (.ref b238), .val (.ref pa242), .val (.ref b244), .val (.int bi), .val (.int bi), .unset] [(.int (1 : Int32)), (.ref pa242), (.int t0)])) rfl rfl (hb hby at_215) _ ?_
    show Steps p.tables e below (T255.setTop (mkF m 216 #[.val (.int p1), .val (.int p2), .val (.int p3), .val (.long p4), .second, .val (.int pr), .val (.int sg), .val (.int ct), .val (.int ai), .val (.int bi), .val (.ref b229), .val (.ref b234), .val (.ref b238), .val (.ref pa242), .val (.ref b244), .val (.int bi), .val (.int bi), .unset] [(.int y1), (.int t0)])) _
    refine XS.iload X255.here hx rfl (hb hby at_216) rfl ?_
    refine XS.iload X255.here hx rfl (hb hby at_218) rfl ?_
    exact k
  obtain ⟨_, _, ⟨T258, L258, k258, n258⟩, -, X258, ⟨Lc258, hQ258, l258, y258, z258⟩, st258⟩ := Jvm.LawKit.callS X255 hx (y := (⟨"com/example/mutatune/mutatune/engine/UniversalSamplingPairPinLaw", "tally", "(III)I"⟩ : MethodName)) hown (mvT hZ (hw _ (List.mem_of_getElem? (i := 74) rfl))) (mvT hZ (hw _ (List.mem_of_getElem? (i := 75) rfl))) (mvT hZ (hw _ (List.mem_of_getElem? (i := 76) rfl))) (mvT hZ (hw _ (List.mem_of_getElem? (i := 77) rfl))) (by decide) (backOf (W := 1) (rm13 l Z a0 hw [] y1 ai bi t1 T250.heap n0 Z250 ht1) hZ (hw _ (List.mem_of_getElem? (i := 77) rfl)) (hw _ (List.mem_of_getElem? (i := 76) rfl)) (by decide) (by decide)) (g := (mkF m 220 #[.val (.int p1), .val (.int p2), .val (.int p3), .val (.long p4), .second, .val (.int pr), .val (.int sg), .val (.int ct), .val (.int ai), .val (.int bi), .val (.ref b229), .val (.ref b234), .val (.ref b238), .val (.ref pa242), .val (.ref b244), .val (.int bi), .val (.int bi), .unset] [(.int bi), (.int ai), (.int y1), (.int t0)])) rfl (by rw [hml]; rfl) (argsL := [(.int y1), (.int ai), (.int bi)]) (rest := [(.int t0)]) (lenOf pd11 rfl) rfl (by show 2 * 0 + _ ≤ _; exact Nat.le_of_eq rfl) (hb hby at_220) (fun _ _ => ⟨rfl, q255, (by decide : 6 + 0 ≤ _), (by decide : 20 + 0 ≤ _)⟩)
  dsimp only [Pt.U, Pt.locs, Pt.cells, Pt.slots] at X258 l258 y258 z258 st258 hQ258
  subst l258 y258 z258
  obtain ⟨rfl, N258q, q258⟩ := hQ258
  have N258 := Fr.app N255 N258q
  have C258 : ∀ t, Steps p.tables e below (T258.setTop (mkF m 223 #[.val (.int p1), .val (.int p2), .val (.int p3), .val (.long p4), .second, .val (.int pr), .val (.int sg), .val (.int ct), .val (.int ai), .val (.int bi), .val (.ref b229), .val (.ref b234), .val (.ref b238), .val (.ref pa242), .val (.ref b244), .val (.int bi), .val (.int bi), .unset] [(.int t1), (.int t0)])) t → Steps p.tables e below (s₁.setTop (entryFrame m #[(.int p1), (.int p2), (.int p3), (.long p4)] maxLocals)) t := fun t k => C257 t (st258 t k)
  obtain ⟨c259, A259, S259, V259⟩ := id B2_250
  have ht2 : (bi = ai ∧ (0 : Int32) = 1) ∨ (¬ bi = ai ∧ bi = bi ∧ (0 : Int32) = 0) := Or.inr ⟨fun y => hAB y.symm, rfl, rfl⟩
  have C260 : ∀ t, Steps p.tables e below (T258.setTop (mkF m 232 #[.val (.int p1), .val (.int p2), .val (.int p3), .val (.long p4), .second, .val (.int pr), .val (.int sg), .val (.int ct), .val (.int ai), .val (.int bi), .val (.ref b229), .val (.ref b234), .val (.ref b238), .val (.ref pa242), .val (.ref b244), .val (.int bi), .val (.int bi), .unset] [(.int bi), (.int ai), (.int bi), (.int (t0 + t1))])) t → Steps p.tables e below (s₁.setTop (entryFrame m #[(.int p1), (.int p2), (.int p3), (.long p4)] maxLocals)) t := by
    intro t k
    refine C258 t ?_
    refine XS.iadd X258.here hx rfl (hb hby at_223) rfl ?_
    refine XS.aload X258.here hx rfl (hb hby at_224) rfl rfl ?_
    refine XS.iconst X258.here hx rfl (hb hby at_226) ?_
    show Steps p.tables e below (T258.setTop (mkF m 227 #[.val (.int p1), .val (.int p2), .val (.int p3), .val (.long p4), .second, .val (.int pr), .val (.int sg), .val (.int ct), .val (.int ai), .val (.int bi), .val (.ref b229), .val (.ref b234), .val (.ref b238), .val (.ref pa242), .val (.ref b244), .val (.int bi), .val (.int bi), .unset] [(.int (0 : Int32)), (.ref b244), (.int (t0 + t1))])) _
    refine X258.iaload hx (j := (0 : Int32)) (v := (.int bi)) (by rw [q258]; exact A259.1) (State.isArrayOf_alike hZ.alike A259.2.1) A259.2.2 (own_in own_i20 S259) (V259 _ (own_i20).2) (g := (mkF m 227 #[.val (.int p1), .val (.int p2), .val (.int p3), .val (.long p4), .second, .val (.int pr), .val (.int sg), .val (.int ct), .val (.int ai), .val (.int bi), .val (.ref b229), .val (.ref b234), .val (.ref b238), .val (.ref pa242), .val (.ref b244), .val (.int bi), .val (.int bi), .unset] [(.int (0 : Int32)), (.ref b244), (.int (t0 + t1))])) rfl rfl (hb hby at_227) _ ?_
    refine XS.iload X258.here hx rfl (hb hby at_228) rfl ?_
    refine XS.iload X258.here hx rfl (hb hby at_230) rfl ?_
    exact k
  obtain ⟨_, _, ⟨T261, L261, k261, n261⟩, -, X261, ⟨Lc261, hQ261, l261, y261, z261⟩, st261⟩ := Jvm.LawKit.callS X258 hx (y := (⟨"com/example/mutatune/mutatune/engine/UniversalSamplingPairPinLaw", "tally", "(III)I"⟩ : MethodName)) hown (mvT hZ (hw _ (List.mem_of_getElem? (i := 74) rfl))) (mvT hZ (hw _ (List.mem_of_getElem? (i := 75) rfl))) (mvT hZ (hw _ (List.mem_of_getElem? (i := 76) rfl))) (mvT hZ (hw _ (List.mem_of_getElem? (i := 77) rfl))) (by decide) (backOf (W := 1) (rm13 l Z a0 hw [] bi ai bi (0 : Int32) T250.heap n0 Z250 ht2) hZ (hw _ (List.mem_of_getElem? (i := 77) rfl)) (hw _ (List.mem_of_getElem? (i := 76) rfl)) (by decide) (by decide)) (g := (mkF m 232 #[.val (.int p1), .val (.int p2), .val (.int p3), .val (.long p4), .second, .val (.int pr), .val (.int sg), .val (.int ct), .val (.int ai), .val (.int bi), .val (.ref b229), .val (.ref b234), .val (.ref b238), .val (.ref pa242), .val (.ref b244), .val (.int bi), .val (.int bi), .unset] [(.int bi), (.int ai), (.int bi), (.int (t0 + t1))])) rfl (by rw [hml]; rfl) (argsL := [(.int bi), (.int ai), (.int bi)]) (rest := [(.int (t0 + t1))]) (lenOf pd11 rfl) rfl (by show 2 * 0 + _ ≤ _; exact Nat.le_of_eq rfl) (hb hby at_232) (fun _ _ => ⟨rfl, q258, (by decide : 6 + 0 ≤ _), (by decide : 20 + 0 ≤ _)⟩)
  dsimp only [Pt.U, Pt.locs, Pt.cells, Pt.slots] at X261 l261 y261 z261 st261 hQ261
  subst l261 y261 z261
  obtain ⟨rfl, N261q, q261⟩ := hQ261
  have N261 := Fr.app N258 N261q
  have C261 : ∀ t, Steps p.tables e below (T261.setTop (mkF m 235 #[.val (.int p1), .val (.int p2), .val (.int p3), .val (.long p4), .second, .val (.int pr), .val (.int sg), .val (.int ct), .val (.int ai), .val (.int bi), .val (.ref b229), .val (.ref b234), .val (.ref b238), .val (.ref pa242), .val (.ref b244), .val (.int bi), .val (.int bi), .unset] [(.int (0 : Int32)), (.int (t0 + t1))])) t → Steps p.tables e below (s₁.setTop (entryFrame m #[(.int p1), (.int p2), (.int p3), (.long p4)] maxLocals)) t := fun t k => C260 t (st261 t k)
  obtain ⟨c262, A262, S262, V262⟩ := id B2_250
  have ht3 : (bi = ai ∧ (0 : Int32) = 1) ∨ (¬ bi = ai ∧ bi = bi ∧ (0 : Int32) = 0) := Or.inr ⟨fun y => hAB y.symm, rfl, rfl⟩
  have C263 : ∀ t, Steps p.tables e below (T261.setTop (mkF m 244 #[.val (.int p1), .val (.int p2), .val (.int p3), .val (.long p4), .second, .val (.int pr), .val (.int sg), .val (.int ct), .val (.int ai), .val (.int bi), .val (.ref b229), .val (.ref b234), .val (.ref b238), .val (.ref pa242), .val (.ref b244), .val (.int bi), .val (.int bi), .unset] [(.int bi), (.int ai), (.int bi), (.int ((t0 + t1) + (0 : Int32)))])) t → Steps p.tables e below (s₁.setTop (entryFrame m #[(.int p1), (.int p2), (.int p3), (.long p4)] maxLocals)) t := by
    intro t k
    refine C261 t ?_
    refine XS.iadd X261.here hx rfl (hb hby at_235) rfl ?_
    refine XS.aload X261.here hx rfl (hb hby at_236) rfl rfl ?_
    refine XS.iconst X261.here hx rfl (hb hby at_238) ?_
    show Steps p.tables e below (T261.setTop (mkF m 239 #[.val (.int p1), .val (.int p2), .val (.int p3), .val (.long p4), .second, .val (.int pr), .val (.int sg), .val (.int ct), .val (.int ai), .val (.int bi), .val (.ref b229), .val (.ref b234), .val (.ref b238), .val (.ref pa242), .val (.ref b244), .val (.int bi), .val (.int bi), .unset] [(.int (1 : Int32)), (.ref b244), (.int ((t0 + t1) + (0 : Int32)))])) _
    refine X261.iaload hx (j := (1 : Int32)) (v := (.int bi)) (by rw [q261]; exact A262.1) (State.isArrayOf_alike hZ.alike A262.2.1) A262.2.2 (own_in own_i21 S262) (V262 _ (own_i21).2) (g := (mkF m 239 #[.val (.int p1), .val (.int p2), .val (.int p3), .val (.long p4), .second, .val (.int pr), .val (.int sg), .val (.int ct), .val (.int ai), .val (.int bi), .val (.ref b229), .val (.ref b234), .val (.ref b238), .val (.ref pa242), .val (.ref b244), .val (.int bi), .val (.int bi), .unset] [(.int (1 : Int32)), (.ref b244), (.int ((t0 + t1) + (0 : Int32)))])) rfl rfl (hb hby at_239) _ ?_
    refine XS.iload X261.here hx rfl (hb hby at_240) rfl ?_
    refine XS.iload X261.here hx rfl (hb hby at_242) rfl ?_
    exact k
  obtain ⟨_, _, ⟨T264, L264, k264, n264⟩, -, X264, ⟨Lc264, hQ264, l264, y264, z264⟩, st264⟩ := Jvm.LawKit.callS X261 hx (y := (⟨"com/example/mutatune/mutatune/engine/UniversalSamplingPairPinLaw", "tally", "(III)I"⟩ : MethodName)) hown (mvT hZ (hw _ (List.mem_of_getElem? (i := 74) rfl))) (mvT hZ (hw _ (List.mem_of_getElem? (i := 75) rfl))) (mvT hZ (hw _ (List.mem_of_getElem? (i := 76) rfl))) (mvT hZ (hw _ (List.mem_of_getElem? (i := 77) rfl))) (by decide) (backOf (W := 1) (rm13 l Z a0 hw [] bi ai bi (0 : Int32) T250.heap n0 Z250 ht3) hZ (hw _ (List.mem_of_getElem? (i := 77) rfl)) (hw _ (List.mem_of_getElem? (i := 76) rfl)) (by decide) (by decide)) (g := (mkF m 244 #[.val (.int p1), .val (.int p2), .val (.int p3), .val (.long p4), .second, .val (.int pr), .val (.int sg), .val (.int ct), .val (.int ai), .val (.int bi), .val (.ref b229), .val (.ref b234), .val (.ref b238), .val (.ref pa242), .val (.ref b244), .val (.int bi), .val (.int bi), .unset] [(.int bi), (.int ai), (.int bi), (.int ((t0 + t1) + (0 : Int32)))])) rfl (by rw [hml]; rfl) (argsL := [(.int bi), (.int ai), (.int bi)]) (rest := [(.int ((t0 + t1) + (0 : Int32)))]) (lenOf pd11 rfl) rfl (by show 2 * 0 + _ ≤ _; exact Nat.le_of_eq rfl) (hb hby at_244) (fun _ _ => ⟨rfl, q261, (by decide : 6 + 0 ≤ _), (by decide : 20 + 0 ≤ _)⟩)
  dsimp only [Pt.U, Pt.locs, Pt.cells, Pt.slots] at X264 l264 y264 z264 st264 hQ264
  subst l264 y264 z264
  obtain ⟨rfl, N264q, q264⟩ := hQ264
  have N264 := Fr.app N261 N264q
  have C264 : ∀ t, Steps p.tables e below (T264.setTop (mkF m 247 #[.val (.int p1), .val (.int p2), .val (.int p3), .val (.long p4), .second, .val (.int pr), .val (.int sg), .val (.int ct), .val (.int ai), .val (.int bi), .val (.ref b229), .val (.ref b234), .val (.ref b238), .val (.ref pa242), .val (.ref b244), .val (.int bi), .val (.int bi), .unset] [(.int (0 : Int32)), (.int ((t0 + t1) + (0 : Int32)))])) t → Steps p.tables e below (s₁.setTop (entryFrame m #[(.int p1), (.int p2), (.int p3), (.long p4)] maxLocals)) t := fun t k => C263 t (st264 t k)
  have C265 : ∀ t, Steps p.tables e below (T264.setTop (mkF m 253 #[.val (.int p1), .val (.int p2), .val (.int p3), .val (.long p4), .second, .val (.int pr), .val (.int sg), .val (.int ct), .val (.int ai), .val (.int bi), .val (.ref b229), .val (.ref b234), .val (.ref b238), .val (.ref pa242), .val (.ref b244), .val (.int bi), .val (.int bi), .val (.int (((t0 + t1) + (0 : Int32)) + (0 : Int32)))] [(.int (1 : Int32)), (.int (((t0 + t1) + (0 : Int32)) + (0 : Int32)))])) t → Steps p.tables e below (s₁.setTop (entryFrame m #[(.int p1), (.int p2), (.int p3), (.long p4)] maxLocals)) t := by
    intro t k
    refine C264 t ?_
    refine XS.iadd X264.here hx rfl (hb hby at_247) rfl ?_
    refine XS.istore X264.here hx rfl (hb hby at_248) rfl (l' := #[.val (.int p1), .val (.int p2), .val (.int p3), .val (.long p4), .second, .val (.int pr), .val (.int sg), .val (.int ct), .val (.int ai), .val (.int bi), .val (.ref b229), .val (.ref b234), .val (.ref b238), .val (.ref pa242), .val (.ref b244), .val (.int bi), .val (.int bi), .val (.int (((t0 + t1) + (0 : Int32)) + (0 : Int32)))]) rfl ?_
    refine XS.iload X264.here hx rfl (hb hby at_250) rfl ?_
    show Steps p.tables e below (T264.setTop (mkF m 252 #[.val (.int p1), .val (.int p2), .val (.int p3), .val (.long p4), .second, .val (.int pr), .val (.int sg), .val (.int ct), .val (.int ai), .val (.int bi), .val (.ref b229), .val (.ref b234), .val (.ref b238), .val (.ref pa242), .val (.ref b244), .val (.int bi), .val (.int bi), .val (.int (((t0 + t1) + (0 : Int32)) + (0 : Int32)))] [(.int (((t0 + t1) + (0 : Int32)) + (0 : Int32)))])) _
    refine XS.iconst X264.here hx rfl (hb hby at_252) ?_
    exact k
  have hsum : (((t0 + t1) + (0 : Int32)) + (0 : Int32)) = 1 := by
    have hq4 : q = 0 ∨ q = 1 := by omega
    rcases hq4 with g | g <;> subst g et0 et1 <;> rfl
  have C266 : ∀ t, Steps p.tables e below (T264.setTop (mkF m 275 #[.val (.int p1), .val (.int p2), .val (.int p3), .val (.long p4), .second, .val (.int pr), .val (.int sg), .val (.int ct), .val (.int ai), .val (.int bi), .val (.ref b229), .val (.ref b234), .val (.ref b238), .val (.ref pa242), .val (.ref b244), .val (.int bi), .val (.int bi), .val (.int (((t0 + t1) + (0 : Int32)) + (0 : Int32)))] [(.int (1 : Int32))])) t → Steps p.tables e below (s₁.setTop (entryFrame m #[(.int p1), (.int p2), (.int p3), (.long p4)] maxLocals)) t := by
    intro t k
    refine C265 t ?_
    refine XS.icmpNo X264.here hx rfl (hb hby at_253) rfl (XT.ii_ne_f hsum) ?_
    refine XS.iload X264.here hx rfl (hb hby at_256) rfl ?_
    refine XS.iload X264.here hx rfl (hb hby at_258) rfl ?_
    show Steps p.tables e below (T264.setTop (mkF m 260 #[.val (.int p1), .val (.int p2), .val (.int p3), .val (.long p4), .second, .val (.int pr), .val (.int sg), .val (.int ct), .val (.int ai), .val (.int bi), .val (.ref b229), .val (.ref b234), .val (.ref b238), .val (.ref pa242), .val (.ref b244), .val (.int bi), .val (.int bi), .val (.int (((t0 + t1) + (0 : Int32)) + (0 : Int32)))] [(.int bi), (.int bi)])) _
    refine XS.icmpNo X264.here hx rfl (hb hby at_260) rfl (XT.ii_ne_f rfl) ?_
    refine XS.iload X264.here hx rfl (hb hby at_263) rfl ?_
    refine XS.iload X264.here hx rfl (hb hby at_265) rfl ?_
    refine XS.icmpNo X264.here hx rfl (hb hby at_267) rfl (XT.ii_ne_f rfl) ?_
    show Steps p.tables e below (T264.setTop (mkF m 270 #[.val (.int p1), .val (.int p2), .val (.int p3), .val (.long p4), .second, .val (.int pr), .val (.int sg), .val (.int ct), .val (.int ai), .val (.int bi), .val (.ref b229), .val (.ref b234), .val (.ref b238), .val (.ref pa242), .val (.ref b244), .val (.int bi), .val (.int bi), .val (.int (((t0 + t1) + (0 : Int32)) + (0 : Int32)))] [])) _
    refine XS.iconst X264.here hx rfl (hb hby at_270) ?_
    refine XS.goto X264.here hx rfl (pc0 := 271) (pc' := 275) rfl (hb hby at_271) (by decide) (by decide) ?_
    exact k
  obtain ⟨fs, hr, hrun, hended, hW, hsame⟩ := X264.leave (v := some (.int (1 : Int32))) (fun h => by rw [Bd.returns] at h; cases h)
  refine ⟨_, _, C266 _ ?_, hrun, hended, _, _, rfl, ?_, ⟨_, rfl⟩, hW, hsame.mono (by decide) (by decide)⟩
  · show Steps p.tables e below (T264.setTop (mkF m 275 #[.val (.int p1), .val (.int p2), .val (.int p3), .val (.long p4), .second, .val (.int pr), .val (.int sg), .val (.int ct), .val (.int ai), .val (.int bi), .val (.ref b229), .val (.ref b234), .val (.ref b238), .val (.ref pa242), .val (.ref b244), .val (.int bi), .val (.int bi), .val (.int (((t0 + t1) + (0 : Int32)) + (0 : Int32)))] [(.int (1 : Int32))])) _
    exact retN X264 hx (t := .boolean) Bd.returns (by simp) (hb hby at_275) hr
  · show Q0 Z p1 p2 p3 p4 h0 n0 _ T264.heap _
    rw [q264]
    exact ⟨rfl, N264⟩
set_option maxRecDepth 65536 in
set_option maxHeartbeats 40000000 in
theorem rm0_12 (l : Launch) (Z : State) (a0 : Array Value) (hw : ∀ d ∈ tables_1, d.before a0 Z = true) (ws : List Jvm.Cond) (p1 p2 p3 : Int32) (p4 : Int64) (h0 : Heap) (n0 : Nat) (Z0 : n0 ≤ h0.size) (hm : ((1 : Int32) + (p1 &&& (1 : Int32))).toInt = ((1 : Nat) : Int)) (hs : (((p1.toUInt32 >>> ((1 : Int32) &&& 31).toUInt32).toInt32) - (((p1.toUInt32 >>> ((1 : Int32) &&& 31).toUInt32).toInt32) / (3 : Int32)) * (3 : Int32)).toInt = ((2 : Nat) : Int)) :
    MetFree l x (head1 (Jvm.Cond.code x code maxLocals ret :: ws) room_1) (fun a U => a = #[(.int p1), (.int p2), (.int p3), (.long p4)] ∧ Z.Warmed39 U.vm ∧ U.heap = h0) (fun _ _ _ _ _ => True) (fun _ U o U' => ∃ v L, o = .returned v ∧ Q0 Z p1 p2 p3 p4 h0 n0 v U'.heap L ∧ FrameEnd U o U' L room_1.cells room_1.slots) := by
  refine MetFree.of_bodySF (plainFor_of_name pn3) hisR ?_
  intro p e s m args below meth c s₁ Bd hml0 hP hK
  obtain ⟨rfl, hZ, hh⟩ := hP
  have hx := Bd.exec
  have hby := Bd.bytes
  have hml : c.maxLocals = 18 := hml0
  have hown : s.vm.findClass "com/example/mutatune/mutatune/engine/UniversalSamplingPairPinLaw" = some m.cls := findClass_of_methodNamed Bd.named
  have hnm := (name_of_methodNamed Bd.named Bd.method).1
  have X0 : Stand p l e room_1 s m #[(.int p1), (.int p2), (.int p3), (.long p4)] below meth c s₁ [] 0 0 := Stand.of_body Bd
  have e0 : s₁.heap = h0 := by rw [← hh, Bd.state]; rfl
  have N0 := Fr.nil n0
  have pre0 : ∀ t, Steps p.tables e below (s₁.setTop (mkF m 0 #[.val (.int p1), .val (.int p2), .val (.int p3), .val (.long p4), .second, .unset, .unset, .unset, .unset, .unset, .unset, .unset, .unset, .unset, .unset, .unset, .unset, .unset] [])) t → Steps p.tables e below (s₁.setTop (entryFrame m #[(.int p1), (.int p2), (.int p3), (.long p4)] maxLocals)) t := fun t k => castTop (ef0 m p1 p2 p3 p4) k
  have C267 : ∀ t, Steps p.tables e below (s₁.setTop (mkF m 7 #[.val (.int p1), .val (.int p2), .val (.int p3), .val (.long p4), .second, .val (.int ((1 : Int32) + (p1 &&& (1 : Int32)))), .unset, .unset, .unset, .unset, .unset, .unset, .unset, .unset, .unset, .unset, .unset, .unset] [])) t → Steps p.tables e below (s₁.setTop (entryFrame m #[(.int p1), (.int p2), (.int p3), (.long p4)] maxLocals)) t := by
    intro t k
    refine pre0 t ?_
    refine XS.iconst X0.here hx rfl (hb hby at_0) ?_
    refine XS.iloadN X0.here hx rfl (hb hby at_1) rfl ?_
    refine XS.iconst X0.here hx rfl (hb hby at_2) ?_
    show Steps p.tables e below (s₁.setTop (mkF m 3 #[.val (.int p1), .val (.int p2), .val (.int p3), .val (.long p4), .second, .unset, .unset, .unset, .unset, .unset, .unset, .unset, .unset, .unset, .unset, .unset, .unset, .unset] [(.int (1 : Int32)), (.int p1), (.int (1 : Int32))])) _
    refine XS.iand X0.here hx rfl (hb hby at_3) rfl ?_
    refine XS.iadd X0.here hx rfl (hb hby at_4) rfl ?_
    refine XS.istore X0.here hx rfl (hb hby at_5) rfl (l' := #[.val (.int p1), .val (.int p2), .val (.int p3), .val (.long p4), .second, .val (.int ((1 : Int32) + (p1 &&& (1 : Int32)))), .unset, .unset, .unset, .unset, .unset, .unset, .unset, .unset, .unset, .unset, .unset, .unset]) rfl ?_
    exact k
  obtain ⟨pr, h_pr⟩ : ∃ z : Int32, z = ((1 : Int32) + (p1 &&& (1 : Int32))) := ⟨_, rfl⟩
  rw [← h_pr] at C267
  have hpr : pr.toInt = ((1 : Nat) : Int) := by rw [h_pr]; exact hm
  have C268 : ∀ t, Steps p.tables e below (s₁.setTop (mkF m 14 #[.val (.int p1), .val (.int p2), .val (.int p3), .val (.long p4), .second, .val (.int pr), .val (.int (((p1.toUInt32 >>> ((1 : Int32) &&& 31).toUInt32).toInt32) - (((p1.toUInt32 >>> ((1 : Int32) &&& 31).toUInt32).toInt32) / (3 : Int32)) * (3 : Int32))), .unset, .unset, .unset, .unset, .unset, .unset, .unset, .unset, .unset, .unset, .unset] [])) t → Steps p.tables e below (s₁.setTop (entryFrame m #[(.int p1), (.int p2), (.int p3), (.long p4)] maxLocals)) t := by
    intro t k
    refine C267 t ?_
    refine XS.iloadN X0.here hx rfl (hb hby at_7) rfl ?_
    refine XS.iconst X0.here hx rfl (hb hby at_8) ?_
    refine XS.iushr X0.here hx rfl (hb hby at_9) rfl ?_
    show Steps p.tables e below (s₁.setTop (mkF m 10 #[.val (.int p1), .val (.int p2), .val (.int p3), .val (.long p4), .second, .val (.int pr), .unset, .unset, .unset, .unset, .unset, .unset, .unset, .unset, .unset, .unset, .unset, .unset] [(.int ((p1.toUInt32 >>> ((1 : Int32) &&& 31).toUInt32).toInt32))])) _
    refine XS.iconst X0.here hx rfl (hb hby at_10) ?_
    refine XS.irem X0.here hx rfl (hb hby at_11) rfl (by decide) ?_
    refine XS.istore X0.here hx rfl (hb hby at_12) rfl (l' := #[.val (.int p1), .val (.int p2), .val (.int p3), .val (.long p4), .second, .val (.int pr), .val (.int (((p1.toUInt32 >>> ((1 : Int32) &&& 31).toUInt32).toInt32) - (((p1.toUInt32 >>> ((1 : Int32) &&& 31).toUInt32).toInt32) / (3 : Int32)) * (3 : Int32))), .unset, .unset, .unset, .unset, .unset, .unset, .unset, .unset, .unset, .unset, .unset]) rfl ?_
    exact k
  obtain ⟨sg, h_sg⟩ : ∃ z : Int32, z = (((p1.toUInt32 >>> ((1 : Int32) &&& 31).toUInt32).toInt32) - (((p1.toUInt32 >>> ((1 : Int32) &&& 31).toUInt32).toInt32) / (3 : Int32)) * (3 : Int32)) := ⟨_, rfl⟩
  rw [← h_sg] at C268
  have hsg : sg.toInt = ((2 : Nat) : Int) := by rw [h_sg]; exact hs
  have hct0 : (((2 : Int32) * pr) + sg).toInt = ((4 : Nat) : Int) := by have y := own_add_c (own_two_c hpr (by decide) (by decide)) hsg (by decide) (by decide); exact y
  have C269 : ∀ t, Steps p.tables e below (s₁.setTop (mkF m 23 #[.val (.int p1), .val (.int p2), .val (.int p3), .val (.long p4), .second, .val (.int pr), .val (.int sg), .val (.int (((2 : Int32) * pr) + sg)), .unset, .unset, .unset, .unset, .unset, .unset, .unset, .unset, .unset, .unset] [])) t → Steps p.tables e below (s₁.setTop (entryFrame m #[(.int p1), (.int p2), (.int p3), (.long p4)] maxLocals)) t := by
    intro t k
    refine C268 t ?_
    refine XS.iconst X0.here hx rfl (hb hby at_14) ?_
    refine XS.iload X0.here hx rfl (hb hby at_15) rfl ?_
    refine XS.imul X0.here hx rfl (hb hby at_17) rfl ?_
    show Steps p.tables e below (s₁.setTop (mkF m 18 #[.val (.int p1), .val (.int p2), .val (.int p3), .val (.long p4), .second, .val (.int pr), .val (.int sg), .unset, .unset, .unset, .unset, .unset, .unset, .unset, .unset, .unset, .unset, .unset] [(.int ((2 : Int32) * pr))])) _
    refine XS.iload X0.here hx rfl (hb hby at_18) rfl ?_
    refine XS.iadd X0.here hx rfl (hb hby at_20) rfl ?_
    refine XS.istore X0.here hx rfl (hb hby at_21) rfl (l' := #[.val (.int p1), .val (.int p2), .val (.int p3), .val (.long p4), .second, .val (.int pr), .val (.int sg), .val (.int (((2 : Int32) * pr) + sg)), .unset, .unset, .unset, .unset, .unset, .unset, .unset, .unset, .unset, .unset]) rfl ?_
    exact k
  obtain ⟨ct, h_ct⟩ : ∃ z : Int32, z = (((2 : Int32) * pr) + sg) := ⟨_, rfl⟩
  rw [← h_ct] at C269
  have hct := hct0
  rw [← h_ct] at hct
  have C270 : ∀ t, Steps p.tables e below (s₁.setTop (mkF m 31 #[.val (.int p1), .val (.int p2), .val (.int p3), .val (.long p4), .second, .val (.int pr), .val (.int sg), .val (.int ct), .val (.int ((p2 &&& (2147483647 : Int32)) - ((p2 &&& (2147483647 : Int32)) / (3 : Int32)) * (3 : Int32))), .unset, .unset, .unset, .unset, .unset, .unset, .unset, .unset, .unset] [])) t → Steps p.tables e below (s₁.setTop (entryFrame m #[(.int p1), (.int p2), (.int p3), (.long p4)] maxLocals)) t := by
    intro t k
    refine C269 t ?_
    refine XS.iloadN X0.here hx rfl (hb hby at_23) rfl ?_
    refine X0.ldcInt hx hown (mvT hZ (hw _ (List.mem_of_getElem? (i := 0) rfl))) (g := (mkF m 24 #[.val (.int p1), .val (.int p2), .val (.int p3), .val (.long p4), .second, .val (.int pr), .val (.int sg), .val (.int ct), .unset, .unset, .unset, .unset, .unset, .unset, .unset, .unset, .unset, .unset] [(.int p2)])) rfl (hb hby at_24) _ ?_
    refine XS.iand X0.here hx rfl (hb hby at_26) rfl ?_
    show Steps p.tables e below (s₁.setTop (mkF m 27 #[.val (.int p1), .val (.int p2), .val (.int p3), .val (.long p4), .second, .val (.int pr), .val (.int sg), .val (.int ct), .unset, .unset, .unset, .unset, .unset, .unset, .unset, .unset, .unset, .unset] [(.int (p2 &&& (2147483647 : Int32)))])) _
    refine XS.iconst X0.here hx rfl (hb hby at_27) ?_
    refine XS.irem X0.here hx rfl (hb hby at_28) rfl (by decide) ?_
    refine XS.istore X0.here hx rfl (hb hby at_29) rfl (l' := #[.val (.int p1), .val (.int p2), .val (.int p3), .val (.long p4), .second, .val (.int pr), .val (.int sg), .val (.int ct), .val (.int ((p2 &&& (2147483647 : Int32)) - ((p2 &&& (2147483647 : Int32)) / (3 : Int32)) * (3 : Int32))), .unset, .unset, .unset, .unset, .unset, .unset, .unset, .unset, .unset]) rfl ?_
    exact k
  obtain ⟨ai, h_ai⟩ : ∃ z : Int32, z = ((p2 &&& (2147483647 : Int32)) - ((p2 &&& (2147483647 : Int32)) / (3 : Int32)) * (3 : Int32)) := ⟨_, rfl⟩
  rw [← h_ai] at C270
  have hai := own_ai p2
  rw [← h_ai] at hai
  have h3a := own_sub_c (show (3 : Int32).toInt = 3 from rfl) (rfl : ai.toInt = ai.toInt) (by omega) (by omega)
  have hnz : (3 : Int32) - ai ≠ 0 := fun y => by rw [y, show (0 : Int32).toInt = 0 from rfl] at h3a; omega
  have C271 : ∀ t, Steps p.tables e below (s₁.setTop (mkF m 47 #[.val (.int p1), .val (.int p2), .val (.int p3), .val (.long p4), .second, .val (.int pr), .val (.int sg), .val (.int ct), .val (.int ai), .val (.int ((ai + (1 : Int32)) + ((p3 &&& (2147483647 : Int32)) - ((p3 &&& (2147483647 : Int32)) / ((3 : Int32) - ai)) * ((3 : Int32) - ai)))), .unset, .unset, .unset, .unset, .unset, .unset, .unset, .unset] [])) t → Steps p.tables e below (s₁.setTop (entryFrame m #[(.int p1), (.int p2), (.int p3), (.long p4)] maxLocals)) t := by
    intro t k
    refine C270 t ?_
    refine XS.iload X0.here hx rfl (hb hby at_31) rfl ?_
    refine XS.iconst X0.here hx rfl (hb hby at_33) ?_
    refine XS.iadd X0.here hx rfl (hb hby at_34) rfl ?_
    show Steps p.tables e below (s₁.setTop (mkF m 35 #[.val (.int p1), .val (.int p2), .val (.int p3), .val (.long p4), .second, .val (.int pr), .val (.int sg), .val (.int ct), .val (.int ai), .unset, .unset, .unset, .unset, .unset, .unset, .unset, .unset, .unset] [(.int (ai + (1 : Int32)))])) _
    refine XS.iloadN X0.here hx rfl (hb hby at_35) rfl ?_
    refine X0.ldcInt hx hown (mvT hZ (hw _ (List.mem_of_getElem? (i := 0) rfl))) (g := (mkF m 36 #[.val (.int p1), .val (.int p2), .val (.int p3), .val (.long p4), .second, .val (.int pr), .val (.int sg), .val (.int ct), .val (.int ai), .unset, .unset, .unset, .unset, .unset, .unset, .unset, .unset, .unset] [(.int p3), (.int (ai + (1 : Int32)))])) rfl (hb hby at_36) _ ?_
    refine XS.iand X0.here hx rfl (hb hby at_38) rfl ?_
    refine XS.iconst X0.here hx rfl (hb hby at_39) ?_
    show Steps p.tables e below (s₁.setTop (mkF m 40 #[.val (.int p1), .val (.int p2), .val (.int p3), .val (.long p4), .second, .val (.int pr), .val (.int sg), .val (.int ct), .val (.int ai), .unset, .unset, .unset, .unset, .unset, .unset, .unset, .unset, .unset] [(.int (3 : Int32)), (.int (p3 &&& (2147483647 : Int32))), (.int (ai + (1 : Int32)))])) _
    refine XS.iload X0.here hx rfl (hb hby at_40) rfl ?_
    refine XS.isub X0.here hx rfl (hb hby at_42) rfl ?_
    refine XS.irem X0.here hx rfl (hb hby at_43) rfl hnz ?_
    refine XS.iadd X0.here hx rfl (hb hby at_44) rfl ?_
    show Steps p.tables e below (s₁.setTop (mkF m 45 #[.val (.int p1), .val (.int p2), .val (.int p3), .val (.long p4), .second, .val (.int pr), .val (.int sg), .val (.int ct), .val (.int ai), .unset, .unset, .unset, .unset, .unset, .unset, .unset, .unset, .unset] [(.int ((ai + (1 : Int32)) + ((p3 &&& (2147483647 : Int32)) - ((p3 &&& (2147483647 : Int32)) / ((3 : Int32) - ai)) * ((3 : Int32) - ai))))])) _
    refine XS.istore X0.here hx rfl (hb hby at_45) rfl (l' := #[.val (.int p1), .val (.int p2), .val (.int p3), .val (.long p4), .second, .val (.int pr), .val (.int sg), .val (.int ct), .val (.int ai), .val (.int ((ai + (1 : Int32)) + ((p3 &&& (2147483647 : Int32)) - ((p3 &&& (2147483647 : Int32)) / ((3 : Int32) - ai)) * ((3 : Int32) - ai)))), .unset, .unset, .unset, .unset, .unset, .unset, .unset, .unset]) rfl ?_
    exact k
  obtain ⟨bi, h_bi⟩ : ∃ z : Int32, z = ((ai + (1 : Int32)) + ((p3 &&& (2147483647 : Int32)) - ((p3 &&& (2147483647 : Int32)) / ((3 : Int32) - ai)) * ((3 : Int32) - ai))) := ⟨_, rfl⟩
  rw [← h_bi] at C271
  have hbi := own_bi p3 hai
  rw [← h_bi] at hbi
  obtain ⟨na, hna⟩ : ∃ y : Nat, y = ai.toInt.toNat := ⟨_, rfl⟩
  obtain ⟨nb, hnb⟩ : ∃ y : Nat, y = bi.toInt.toNat := ⟨_, rfl⟩
  have hA : ai.toInt = (na : Int) := by omega
  have hB : bi.toInt = (nb : Int) := by omega
  have hab : na < nb := by omega
  have hb4 : nb < 4 := by omega
  have hAB : ai ≠ bi := fun y => by rw [y] at hA; omega
  have hia : ¬ ai < 0 ∧ ai.toNatClampNeg < 4 := own_idx hA (by omega)
  have hib : ¬ bi < 0 ∧ bi.toNatClampNeg < 4 := own_idx hB hb4
  have C272 : ∀ t, Steps p.tables e below (s₁.setTop (mkF m 48 #[.val (.int p1), .val (.int p2), .val (.int p3), .val (.long p4), .second, .val (.int pr), .val (.int sg), .val (.int ct), .val (.int ai), .val (.int bi), .unset, .unset, .unset, .unset, .unset, .unset, .unset, .unset] [(.int (4 : Int32))])) t → Steps p.tables e below (s₁.setTop (entryFrame m #[(.int p1), (.int p2), (.int p3), (.long p4)] maxLocals)) t := by
    intro t k
    refine C271 t ?_
    refine XS.iconst X0.here hx rfl (hb hby at_47) ?_
    exact k
  obtain ⟨T273, h273, k273, X273, e273, E273, A273, st273⟩ := newP X0 hx hZ (hw _ (List.mem_of_getElem? (i := 1) rfl)) e0 (g := (mkF m 48 #[.val (.int p1), .val (.int p2), .val (.int p3), .val (.long p4), .second, .val (.int pr), .val (.int sg), .val (.int ct), .val (.int ai), .val (.int bi), .unset, .unset, .unset, .unset, .unset, .unset, .unset, .unset] [(.int (4 : Int32))])) rfl (hb hby at_48) rfl (by decide) (cap := 4) (by decide) (by decide) (by decide) (by decide)
  obtain ⟨b273, g273⟩ : ∃ z, z = h0.size := ⟨_, rfl⟩
  rw [← g273] at A273 st273
  have C273 : ∀ t, Steps p.tables e below (T273.setTop (mkF m 50 #[.val (.int p1), .val (.int p2), .val (.int p3), .val (.long p4), .second, .val (.int pr), .val (.int sg), .val (.int ct), .val (.int ai), .val (.int bi), .unset, .unset, .unset, .unset, .unset, .unset, .unset, .unset] [(.ref b273)])) t → Steps p.tables e below (s₁.setTop (entryFrame m #[(.int p1), (.int p2), (.int p3), (.long p4)] maxLocals)) t := fun t k => C272 t (st273 t k)
  have V0 : OwnA Z h273 b273 .double 4 (fun _ => .double 0) := OwnA.new A273 rfl
  have Z1 : n0 ≤ h273.size := Nat.le_trans Z0 E273.1
  have gw : n0 ≤ b273 := Nat.le_trans Z0 (Nat.le_of_eq g273.symm)
  have C274 : ∀ t, Steps p.tables e below (T273.setTop (mkF m 57 #[.val (.int p1), .val (.int p2), .val (.int p3), .val (.long p4), .second, .val (.int pr), .val (.int sg), .val (.int ct), .val (.int ai), .val (.int bi), .val (.ref b273), .unset, .unset, .unset, .unset, .unset, .unset, .unset] [(.double 4607182418800017408), (.int ai), (.ref b273)])) t → Steps p.tables e below (s₁.setTop (entryFrame m #[(.int p1), (.int p2), (.int p3), (.long p4)] maxLocals)) t := by
    intro t k
    refine C273 t ?_
    refine XS.astore X273.here hx rfl (hb hby at_50) rfl rfl (l' := #[.val (.int p1), .val (.int p2), .val (.int p3), .val (.long p4), .second, .val (.int pr), .val (.int sg), .val (.int ct), .val (.int ai), .val (.int bi), .val (.ref b273), .unset, .unset, .unset, .unset, .unset, .unset, .unset]) rfl ?_
    refine XS.aload X273.here hx rfl (hb hby at_52) rfl rfl ?_
    refine XS.iload X273.here hx rfl (hb hby at_54) rfl ?_
    show Steps p.tables e below (T273.setTop (mkF m 56 #[.val (.int p1), .val (.int p2), .val (.int p3), .val (.long p4), .second, .val (.int pr), .val (.int sg), .val (.int ct), .val (.int ai), .val (.int bi), .val (.ref b273), .unset, .unset, .unset, .unset, .unset, .unset, .unset] [(.int ai), (.ref b273)])) _
    refine XS.dconst1 X273.here hx rfl (hb hby at_56) (v := 4607182418800017408) rfl ?_
    exact k
  obtain ⟨c275, A275, S275, V275⟩ := id V0
  obtain ⟨T275, h275, X275, e275, W275, st275⟩ := stD X273 hx hZ e273 A275 (j := ai) (own_in hia S275) (g := (mkF m 57 #[.val (.int p1), .val (.int p2), .val (.int p3), .val (.long p4), .second, .val (.int pr), .val (.int sg), .val (.int ct), .val (.int ai), .val (.int bi), .val (.ref b273), .unset, .unset, .unset, .unset, .unset, .unset, .unset] [(.double 4607182418800017408), (.int ai), (.ref b273)])) rfl rfl (hb hby at_57)
  have N275 := Fr.snoc X275 N0 gw
  have C275 : ∀ t, Steps p.tables e below (T275.setTop (mkF m 58 #[.val (.int p1), .val (.int p2), .val (.int p3), .val (.long p4), .second, .val (.int pr), .val (.int sg), .val (.int ct), .val (.int ai), .val (.int bi), .val (.ref b273), .unset, .unset, .unset, .unset, .unset, .unset, .unset] [])) t → Steps p.tables e below (s₁.setTop (entryFrame m #[(.int p1), (.int p2), (.int p3), (.long p4)] maxLocals)) t := fun t k => C274 t (st275 t k)
  have V1 := V0.set W275
  have zb : OwnZ (FP.i2d (ct - (1 : Int32))) ((4 - 1) * Jvm.FP.Core.one64) := by
    have hc1 : (ct - (1 : Int32)).toInt = ((4 - 1 : Nat) : Int) := own_sub_c hct (show (1 : Int32).toInt = 1 from rfl) (by decide) (by decide)
    have y := own_i2d (v := ct - (1 : Int32)) (by rw [hc1]; decide)
    rw [hc1, Int.toNat_natCast] at y
    exact y
  have C276 : ∀ t, Steps p.tables e below (T275.setTop (mkF m 67 #[.val (.int p1), .val (.int p2), .val (.int p3), .val (.long p4), .second, .val (.int pr), .val (.int sg), .val (.int ct), .val (.int ai), .val (.int bi), .val (.ref b273), .unset, .unset, .unset, .unset, .unset, .unset, .unset] [(.double (FP.i2d (ct - (1 : Int32)))), (.int bi), (.ref b273)])) t → Steps p.tables e below (s₁.setTop (entryFrame m #[(.int p1), (.int p2), (.int p3), (.long p4)] maxLocals)) t := by
    intro t k
    refine C275 t ?_
    refine XS.aload X275.here hx rfl (hb hby at_58) rfl rfl ?_
    refine XS.iload X275.here hx rfl (hb hby at_60) rfl ?_
    refine XS.iload X275.here hx rfl (hb hby at_62) rfl ?_
    show Steps p.tables e below (T275.setTop (mkF m 64 #[.val (.int p1), .val (.int p2), .val (.int p3), .val (.long p4), .second, .val (.int pr), .val (.int sg), .val (.int ct), .val (.int ai), .val (.int bi), .val (.ref b273), .unset, .unset, .unset, .unset, .unset, .unset, .unset] [(.int ct), (.int bi), (.ref b273)])) _
    refine XS.iconst X275.here hx rfl (hb hby at_64) ?_
    refine XS.isub X275.here hx rfl (hb hby at_65) rfl ?_
    refine XS.i2dS X275.here hx rfl (hb hby at_66) rfl rfl ?_
    exact k
  obtain ⟨c277, A277, S277, V277⟩ := id V1
  obtain ⟨T277, h277, X277, e277, W277, st277⟩ := stD X275 hx hZ e275 A277 (j := bi) (own_in hib S277) (g := (mkF m 67 #[.val (.int p1), .val (.int p2), .val (.int p3), .val (.long p4), .second, .val (.int pr), .val (.int sg), .val (.int ct), .val (.int ai), .val (.int bi), .val (.ref b273), .unset, .unset, .unset, .unset, .unset, .unset, .unset] [(.double (FP.i2d (ct - (1 : Int32)))), (.int bi), (.ref b273)])) rfl rfl (hb hby at_67)
  have N277 := Fr.snoc X277 N275 gw
  have C277 : ∀ t, Steps p.tables e below (T277.setTop (mkF m 68 #[.val (.int p1), .val (.int p2), .val (.int p3), .val (.long p4), .second, .val (.int pr), .val (.int sg), .val (.int ct), .val (.int ai), .val (.int bi), .val (.ref b273), .unset, .unset, .unset, .unset, .unset, .unset, .unset] [])) t → Steps p.tables e below (s₁.setTop (entryFrame m #[(.int p1), (.int p2), (.int p3), (.long p4)] maxLocals)) t := fun t k => C276 t (st277 t k)
  have V2 : OwnA Z h277 b273 .double 4 (fun i => .double (own_wt na nb (FP.i2d (ct - (1 : Int32))) i)) := (V1.set W277).congr (fun i _ => by rw [own_cl hA, own_cl hB]; exact own_wt_set i)
  have Z2 : n0 ≤ h277.size := by rw [Wr.size W277, Wr.size W275]; exact Z1
  obtain ⟨T278, h278, X278, e278, E278, A278, D278, -, st278⟩ := newO X277 hx hZ hown (hw _ (List.mem_of_getElem? (i := 2) rfl)) (hw _ (List.mem_of_getElem? (i := 3) rfl)) (hw _ (List.mem_of_getElem? (i := 4) rfl)) e277 (g := (mkF m 68 #[.val (.int p1), .val (.int p2), .val (.int p3), .val (.long p4), .second, .val (.int pr), .val (.int sg), .val (.int ct), .val (.int ai), .val (.int bi), .val (.ref b273), .unset, .unset, .unset, .unset, .unset, .unset, .unset] [])) rfl (hb hby at_68) (by decide) (by decide)
  obtain ⟨b278, g278⟩ : ∃ z, z = h277.size := ⟨_, rfl⟩
  rw [← g278] at A278 D278 st278
  have C278 : ∀ t, Steps p.tables e below (T278.setTop (mkF m 71 #[.val (.int p1), .val (.int p2), .val (.int p3), .val (.long p4), .second, .val (.int pr), .val (.int sg), .val (.int ct), .val (.int ai), .val (.int bi), .val (.ref b273), .unset, .unset, .unset, .unset, .unset, .unset, .unset] [(.ref b278)])) t → Steps p.tables e below (s₁.setTop (entryFrame m #[(.int p1), (.int p2), (.int p3), (.long p4)] maxLocals)) t := fun t k => C277 t (st278 t k)
  have F_s0 : Fld Z h278 b278 "com/example/mutatune/mutatune/engine/SeededRandom" "s0" "J" (.long 0) := D278 (Or.inl (hw _ (List.mem_of_getElem? (i := 18) rfl))) (ty := .long) (by decide)
  have F_s1 : Fld Z h278 b278 "com/example/mutatune/mutatune/engine/SeededRandom" "s1" "J" (.long 0) := D278 (Or.inl (hw _ (List.mem_of_getElem? (i := 20) rfl))) (ty := .long) (by decide)
  have F_s2 : Fld Z h278 b278 "com/example/mutatune/mutatune/engine/SeededRandom" "s2" "J" (.long 0) := D278 (Or.inl (hw _ (List.mem_of_getElem? (i := 22) rfl))) (ty := .long) (by decide)
  have F_s3 : Fld Z h278 b278 "com/example/mutatune/mutatune/engine/SeededRandom" "s3" "J" (.long 0) := D278 (Or.inl (hw _ (List.mem_of_getElem? (i := 24) rfl))) (ty := .long) (by decide)
  have Z3 : n0 ≤ h278.size := Nat.le_trans Z2 E278.1
  have gra : n0 ≤ b278 := Nat.le_trans Z2 (Nat.le_of_eq g278.symm)
  have C279 : ∀ t, Steps p.tables e below (T278.setTop (mkF m 73 #[.val (.int p1), .val (.int p2), .val (.int p3), .val (.long p4), .second, .val (.int pr), .val (.int sg), .val (.int ct), .val (.int ai), .val (.int bi), .val (.ref b273), .unset, .unset, .unset, .unset, .unset, .unset, .unset] [(.long p4), (.ref b278), (.ref b278)])) t → Steps p.tables e below (s₁.setTop (entryFrame m #[(.int p1), (.int p2), (.int p3), (.long p4)] maxLocals)) t := by
    intro t k
    refine C278 t ?_
    refine XS.dup X278.here hx rfl (hb hby at_71) rfl rfl ?_
    refine XS.lloadN X278.here hx rfl (hb hby at_72) rfl ?_
    exact k
  obtain ⟨_, _, ⟨T280, L280, k280, n280⟩, -, X280, ⟨Lc280, hQ280, l280, y280, z280⟩, st280⟩ := X278.specialBack hx (y := (⟨"com/example/mutatune/mutatune/engine/SeededRandom", "<init>", "(J)V"⟩ : MethodName)) rfl hown (mvT hZ (hw _ (List.mem_of_getElem? (i := 5) rfl))) (mvT hZ (hw _ (List.mem_of_getElem? (i := 6) rfl))) (mvT hZ (hw _ (List.mem_of_getElem? (i := 7) rfl))) (by decide) (backOf (W := 1) (rm1 l Z a0 hw [] b278 p4 h278 n0 Z3 F_s0 F_s1 F_s2 F_s3 A278 gra) hZ (hw _ (List.mem_of_getElem? (i := 7) rfl)) (hw _ (List.mem_of_getElem? (i := 4) rfl)) (by decide) (by decide)) (g := (mkF m 73 #[.val (.int p1), .val (.int p2), .val (.int p3), .val (.long p4), .second, .val (.int pr), .val (.int sg), .val (.int ct), .val (.int ai), .val (.int bi), .val (.ref b273), .unset, .unset, .unset, .unset, .unset, .unset, .unset] [(.long p4), (.ref b278), (.ref b278)])) rfl (by rw [hml]; rfl) (Steps.refl _) (a := b278) (argsL := [(.long p4)]) (rest := [(.ref b278)]) (lenOf pd8 rfl) rfl (by show 2 * 0 + _ ≤ _; exact Nat.le_of_eq rfl) (hb hby at_73) (fun _ _ => ⟨rfl, e278, (by decide : 2 + 0 ≤ _), (by decide : 8 + 0 ≤ _)⟩)
  dsimp only [Pt.U, Pt.locs, Pt.cells, Pt.slots] at X280 l280 y280 z280 st280 hQ280
  subst l280 y280 z280
  obtain ⟨rfl, N280q, R280, K280⟩ := hQ280
  have N280 := Fr.app N277 N280q
  have C280 : ∀ t, Steps p.tables e below (T280.setTop (mkF m 76 #[.val (.int p1), .val (.int p2), .val (.int p3), .val (.long p4), .second, .val (.int pr), .val (.int sg), .val (.int ct), .val (.int ai), .val (.int bi), .val (.ref b273), .unset, .unset, .unset, .unset, .unset, .unset, .unset] [(.ref b278)])) t → Steps p.tables e below (s₁.setTop (entryFrame m #[(.int p1), (.int p2), (.int p3), (.long p4)] maxLocals)) t := fun t k => C279 t (st280.trans k)
  have Z4 : n0 ≤ T280.heap.size := Nat.le_trans Z3 K280.1
  have V3 := (V2.ext E278).keep K280 (own_nin1 (own_natne (by have y := own_natlt V2.lt; omega)))
  have NZ : OwnNZ (own_mix (p4 + (-7046029254386353131 : Int64))) (own_mix ((p4 + (-7046029254386353131 : Int64)) + (-7046029254386353131 : Int64))) (own_mix (((p4 + (-7046029254386353131 : Int64)) + (-7046029254386353131 : Int64)) + (-7046029254386353131 : Int64))) (own_mix ((((p4 + (-7046029254386353131 : Int64)) + (-7046029254386353131 : Int64)) + (-7046029254386353131 : Int64)) + (-7046029254386353131 : Int64))) := own_seed_nz _ _ _
  have C281 : ∀ t, Steps p.tables e below (T280.setTop (mkF m 78 #[.val (.int p1), .val (.int p2), .val (.int p3), .val (.long p4), .second, .val (.int pr), .val (.int sg), .val (.int ct), .val (.int ai), .val (.int bi), .val (.ref b273), .val (.ref b278), .unset, .unset, .unset, .unset, .unset, .unset] [])) t → Steps p.tables e below (s₁.setTop (entryFrame m #[(.int p1), (.int p2), (.int p3), (.long p4)] maxLocals)) t := by
    intro t k
    refine C280 t ?_
    refine XS.astore X280.here hx rfl (hb hby at_76) rfl rfl (l' := #[.val (.int p1), .val (.int p2), .val (.int p3), .val (.long p4), .second, .val (.int pr), .val (.int sg), .val (.int ct), .val (.int ai), .val (.int bi), .val (.ref b273), .val (.ref b278), .unset, .unset, .unset, .unset, .unset, .unset]) rfl ?_
    exact k
  obtain ⟨T282, h282, X282, e282, E282, A282, D282, -, st282⟩ := newO X280 hx hZ hown (hw _ (List.mem_of_getElem? (i := 25) rfl)) (hw _ (List.mem_of_getElem? (i := 26) rfl)) (hw _ (List.mem_of_getElem? (i := 27) rfl)) rfl (g := (mkF m 78 #[.val (.int p1), .val (.int p2), .val (.int p3), .val (.long p4), .second, .val (.int pr), .val (.int sg), .val (.int ct), .val (.int ai), .val (.int bi), .val (.ref b273), .val (.ref b278), .unset, .unset, .unset, .unset, .unset, .unset] [])) rfl (hb hby at_78) (by decide) (by decide)
  obtain ⟨b282, g282⟩ : ∃ z, z = T280.heap.size := ⟨_, rfl⟩
  rw [← g282] at A282 D282 st282
  have C282 : ∀ t, Steps p.tables e below (T282.setTop (mkF m 81 #[.val (.int p1), .val (.int p2), .val (.int p3), .val (.long p4), .second, .val (.int pr), .val (.int sg), .val (.int ct), .val (.int ai), .val (.int bi), .val (.ref b273), .val (.ref b278), .unset, .unset, .unset, .unset, .unset, .unset] [(.ref b282)])) t → Steps p.tables e below (s₁.setTop (entryFrame m #[(.int p1), (.int p2), (.int p3), (.long p4)] maxLocals)) t := fun t k => C281 t (st282 t k)
  have G1 : Fld Z h282 b282 "com/example/mutatune/mutatune/engine/UniversalSampling" "slots" "[I" .null := D282 (Or.inr (hw _ (List.mem_of_getElem? (i := 52) rfl))) (ty := (.array .int)) (by decide)
  have G2 : Fld Z h282 b282 "com/example/mutatune/mutatune/engine/UniversalSampling" "next" "I" (.int 0) := D282 (Or.inl (hw _ (List.mem_of_getElem? (i := 73) rfl))) (ty := .int) (by decide)
  have Z5 : n0 ≤ h282.size := Nat.le_trans Z4 E282.1
  have gu : n0 ≤ b282 := Nat.le_trans Z4 (Nat.le_of_eq g282.symm)
  have C283 : ∀ t, Steps p.tables e below (T282.setTop (mkF m 90 #[.val (.int p1), .val (.int p2), .val (.int p3), .val (.long p4), .second, .val (.int pr), .val (.int sg), .val (.int ct), .val (.int ai), .val (.int bi), .val (.ref b273), .val (.ref b278), .unset, .unset, .unset, .unset, .unset, .unset] [(.ref b278), (.int sg), (.int pr), (.ref b273), (.ref b282), (.ref b282)])) t → Steps p.tables e below (s₁.setTop (entryFrame m #[(.int p1), (.int p2), (.int p3), (.long p4)] maxLocals)) t := by
    intro t k
    refine C282 t ?_
    refine XS.dup X282.here hx rfl (hb hby at_81) rfl rfl ?_
    refine XS.aload X282.here hx rfl (hb hby at_82) rfl rfl ?_
    refine XS.iload X282.here hx rfl (hb hby at_84) rfl ?_
    show Steps p.tables e below (T282.setTop (mkF m 86 #[.val (.int p1), .val (.int p2), .val (.int p3), .val (.long p4), .second, .val (.int pr), .val (.int sg), .val (.int ct), .val (.int ai), .val (.int bi), .val (.ref b273), .val (.ref b278), .unset, .unset, .unset, .unset, .unset, .unset] [(.int pr), (.ref b273), (.ref b282), (.ref b282)])) _
    refine XS.iload X282.here hx rfl (hb hby at_86) rfl ?_
    refine XS.aload X282.here hx rfl (hb hby at_88) rfl rfl ?_
    exact k
  obtain ⟨_, _, ⟨T284, L284, k284, n284⟩, -, X284, ⟨Lc284, hQ284, l284, y284, z284⟩, st284⟩ := X282.specialBack hx (y := (⟨"com/example/mutatune/mutatune/engine/UniversalSampling", "<init>", "([DIILcom/example/mutatune/mutatune/engine/SeededRandom;)V"⟩ : MethodName)) rfl hown (mvT hZ (hw _ (List.mem_of_getElem? (i := 28) rfl))) (mvT hZ (hw _ (List.mem_of_getElem? (i := 29) rfl))) (mvT hZ (hw _ (List.mem_of_getElem? (i := 30) rfl))) (by decide) (backOf (W := 1) (rm4 l Z a0 hw [] b282 b273 pr sg b278 na nb 4 1 ai bi (FP.i2d (ct - (1 : Int32))) (own_mix (p4 + (-7046029254386353131 : Int64))) (own_mix ((p4 + (-7046029254386353131 : Int64)) + (-7046029254386353131 : Int64))) (own_mix (((p4 + (-7046029254386353131 : Int64)) + (-7046029254386353131 : Int64)) + (-7046029254386353131 : Int64))) (own_mix ((((p4 + (-7046029254386353131 : Int64)) + (-7046029254386353131 : Int64)) + (-7046029254386353131 : Int64)) + (-7046029254386353131 : Int64))) h282 n0 Z5 G1 G2 A282 gu gra (V3.ext E282) (R280.ext E282) NZ hct0 (by decide) (by decide) hab hb4 hA hB hAB zb hpr (by decide) (by decide) (by decide)) hZ (hw _ (List.mem_of_getElem? (i := 30) rfl)) (hw _ (List.mem_of_getElem? (i := 27) rfl)) (by decide) (by decide)) (g := (mkF m 90 #[.val (.int p1), .val (.int p2), .val (.int p3), .val (.long p4), .second, .val (.int pr), .val (.int sg), .val (.int ct), .val (.int ai), .val (.int bi), .val (.ref b273), .val (.ref b278), .unset, .unset, .unset, .unset, .unset, .unset] [(.ref b278), (.int sg), (.int pr), (.ref b273), (.ref b282), (.ref b282)])) rfl (by rw [hml]; rfl) (Steps.refl _) (a := b282) (argsL := [(.ref b273), (.int pr), (.int sg), (.ref b278)]) (rest := [(.ref b282)]) (lenOf pd9 rfl) rfl (by show 2 * 0 + _ ≤ _; exact Nat.le_of_eq rfl) (hb hby at_90) (fun _ _ => ⟨rfl, e282, (by decide : 3 + 1 ≤ _), (by decide : 10 + 6 ≤ _)⟩)
  dsimp only [Pt.U, Pt.locs, Pt.cells, Pt.slots] at X284 l284 y284 z284 st284 hQ284
  subst l284 y284 z284
  obtain ⟨rfl, N284q, r, q, U284, hq, fr284, s284⟩ := hQ284
  have N284 := Fr.app N280 N284q
  have C284 : ∀ t, Steps p.tables e below (T284.setTop (mkF m 93 #[.val (.int p1), .val (.int p2), .val (.int p3), .val (.long p4), .second, .val (.int pr), .val (.int sg), .val (.int ct), .val (.int ai), .val (.int bi), .val (.ref b273), .val (.ref b278), .unset, .unset, .unset, .unset, .unset, .unset] [(.ref b282)])) t → Steps p.tables e below (s₁.setTop (entryFrame m #[(.int p1), (.int p2), (.int p3), (.long p4)] maxLocals)) t := fun t k => C283 t (st284.trans k)
  have Z6 : n0 ≤ T284.heap.size := Nat.le_trans Z5 s284
  obtain ⟨y0, hy0⟩ : ∃ y : Int32, y = (if 0 = q then ai else bi) := ⟨_, rfl⟩
  obtain ⟨y1, hy1⟩ : ∃ y : Int32, y = (if 1 = q then ai else bi) := ⟨_, rfl⟩
  obtain ⟨y2, hy2⟩ : ∃ y : Int32, y = (if 2 = q then ai else bi) := ⟨_, rfl⟩
  obtain ⟨y3, hy3⟩ : ∃ y : Int32, y = (if 3 = q then ai else bi) := ⟨_, rfl⟩
  have C285 : ∀ t, Steps p.tables e below (T284.setTop (mkF m 99 #[.val (.int p1), .val (.int p2), .val (.int p3), .val (.long p4), .second, .val (.int pr), .val (.int sg), .val (.int ct), .val (.int ai), .val (.int bi), .val (.ref b273), .val (.ref b278), .val (.ref b282), .unset, .unset, .unset, .unset, .unset] [(.ref b278), (.ref b282)])) t → Steps p.tables e below (s₁.setTop (entryFrame m #[(.int p1), (.int p2), (.int p3), (.long p4)] maxLocals)) t := by
    intro t k
    refine C284 t ?_
    refine XS.astore X284.here hx rfl (hb hby at_93) rfl rfl (l' := #[.val (.int p1), .val (.int p2), .val (.int p3), .val (.long p4), .second, .val (.int pr), .val (.int sg), .val (.int ct), .val (.int ai), .val (.int bi), .val (.ref b273), .val (.ref b278), .val (.ref b282), .unset, .unset, .unset, .unset, .unset]) rfl ?_
    refine XS.aload X284.here hx rfl (hb hby at_95) rfl rfl ?_
    refine XS.aload X284.here hx rfl (hb hby at_97) rfl rfl ?_
    exact k
  obtain ⟨cq286, kq286, q286a, q286b, q286c⟩ := isOf hZ rfl U284.1
  obtain ⟨_, _, ⟨T286, L286, k286, n286⟩, -, X286, ⟨Lc286, hQ286, l286, y286, z286⟩, st286⟩ := X284.virtualBack hx (y := (⟨"com/example/mutatune/mutatune/engine/UniversalSampling", "pair", "(Lcom/example/mutatune/mutatune/engine/SeededRandom;)[I"⟩ : MethodName)) (z := (⟨"com/example/mutatune/mutatune/engine/UniversalSampling", "pair", "(Lcom/example/mutatune/mutatune/engine/SeededRandom;)[I"⟩ : MethodName)) hown (mvT hZ (hw _ (List.mem_of_getElem? (i := 67) rfl))) (mvT hZ (hw _ (List.mem_of_getElem? (i := 68) rfl))) (notFace_of_selects (args := #[]) (mvT hZ (hw _ (List.mem_of_getElem? (i := 70) rfl)))) (mvT hZ (hw _ (List.mem_of_getElem? (i := 70) rfl))) (mvT hZ (hw _ (List.mem_of_getElem? (i := 69) rfl))) (by decide) (backOf (W := 0) (rm12 l Z a0 hw [] b282 b278 r 4 0 1 2 0 q ai bi y0 y1 T284.heap n0 Z6 U284 gu rfl rfl (by decide) (by decide) (by decide) hy0 hy1) hZ (hw _ (List.mem_of_getElem? (i := 71) rfl)) (hw _ (List.mem_of_getElem? (i := 27) rfl)) (by decide) (by decide)) q286a q286c (g := (mkF m 99 #[.val (.int p1), .val (.int p2), .val (.int p3), .val (.long p4), .second, .val (.int pr), .val (.int sg), .val (.int ct), .val (.int ai), .val (.int bi), .val (.ref b273), .val (.ref b278), .val (.ref b282), .unset, .unset, .unset, .unset, .unset] [(.ref b278), (.ref b282)])) rfl (by rw [hml]; rfl) (Steps.refl _) (argsL := [(.ref b278)]) (rest := []) (lenOf pd10 rfl) rfl (by show 2 * 0 + _ ≤ _; exact Nat.le_of_eq rfl) (hb hby at_99) (fun _ _ => ⟨rfl, rfl, (by decide : 4 + 1 ≤ _), (by decide : 16 + 2 ≤ _)⟩)
  dsimp only [Pt.U, Pt.locs, Pt.cells, Pt.slots] at X286 l286 y286 z286 st286 hQ286
  subst l286 y286 z286
  obtain ⟨pa286, rfl, N286q, P286, U286, fp286, K286⟩ := hQ286
  have N286 := Fr.app N284 N286q
  have C286 : ∀ t, Steps p.tables e below (T286.setTop (mkF m 102 #[.val (.int p1), .val (.int p2), .val (.int p3), .val (.long p4), .second, .val (.int pr), .val (.int sg), .val (.int ct), .val (.int ai), .val (.int bi), .val (.ref b273), .val (.ref b278), .val (.ref b282), .unset, .unset, .unset, .unset, .unset] [(.ref pa286)])) t → Steps p.tables e below (s₁.setTop (entryFrame m #[(.int p1), (.int p2), (.int p3), (.long p4)] maxLocals)) t := fun t k => C285 t (st286.trans k)
  have Z286 : n0 ≤ T286.heap.size := Nat.le_trans Z6 K286.1
  have C287 : ∀ t, Steps p.tables e below (T286.setTop (mkF m 121 #[.val (.int p1), .val (.int p2), .val (.int p3), .val (.long p4), .second, .val (.int pr), .val (.int sg), .val (.int ct), .val (.int ai), .val (.int bi), .val (.ref b273), .val (.ref b278), .val (.ref b282), .val (.ref pa286), .unset, .unset, .unset, .unset] [(.int (2 : Int32))])) t → Steps p.tables e below (s₁.setTop (entryFrame m #[(.int p1), (.int p2), (.int p3), (.long p4)] maxLocals)) t := by
    intro t k
    refine C286 t ?_
    refine XS.astore X286.here hx rfl (hb hby at_102) rfl rfl (l' := #[.val (.int p1), .val (.int p2), .val (.int p3), .val (.long p4), .second, .val (.int pr), .val (.int sg), .val (.int ct), .val (.int ai), .val (.int bi), .val (.ref b273), .val (.ref b278), .val (.ref b282), .val (.ref pa286), .unset, .unset, .unset, .unset]) rfl ?_
    refine XS.iload X286.here hx rfl (hb hby at_104) rfl ?_
    refine XS.iconst X286.here hx rfl (hb hby at_106) ?_
    show Steps p.tables e below (T286.setTop (mkF m 107 #[.val (.int p1), .val (.int p2), .val (.int p3), .val (.long p4), .second, .val (.int pr), .val (.int sg), .val (.int ct), .val (.int ai), .val (.int bi), .val (.ref b273), .val (.ref b278), .val (.ref b282), .val (.ref pa286), .unset, .unset, .unset, .unset] [(.int (2 : Int32)), (.int pr)])) _
    refine XS.icmpYes X286.here hx rfl (pc0 := 107) (pc' := 120) rfl (hb hby at_107) rfl (XT.ii_lt_t (by rw [own_lt32, hpr]; decide)) (by decide) (by decide) ?_
    refine XS.iconst X286.here hx rfl (hb hby at_120) ?_
    exact k
  obtain ⟨T288, h288, k288, X288, e288, E288, A288, st288⟩ := newP X286 hx hZ (hw _ (List.mem_of_getElem? (i := 50) rfl)) rfl (g := (mkF m 121 #[.val (.int p1), .val (.int p2), .val (.int p3), .val (.long p4), .second, .val (.int pr), .val (.int sg), .val (.int ct), .val (.int ai), .val (.int bi), .val (.ref b273), .val (.ref b278), .val (.ref b282), .val (.ref pa286), .unset, .unset, .unset, .unset] [(.int (2 : Int32))])) rfl (hb hby at_121) rfl (by decide) (cap := 2) (by decide) (by decide) (by decide) (by decide)
  obtain ⟨b288, g288⟩ : ∃ z, z = T286.heap.size := ⟨_, rfl⟩
  rw [← g288] at A288 st288
  have C288 : ∀ t, Steps p.tables e below (T288.setTop (mkF m 123 #[.val (.int p1), .val (.int p2), .val (.int p3), .val (.long p4), .second, .val (.int pr), .val (.int sg), .val (.int ct), .val (.int ai), .val (.int bi), .val (.ref b273), .val (.ref b278), .val (.ref b282), .val (.ref pa286), .unset, .unset, .unset, .unset] [(.ref b288)])) t → Steps p.tables e below (s₁.setTop (entryFrame m #[(.int p1), (.int p2), (.int p3), (.long p4)] maxLocals)) t := fun t k => C287 t (st288 t k)
  have B0 : OwnA Z h288 b288 .int 2 (fun _ => .int 0) := OwnA.new A288 rfl
  have gpb : n0 ≤ b288 := Nat.le_trans Z286 (Nat.le_of_eq g288.symm)
  have C289 : ∀ t, Steps p.tables e below (T288.setTop (mkF m 127 #[.val (.int p1), .val (.int p2), .val (.int p3), .val (.long p4), .second, .val (.int pr), .val (.int sg), .val (.int ct), .val (.int ai), .val (.int bi), .val (.ref b273), .val (.ref b278), .val (.ref b282), .val (.ref pa286), .unset, .unset, .unset, .unset] [(.int bi), (.int (0 : Int32)), (.ref b288), (.ref b288)])) t → Steps p.tables e below (s₁.setTop (entryFrame m #[(.int p1), (.int p2), (.int p3), (.long p4)] maxLocals)) t := by
    intro t k
    refine C288 t ?_
    refine XS.dup X288.here hx rfl (hb hby at_123) rfl rfl ?_
    refine XS.iconst X288.here hx rfl (hb hby at_124) ?_
    refine XS.iload X288.here hx rfl (hb hby at_125) rfl ?_
    exact k
  obtain ⟨c290, A290, S290, V290⟩ := id B0
  obtain ⟨T290, h290, X290, e290, W290, st290⟩ := stI X288 hx hZ e288 A290 (j := (0 : Int32)) (own_in own_i20 S290) (g := (mkF m 127 #[.val (.int p1), .val (.int p2), .val (.int p3), .val (.long p4), .second, .val (.int pr), .val (.int sg), .val (.int ct), .val (.int ai), .val (.int bi), .val (.ref b273), .val (.ref b278), .val (.ref b282), .val (.ref pa286), .unset, .unset, .unset, .unset] [(.int bi), (.int (0 : Int32)), (.ref b288), (.ref b288)])) rfl rfl (hb hby at_127)
  have N290 := Fr.snoc X290 N286 gpb
  have C290 : ∀ t, Steps p.tables e below (T290.setTop (mkF m 128 #[.val (.int p1), .val (.int p2), .val (.int p3), .val (.long p4), .second, .val (.int pr), .val (.int sg), .val (.int ct), .val (.int ai), .val (.int bi), .val (.ref b273), .val (.ref b278), .val (.ref b282), .val (.ref pa286), .unset, .unset, .unset, .unset] [(.ref b288)])) t → Steps p.tables e below (s₁.setTop (entryFrame m #[(.int p1), (.int p2), (.int p3), (.long p4)] maxLocals)) t := fun t k => C289 t (st290 t k)
  have B1 := B0.set W290
  have C291 : ∀ t, Steps p.tables e below (T290.setTop (mkF m 132 #[.val (.int p1), .val (.int p2), .val (.int p3), .val (.long p4), .second, .val (.int pr), .val (.int sg), .val (.int ct), .val (.int ai), .val (.int bi), .val (.ref b273), .val (.ref b278), .val (.ref b282), .val (.ref pa286), .unset, .unset, .unset, .unset] [(.int bi), (.int (1 : Int32)), (.ref b288), (.ref b288)])) t → Steps p.tables e below (s₁.setTop (entryFrame m #[(.int p1), (.int p2), (.int p3), (.long p4)] maxLocals)) t := by
    intro t k
    refine C290 t ?_
    refine XS.dup X290.here hx rfl (hb hby at_128) rfl rfl ?_
    refine XS.iconst X290.here hx rfl (hb hby at_129) ?_
    refine XS.iload X290.here hx rfl (hb hby at_130) rfl ?_
    exact k
  obtain ⟨c292, A292, S292, V292⟩ := id B1
  obtain ⟨T292, h292, X292, e292, W292, st292⟩ := stI X290 hx hZ e290 A292 (j := (1 : Int32)) (own_in own_i21 S292) (g := (mkF m 132 #[.val (.int p1), .val (.int p2), .val (.int p3), .val (.long p4), .second, .val (.int pr), .val (.int sg), .val (.int ct), .val (.int ai), .val (.int bi), .val (.ref b273), .val (.ref b278), .val (.ref b282), .val (.ref pa286), .unset, .unset, .unset, .unset] [(.int bi), (.int (1 : Int32)), (.ref b288), (.ref b288)])) rfl rfl (hb hby at_132)
  have N292 := Fr.snoc X292 N290 gpb
  have C292 : ∀ t, Steps p.tables e below (T292.setTop (mkF m 133 #[.val (.int p1), .val (.int p2), .val (.int p3), .val (.long p4), .second, .val (.int pr), .val (.int sg), .val (.int ct), .val (.int ai), .val (.int bi), .val (.ref b273), .val (.ref b278), .val (.ref b282), .val (.ref pa286), .unset, .unset, .unset, .unset] [(.ref b288)])) t → Steps p.tables e below (s₁.setTop (entryFrame m #[(.int p1), (.int p2), (.int p3), (.long p4)] maxLocals)) t := fun t k => C291 t (st292 t k)
  have B2 : OwnA Z h292 b288 .int 2 (fun i => .int (if i = 0 then bi else bi)) := (B1.set W292).congr (fun i hi => own_two2 hi)
  have u_b : b282 ≠ b288 := own_natne (by have y := own_natlt U286.1.lt; omega)
  have r_b : r ≠ b288 := own_natne (by have y := own_natlt U286.2.2.2.lt; omega)
  have p_b : pa286 ≠ b288 := own_natne (by have y := own_natlt P286.lt; omega)
  have UB := ((U286.ext E288).keep (Keep.of_wr W290) (own_nin1 u_b) (own_nin1 r_b)).keep (Keep.of_wr W292) (own_nin1 u_b) (own_nin1 r_b)
  have PB := ((P286.ext E288).other W290 p_b).other W292 p_b
  have ZB : n0 ≤ h292.size := by rw [Wr.size W292, Wr.size W290]; exact Nat.le_trans Z286 E288.1
  have hyb2 : y2 = bi := by rw [hy2, if_neg (by omega)]
  have C293 : ∀ t, Steps p.tables e below (T292.setTop (mkF m 145 #[.val (.int p1), .val (.int p2), .val (.int p3), .val (.long p4), .second, .val (.int pr), .val (.int sg), .val (.int ct), .val (.int ai), .val (.int bi), .val (.ref b273), .val (.ref b278), .val (.ref b282), .val (.ref pa286), .val (.ref b288), .unset, .unset, .unset] [(.ref b278), (.ref b282)])) t → Steps p.tables e below (s₁.setTop (entryFrame m #[(.int p1), (.int p2), (.int p3), (.long p4)] maxLocals)) t := by
    intro t k
    refine C292 t ?_
    refine XS.astore X292.here hx rfl (hb hby at_133) rfl rfl (l' := #[.val (.int p1), .val (.int p2), .val (.int p3), .val (.long p4), .second, .val (.int pr), .val (.int sg), .val (.int ct), .val (.int ai), .val (.int bi), .val (.ref b273), .val (.ref b278), .val (.ref b282), .val (.ref pa286), .val (.ref b288), .unset, .unset, .unset]) rfl ?_
    refine XS.iload X292.here hx rfl (hb hby at_135) rfl ?_
    refine XS.iconst X292.here hx rfl (hb hby at_137) ?_
    show Steps p.tables e below (T292.setTop (mkF m 138 #[.val (.int p1), .val (.int p2), .val (.int p3), .val (.long p4), .second, .val (.int pr), .val (.int sg), .val (.int ct), .val (.int ai), .val (.int bi), .val (.ref b273), .val (.ref b278), .val (.ref b282), .val (.ref pa286), .val (.ref b288), .unset, .unset, .unset] [(.int (1 : Int32)), (.int sg)])) _
    refine XS.icmpNo X292.here hx rfl (hb hby at_138) rfl (XT.ii_lt_f (by rw [own_lt32, hsg]; decide)) ?_
    refine XS.aload X292.here hx rfl (hb hby at_141) rfl rfl ?_
    refine XS.aload X292.here hx rfl (hb hby at_143) rfl rfl ?_
    exact k
  obtain ⟨cq294, kq294, q294a, q294b, q294c⟩ := isOf hZ e292 UB.1
  obtain ⟨_, _, ⟨T294, L294, k294, n294⟩, -, X294, ⟨Lc294, hQ294, l294, y294, z294⟩, st294⟩ := X292.virtualBack hx (y := (⟨"com/example/mutatune/mutatune/engine/UniversalSampling", "single", "(Lcom/example/mutatune/mutatune/engine/SeededRandom;)I"⟩ : MethodName)) (z := (⟨"com/example/mutatune/mutatune/engine/UniversalSampling", "single", "(Lcom/example/mutatune/mutatune/engine/SeededRandom;)I"⟩ : MethodName)) hown (mvT hZ (hw _ (List.mem_of_getElem? (i := 78) rfl))) (mvT hZ (hw _ (List.mem_of_getElem? (i := 79) rfl))) (notFace_of_selects (args := #[]) (mvT hZ (hw _ (List.mem_of_getElem? (i := 81) rfl)))) (mvT hZ (hw _ (List.mem_of_getElem? (i := 81) rfl))) (mvT hZ (hw _ (List.mem_of_getElem? (i := 80) rfl))) (by decide) (backOf (W := 0) (rm14 l Z a0 hw [] b282 b278 r 4 2 3 2 q ai bi y2 h292 n0 ZB UB gu rfl (by decide) (by decide) hy2) hZ (hw _ (List.mem_of_getElem? (i := 82) rfl)) (hw _ (List.mem_of_getElem? (i := 27) rfl)) (by decide) (by decide)) q294a q294c (g := (mkF m 145 #[.val (.int p1), .val (.int p2), .val (.int p3), .val (.long p4), .second, .val (.int pr), .val (.int sg), .val (.int ct), .val (.int ai), .val (.int bi), .val (.ref b273), .val (.ref b278), .val (.ref b282), .val (.ref pa286), .val (.ref b288), .unset, .unset, .unset] [(.ref b278), (.ref b282)])) rfl (by rw [hml]; rfl) (Steps.refl _) (argsL := [(.ref b278)]) (rest := []) (lenOf pd12 rfl) rfl (by show 2 * 0 + _ ≤ _; exact Nat.le_of_eq rfl) (hb hby at_145) (fun _ _ => ⟨rfl, e292, (by decide : 6 + 0 ≤ _), (by decide : 20 + 0 ≤ _)⟩)
  dsimp only [Pt.U, Pt.locs, Pt.cells, Pt.slots] at X294 l294 y294 z294 st294 hQ294
  subst l294 y294 z294
  obtain ⟨rfl, N294q, U294, s294, K294⟩ := hQ294
  have N294 := Fr.app N292 N294q
  have C294 : ∀ t, Steps p.tables e below (T294.setTop (mkF m 148 #[.val (.int p1), .val (.int p2), .val (.int p3), .val (.long p4), .second, .val (.int pr), .val (.int sg), .val (.int ct), .val (.int ai), .val (.int bi), .val (.ref b273), .val (.ref b278), .val (.ref b282), .val (.ref pa286), .val (.ref b288), .unset, .unset, .unset] [(.int y2)])) t → Steps p.tables e below (s₁.setTop (entryFrame m #[(.int p1), (.int p2), (.int p3), (.long p4)] maxLocals)) t := fun t k => C293 t (st294.trans k)
  have Z294 : n0 ≤ T294.heap.size := Nat.le_trans ZB s294
  have PB_294 := PB.keep K294 (own_nin1 (Ne.symm (own_ne UB.1 (hw _ (List.mem_of_getElem? (i := 26) rfl)) PB)))
  have B2_294 := B2.keep K294 (own_nin1 (Ne.symm (own_ne UB.1 (hw _ (List.mem_of_getElem? (i := 26) rfl)) B2)))
  rw [hyb2] at C294
  have hyb3 : y3 = bi := by rw [hy3, if_neg (by omega)]
  have C295 : ∀ t, Steps p.tables e below (T294.setTop (mkF m 165 #[.val (.int p1), .val (.int p2), .val (.int p3), .val (.long p4), .second, .val (.int pr), .val (.int sg), .val (.int ct), .val (.int ai), .val (.int bi), .val (.ref b273), .val (.ref b278), .val (.ref b282), .val (.ref pa286), .val (.ref b288), .val (.int bi), .unset, .unset] [(.ref b278), (.ref b282)])) t → Steps p.tables e below (s₁.setTop (entryFrame m #[(.int p1), (.int p2), (.int p3), (.long p4)] maxLocals)) t := by
    intro t k
    refine C294 t ?_
    refine XS.goto X294.here hx rfl (pc0 := 148) (pc' := 153) rfl (hb hby at_148) (by decide) (by decide) ?_
    refine XS.istore X294.here hx rfl (hb hby at_153) rfl (l' := #[.val (.int p1), .val (.int p2), .val (.int p3), .val (.long p4), .second, .val (.int pr), .val (.int sg), .val (.int ct), .val (.int ai), .val (.int bi), .val (.ref b273), .val (.ref b278), .val (.ref b282), .val (.ref pa286), .val (.ref b288), .val (.int bi), .unset, .unset]) rfl ?_
    refine XS.iload X294.here hx rfl (hb hby at_155) rfl ?_
    show Steps p.tables e below (T294.setTop (mkF m 157 #[.val (.int p1), .val (.int p2), .val (.int p3), .val (.long p4), .second, .val (.int pr), .val (.int sg), .val (.int ct), .val (.int ai), .val (.int bi), .val (.ref b273), .val (.ref b278), .val (.ref b282), .val (.ref pa286), .val (.ref b288), .val (.int bi), .unset, .unset] [(.int sg)])) _
    refine XS.iconst X294.here hx rfl (hb hby at_157) ?_
    refine XS.icmpNo X294.here hx rfl (hb hby at_158) rfl (XT.ii_lt_f (by rw [own_lt32, hsg]; decide)) ?_
    refine XS.aload X294.here hx rfl (hb hby at_161) rfl rfl ?_
    refine XS.aload X294.here hx rfl (hb hby at_163) rfl rfl ?_
    exact k
  obtain ⟨cq296, kq296, q296a, q296b, q296c⟩ := isOf hZ rfl U294.1
  obtain ⟨_, _, ⟨T296, L296, k296, n296⟩, -, X296, ⟨Lc296, hQ296, l296, y296, z296⟩, st296⟩ := X294.virtualBack hx (y := (⟨"com/example/mutatune/mutatune/engine/UniversalSampling", "single", "(Lcom/example/mutatune/mutatune/engine/SeededRandom;)I"⟩ : MethodName)) (z := (⟨"com/example/mutatune/mutatune/engine/UniversalSampling", "single", "(Lcom/example/mutatune/mutatune/engine/SeededRandom;)I"⟩ : MethodName)) hown (mvT hZ (hw _ (List.mem_of_getElem? (i := 78) rfl))) (mvT hZ (hw _ (List.mem_of_getElem? (i := 79) rfl))) (notFace_of_selects (args := #[]) (mvT hZ (hw _ (List.mem_of_getElem? (i := 81) rfl)))) (mvT hZ (hw _ (List.mem_of_getElem? (i := 81) rfl))) (mvT hZ (hw _ (List.mem_of_getElem? (i := 80) rfl))) (by decide) (backOf (W := 0) (rm14 l Z a0 hw [] b282 b278 r 4 3 4 3 q ai bi y3 T294.heap n0 Z294 U294 gu rfl (by decide) (by decide) hy3) hZ (hw _ (List.mem_of_getElem? (i := 82) rfl)) (hw _ (List.mem_of_getElem? (i := 27) rfl)) (by decide) (by decide)) q296a q296c (g := (mkF m 165 #[.val (.int p1), .val (.int p2), .val (.int p3), .val (.long p4), .second, .val (.int pr), .val (.int sg), .val (.int ct), .val (.int ai), .val (.int bi), .val (.ref b273), .val (.ref b278), .val (.ref b282), .val (.ref pa286), .val (.ref b288), .val (.int bi), .unset, .unset] [(.ref b278), (.ref b282)])) rfl (by rw [hml]; rfl) (Steps.refl _) (argsL := [(.ref b278)]) (rest := []) (lenOf pd12 rfl) rfl (by show 2 * 0 + _ ≤ _; exact Nat.le_of_eq rfl) (hb hby at_165) (fun _ _ => ⟨rfl, rfl, (by decide : 6 + 0 ≤ _), (by decide : 20 + 0 ≤ _)⟩)
  dsimp only [Pt.U, Pt.locs, Pt.cells, Pt.slots] at X296 l296 y296 z296 st296 hQ296
  subst l296 y296 z296
  obtain ⟨rfl, N296q, U296, s296, K296⟩ := hQ296
  have N296 := Fr.app N294 N296q
  have C296 : ∀ t, Steps p.tables e below (T296.setTop (mkF m 168 #[.val (.int p1), .val (.int p2), .val (.int p3), .val (.long p4), .second, .val (.int pr), .val (.int sg), .val (.int ct), .val (.int ai), .val (.int bi), .val (.ref b273), .val (.ref b278), .val (.ref b282), .val (.ref pa286), .val (.ref b288), .val (.int bi), .unset, .unset] [(.int y3)])) t → Steps p.tables e below (s₁.setTop (entryFrame m #[(.int p1), (.int p2), (.int p3), (.long p4)] maxLocals)) t := fun t k => C295 t (st296.trans k)
  have Z296 : n0 ≤ T296.heap.size := Nat.le_trans Z294 s296
  have PB_294_296 := PB_294.keep K296 (own_nin1 (Ne.symm (own_ne U294.1 (hw _ (List.mem_of_getElem? (i := 26) rfl)) PB_294)))
  have B2_294_296 := B2_294.keep K296 (own_nin1 (Ne.symm (own_ne U294.1 (hw _ (List.mem_of_getElem? (i := 26) rfl)) B2_294)))
  rw [hyb3] at C296
  obtain ⟨c297, A297, S297, V297⟩ := id PB_294_296
  obtain ⟨c298, A298, S298, V298⟩ := id B2_294_296
  obtain ⟨c299, A299, S299, V299⟩ := id PB_294_296
  obtain ⟨t0, et0, ht0⟩ := own_tal hAB hy0
  have C300 : ∀ t, Steps p.tables e below (T296.setTop (mkF m 209 #[.val (.int p1), .val (.int p2), .val (.int p3), .val (.long p4), .second, .val (.int pr), .val (.int sg), .val (.int ct), .val (.int ai), .val (.int bi), .val (.ref b273), .val (.ref b278), .val (.ref b282), .val (.ref pa286), .val (.ref b288), .val (.int bi), .val (.int bi), .unset] [(.int bi), (.int ai), (.int y0)])) t → Steps p.tables e below (s₁.setTop (entryFrame m #[(.int p1), (.int p2), (.int p3), (.long p4)] maxLocals)) t := by
    intro t k
    refine C296 t ?_
    refine XS.goto X296.here hx rfl (pc0 := 168) (pc' := 173) rfl (hb hby at_168) (by decide) (by decide) ?_
    refine XS.istore X296.here hx rfl (hb hby at_173) rfl (l' := #[.val (.int p1), .val (.int p2), .val (.int p3), .val (.long p4), .second, .val (.int pr), .val (.int sg), .val (.int ct), .val (.int ai), .val (.int bi), .val (.ref b273), .val (.ref b278), .val (.ref b282), .val (.ref pa286), .val (.ref b288), .val (.int bi), .val (.int bi), .unset]) rfl ?_
    refine XS.aload X296.here hx rfl (hb hby at_175) rfl rfl ?_
    show Steps p.tables e below (T296.setTop (mkF m 177 #[.val (.int p1), .val (.int p2), .val (.int p3), .val (.long p4), .second, .val (.int pr), .val (.int sg), .val (.int ct), .val (.int ai), .val (.int bi), .val (.ref b273), .val (.ref b278), .val (.ref b282), .val (.ref pa286), .val (.ref b288), .val (.int bi), .val (.int bi), .unset] [(.ref pa286)])) _
    refine XS.ifnullNo X296.here hx rfl (hb hby at_177) rfl  ?_
    refine XS.aload X296.here hx rfl (hb hby at_180) rfl rfl ?_
    refine XS.ifnullNo X296.here hx rfl (hb hby at_182) rfl  ?_
    refine XS.aload X296.here hx rfl (hb hby at_185) rfl rfl ?_
    show Steps p.tables e below (T296.setTop (mkF m 187 #[.val (.int p1), .val (.int p2), .val (.int p3), .val (.long p4), .second, .val (.int pr), .val (.int sg), .val (.int ct), .val (.int ai), .val (.int bi), .val (.ref b273), .val (.ref b278), .val (.ref b282), .val (.ref pa286), .val (.ref b288), .val (.int bi), .val (.int bi), .unset] [(.ref pa286)])) _
    refine X296.arraylength hx A297.1 (State.isArrayOf_alike hZ.alike A297.2.1) (g := (mkF m 187 #[.val (.int p1), .val (.int p2), .val (.int p3), .val (.long p4), .second, .val (.int pr), .val (.int sg), .val (.int ct), .val (.int ai), .val (.int bi), .val (.ref b273), .val (.ref b278), .val (.ref b282), .val (.ref pa286), .val (.ref b288), .val (.int bi), .val (.int bi), .unset] [(.ref pa286)])) rfl rfl (hb hby at_187) _ ?_
    rw [S297, (rfl : (2 : Nat).toInt32 = (2 : Int32))]
    refine XS.iconst X296.here hx rfl (hb hby at_188) ?_
    refine XS.icmpNo X296.here hx rfl (hb hby at_189) rfl (XT.ii_ne_f rfl) ?_
    refine XS.aload X296.here hx rfl (hb hby at_192) rfl rfl ?_
    show Steps p.tables e below (T296.setTop (mkF m 194 #[.val (.int p1), .val (.int p2), .val (.int p3), .val (.long p4), .second, .val (.int pr), .val (.int sg), .val (.int ct), .val (.int ai), .val (.int bi), .val (.ref b273), .val (.ref b278), .val (.ref b282), .val (.ref pa286), .val (.ref b288), .val (.int bi), .val (.int bi), .unset] [(.ref b288)])) _
    refine X296.arraylength hx A298.1 (State.isArrayOf_alike hZ.alike A298.2.1) (g := (mkF m 194 #[.val (.int p1), .val (.int p2), .val (.int p3), .val (.long p4), .second, .val (.int pr), .val (.int sg), .val (.int ct), .val (.int ai), .val (.int bi), .val (.ref b273), .val (.ref b278), .val (.ref b282), .val (.ref pa286), .val (.ref b288), .val (.int bi), .val (.int bi), .unset] [(.ref b288)])) rfl rfl (hb hby at_194) _ ?_
    rw [S298, (rfl : (2 : Nat).toInt32 = (2 : Int32))]
    refine XS.iconst X296.here hx rfl (hb hby at_195) ?_
    refine XS.icmpYes X296.here hx rfl (pc0 := 196) (pc' := 201) rfl (hb hby at_196) rfl (XT.ii_eq_t rfl) (by decide) (by decide) ?_
    refine XS.aload X296.here hx rfl (hb hby at_201) rfl rfl ?_
    show Steps p.tables e below (T296.setTop (mkF m 203 #[.val (.int p1), .val (.int p2), .val (.int p3), .val (.long p4), .second, .val (.int pr), .val (.int sg), .val (.int ct), .val (.int ai), .val (.int bi), .val (.ref b273), .val (.ref b278), .val (.ref b282), .val (.ref pa286), .val (.ref b288), .val (.int bi), .val (.int bi), .unset] [(.ref pa286)])) _
    refine XS.iconst X296.here hx rfl (hb hby at_203) ?_
    refine X296.iaload hx (j := (0 : Int32)) (v := (.int y0)) A299.1 (State.isArrayOf_alike hZ.alike A299.2.1) A299.2.2 (own_in own_i20 S299) (V299 _ (own_i20).2) (g := (mkF m 204 #[.val (.int p1), .val (.int p2), .val (.int p3), .val (.long p4), .second, .val (.int pr), .val (.int sg), .val (.int ct), .val (.int ai), .val (.int bi), .val (.ref b273), .val (.ref b278), .val (.ref b282), .val (.ref pa286), .val (.ref b288), .val (.int bi), .val (.int bi), .unset] [(.int (0 : Int32)), (.ref pa286)])) rfl rfl (hb hby at_204) _ ?_
    refine XS.iload X296.here hx rfl (hb hby at_205) rfl ?_
    refine XS.iload X296.here hx rfl (hb hby at_207) rfl ?_
    exact k
  obtain ⟨_, _, ⟨T301, L301, k301, n301⟩, -, X301, ⟨Lc301, hQ301, l301, y301, z301⟩, st301⟩ := Jvm.LawKit.callS X296 hx (y := (⟨"com/example/mutatune/mutatune/engine/UniversalSamplingPairPinLaw", "tally", "(III)I"⟩ : MethodName)) hown (mvT hZ (hw _ (List.mem_of_getElem? (i := 74) rfl))) (mvT hZ (hw _ (List.mem_of_getElem? (i := 75) rfl))) (mvT hZ (hw _ (List.mem_of_getElem? (i := 76) rfl))) (mvT hZ (hw _ (List.mem_of_getElem? (i := 77) rfl))) (by decide) (backOf (W := 0) (rm13 l Z a0 hw [] y0 ai bi t0 T296.heap n0 Z296 ht0) hZ (hw _ (List.mem_of_getElem? (i := 77) rfl)) (hw _ (List.mem_of_getElem? (i := 76) rfl)) (by decide) (by decide)) (g := (mkF m 209 #[.val (.int p1), .val (.int p2), .val (.int p3), .val (.long p4), .second, .val (.int pr), .val (.int sg), .val (.int ct), .val (.int ai), .val (.int bi), .val (.ref b273), .val (.ref b278), .val (.ref b282), .val (.ref pa286), .val (.ref b288), .val (.int bi), .val (.int bi), .unset] [(.int bi), (.int ai), (.int y0)])) rfl (by rw [hml]; rfl) (argsL := [(.int y0), (.int ai), (.int bi)]) (rest := []) (lenOf pd11 rfl) rfl (by show 2 * 0 + _ ≤ _; exact Nat.le_of_eq rfl) (hb hby at_209) (fun _ _ => ⟨rfl, rfl, (by decide : 6 + 0 ≤ _), (by decide : 20 + 0 ≤ _)⟩)
  dsimp only [Pt.U, Pt.locs, Pt.cells, Pt.slots] at X301 l301 y301 z301 st301 hQ301
  subst l301 y301 z301
  obtain ⟨rfl, N301q, q301⟩ := hQ301
  have N301 := Fr.app N296 N301q
  have C301 : ∀ t, Steps p.tables e below (T301.setTop (mkF m 212 #[.val (.int p1), .val (.int p2), .val (.int p3), .val (.long p4), .second, .val (.int pr), .val (.int sg), .val (.int ct), .val (.int ai), .val (.int bi), .val (.ref b273), .val (.ref b278), .val (.ref b282), .val (.ref pa286), .val (.ref b288), .val (.int bi), .val (.int bi), .unset] [(.int t0)])) t → Steps p.tables e below (s₁.setTop (entryFrame m #[(.int p1), (.int p2), (.int p3), (.long p4)] maxLocals)) t := fun t k => C300 t (st301 t k)
  obtain ⟨c302, A302, S302, V302⟩ := id PB_294_296
  obtain ⟨t1, et1, ht1⟩ := own_tal hAB hy1
  have C303 : ∀ t, Steps p.tables e below (T301.setTop (mkF m 220 #[.val (.int p1), .val (.int p2), .val (.int p3), .val (.long p4), .second, .val (.int pr), .val (.int sg), .val (.int ct), .val (.int ai), .val (.int bi), .val (.ref b273), .val (.ref b278), .val (.ref b282), .val (.ref pa286), .val (.ref b288), .val (.int bi), .val (.int bi), .unset] [(.int bi), (.int ai), (.int y1), (.int t0)])) t → Steps p.tables e below (s₁.setTop (entryFrame m #[(.int p1), (.int p2), (.int p3), (.long p4)] maxLocals)) t := by
    intro t k
    refine C301 t ?_
    refine XS.aload X301.here hx rfl (hb hby at_212) rfl rfl ?_
    refine XS.iconst X301.here hx rfl (hb hby at_214) ?_
    refine X301.iaload hx (j := (1 : Int32)) (v := (.int y1)) (by rw [q301]; exact A302.1) (State.isArrayOf_alike hZ.alike A302.2.1) A302.2.2 (own_in own_i21 S302) (V302 _ (own_i21).2) (g := (mkF m 215 #[.val (.int p1), .val (.int p2), .val (.int p3), .val (.long p4), .second, .val (.int pr), .val (.int sg), .val (.int ct), .val (.int ai), .val (.int bi), .val (.ref b273), .val (.ref b278), .val (.ref b282), .val (.ref pa286), .val (.ref b288), .val (.int bi), .val (.int bi), .unset] [(.int (1 : Int32)), (.ref pa286), (.int t0)])) rfl rfl (hb hby at_215) _ ?_
    show Steps p.tables e below (T301.setTop (mkF m 216 #[.val (.int p1), .val (.int p2), .val (.int p3), .val (.long p4), .second, .val (.int pr), .val (.int sg), .val (.int ct), .val (.int ai), .val (.int bi), .val (.ref b273), .val (.ref b278), .val (.ref b282), .val (.ref pa286), .val (.ref b288), .val (.int bi), .val (.int bi), .unset] [(.int y1), (.int t0)])) _
    refine XS.iload X301.here hx rfl (hb hby at_216) rfl ?_
    refine XS.iload X301.here hx rfl (hb hby at_218) rfl ?_
    exact k
  obtain ⟨_, _, ⟨T304, L304, k304, n304⟩, -, X304, ⟨Lc304, hQ304, l304, y304, z304⟩, st304⟩ := Jvm.LawKit.callS X301 hx (y := (⟨"com/example/mutatune/mutatune/engine/UniversalSamplingPairPinLaw", "tally", "(III)I"⟩ : MethodName)) hown (mvT hZ (hw _ (List.mem_of_getElem? (i := 74) rfl))) (mvT hZ (hw _ (List.mem_of_getElem? (i := 75) rfl))) (mvT hZ (hw _ (List.mem_of_getElem? (i := 76) rfl))) (mvT hZ (hw _ (List.mem_of_getElem? (i := 77) rfl))) (by decide) (backOf (W := 1) (rm13 l Z a0 hw [] y1 ai bi t1 T296.heap n0 Z296 ht1) hZ (hw _ (List.mem_of_getElem? (i := 77) rfl)) (hw _ (List.mem_of_getElem? (i := 76) rfl)) (by decide) (by decide)) (g := (mkF m 220 #[.val (.int p1), .val (.int p2), .val (.int p3), .val (.long p4), .second, .val (.int pr), .val (.int sg), .val (.int ct), .val (.int ai), .val (.int bi), .val (.ref b273), .val (.ref b278), .val (.ref b282), .val (.ref pa286), .val (.ref b288), .val (.int bi), .val (.int bi), .unset] [(.int bi), (.int ai), (.int y1), (.int t0)])) rfl (by rw [hml]; rfl) (argsL := [(.int y1), (.int ai), (.int bi)]) (rest := [(.int t0)]) (lenOf pd11 rfl) rfl (by show 2 * 0 + _ ≤ _; exact Nat.le_of_eq rfl) (hb hby at_220) (fun _ _ => ⟨rfl, q301, (by decide : 6 + 0 ≤ _), (by decide : 20 + 0 ≤ _)⟩)
  dsimp only [Pt.U, Pt.locs, Pt.cells, Pt.slots] at X304 l304 y304 z304 st304 hQ304
  subst l304 y304 z304
  obtain ⟨rfl, N304q, q304⟩ := hQ304
  have N304 := Fr.app N301 N304q
  have C304 : ∀ t, Steps p.tables e below (T304.setTop (mkF m 223 #[.val (.int p1), .val (.int p2), .val (.int p3), .val (.long p4), .second, .val (.int pr), .val (.int sg), .val (.int ct), .val (.int ai), .val (.int bi), .val (.ref b273), .val (.ref b278), .val (.ref b282), .val (.ref pa286), .val (.ref b288), .val (.int bi), .val (.int bi), .unset] [(.int t1), (.int t0)])) t → Steps p.tables e below (s₁.setTop (entryFrame m #[(.int p1), (.int p2), (.int p3), (.long p4)] maxLocals)) t := fun t k => C303 t (st304 t k)
  obtain ⟨c305, A305, S305, V305⟩ := id B2_294_296
  have ht2 : (bi = ai ∧ (0 : Int32) = 1) ∨ (¬ bi = ai ∧ bi = bi ∧ (0 : Int32) = 0) := Or.inr ⟨fun y => hAB y.symm, rfl, rfl⟩
  have C306 : ∀ t, Steps p.tables e below (T304.setTop (mkF m 232 #[.val (.int p1), .val (.int p2), .val (.int p3), .val (.long p4), .second, .val (.int pr), .val (.int sg), .val (.int ct), .val (.int ai), .val (.int bi), .val (.ref b273), .val (.ref b278), .val (.ref b282), .val (.ref pa286), .val (.ref b288), .val (.int bi), .val (.int bi), .unset] [(.int bi), (.int ai), (.int bi), (.int (t0 + t1))])) t → Steps p.tables e below (s₁.setTop (entryFrame m #[(.int p1), (.int p2), (.int p3), (.long p4)] maxLocals)) t := by
    intro t k
    refine C304 t ?_
    refine XS.iadd X304.here hx rfl (hb hby at_223) rfl ?_
    refine XS.aload X304.here hx rfl (hb hby at_224) rfl rfl ?_
    refine XS.iconst X304.here hx rfl (hb hby at_226) ?_
    show Steps p.tables e below (T304.setTop (mkF m 227 #[.val (.int p1), .val (.int p2), .val (.int p3), .val (.long p4), .second, .val (.int pr), .val (.int sg), .val (.int ct), .val (.int ai), .val (.int bi), .val (.ref b273), .val (.ref b278), .val (.ref b282), .val (.ref pa286), .val (.ref b288), .val (.int bi), .val (.int bi), .unset] [(.int (0 : Int32)), (.ref b288), (.int (t0 + t1))])) _
    refine X304.iaload hx (j := (0 : Int32)) (v := (.int bi)) (by rw [q304]; exact A305.1) (State.isArrayOf_alike hZ.alike A305.2.1) A305.2.2 (own_in own_i20 S305) (V305 _ (own_i20).2) (g := (mkF m 227 #[.val (.int p1), .val (.int p2), .val (.int p3), .val (.long p4), .second, .val (.int pr), .val (.int sg), .val (.int ct), .val (.int ai), .val (.int bi), .val (.ref b273), .val (.ref b278), .val (.ref b282), .val (.ref pa286), .val (.ref b288), .val (.int bi), .val (.int bi), .unset] [(.int (0 : Int32)), (.ref b288), (.int (t0 + t1))])) rfl rfl (hb hby at_227) _ ?_
    refine XS.iload X304.here hx rfl (hb hby at_228) rfl ?_
    refine XS.iload X304.here hx rfl (hb hby at_230) rfl ?_
    exact k
  obtain ⟨_, _, ⟨T307, L307, k307, n307⟩, -, X307, ⟨Lc307, hQ307, l307, y307, z307⟩, st307⟩ := Jvm.LawKit.callS X304 hx (y := (⟨"com/example/mutatune/mutatune/engine/UniversalSamplingPairPinLaw", "tally", "(III)I"⟩ : MethodName)) hown (mvT hZ (hw _ (List.mem_of_getElem? (i := 74) rfl))) (mvT hZ (hw _ (List.mem_of_getElem? (i := 75) rfl))) (mvT hZ (hw _ (List.mem_of_getElem? (i := 76) rfl))) (mvT hZ (hw _ (List.mem_of_getElem? (i := 77) rfl))) (by decide) (backOf (W := 1) (rm13 l Z a0 hw [] bi ai bi (0 : Int32) T296.heap n0 Z296 ht2) hZ (hw _ (List.mem_of_getElem? (i := 77) rfl)) (hw _ (List.mem_of_getElem? (i := 76) rfl)) (by decide) (by decide)) (g := (mkF m 232 #[.val (.int p1), .val (.int p2), .val (.int p3), .val (.long p4), .second, .val (.int pr), .val (.int sg), .val (.int ct), .val (.int ai), .val (.int bi), .val (.ref b273), .val (.ref b278), .val (.ref b282), .val (.ref pa286), .val (.ref b288), .val (.int bi), .val (.int bi), .unset] [(.int bi), (.int ai), (.int bi), (.int (t0 + t1))])) rfl (by rw [hml]; rfl) (argsL := [(.int bi), (.int ai), (.int bi)]) (rest := [(.int (t0 + t1))]) (lenOf pd11 rfl) rfl (by show 2 * 0 + _ ≤ _; exact Nat.le_of_eq rfl) (hb hby at_232) (fun _ _ => ⟨rfl, q304, (by decide : 6 + 0 ≤ _), (by decide : 20 + 0 ≤ _)⟩)
  dsimp only [Pt.U, Pt.locs, Pt.cells, Pt.slots] at X307 l307 y307 z307 st307 hQ307
  subst l307 y307 z307
  obtain ⟨rfl, N307q, q307⟩ := hQ307
  have N307 := Fr.app N304 N307q
  have C307 : ∀ t, Steps p.tables e below (T307.setTop (mkF m 235 #[.val (.int p1), .val (.int p2), .val (.int p3), .val (.long p4), .second, .val (.int pr), .val (.int sg), .val (.int ct), .val (.int ai), .val (.int bi), .val (.ref b273), .val (.ref b278), .val (.ref b282), .val (.ref pa286), .val (.ref b288), .val (.int bi), .val (.int bi), .unset] [(.int (0 : Int32)), (.int (t0 + t1))])) t → Steps p.tables e below (s₁.setTop (entryFrame m #[(.int p1), (.int p2), (.int p3), (.long p4)] maxLocals)) t := fun t k => C306 t (st307 t k)
  obtain ⟨c308, A308, S308, V308⟩ := id B2_294_296
  have ht3 : (bi = ai ∧ (0 : Int32) = 1) ∨ (¬ bi = ai ∧ bi = bi ∧ (0 : Int32) = 0) := Or.inr ⟨fun y => hAB y.symm, rfl, rfl⟩
  have C309 : ∀ t, Steps p.tables e below (T307.setTop (mkF m 244 #[.val (.int p1), .val (.int p2), .val (.int p3), .val (.long p4), .second, .val (.int pr), .val (.int sg), .val (.int ct), .val (.int ai), .val (.int bi), .val (.ref b273), .val (.ref b278), .val (.ref b282), .val (.ref pa286), .val (.ref b288), .val (.int bi), .val (.int bi), .unset] [(.int bi), (.int ai), (.int bi), (.int ((t0 + t1) + (0 : Int32)))])) t → Steps p.tables e below (s₁.setTop (entryFrame m #[(.int p1), (.int p2), (.int p3), (.long p4)] maxLocals)) t := by
    intro t k
    refine C307 t ?_
    refine XS.iadd X307.here hx rfl (hb hby at_235) rfl ?_
    refine XS.aload X307.here hx rfl (hb hby at_236) rfl rfl ?_
    refine XS.iconst X307.here hx rfl (hb hby at_238) ?_
    show Steps p.tables e below (T307.setTop (mkF m 239 #[.val (.int p1), .val (.int p2), .val (.int p3), .val (.long p4), .second, .val (.int pr), .val (.int sg), .val (.int ct), .val (.int ai), .val (.int bi), .val (.ref b273), .val (.ref b278), .val (.ref b282), .val (.ref pa286), .val (.ref b288), .val (.int bi), .val (.int bi), .unset] [(.int (1 : Int32)), (.ref b288), (.int ((t0 + t1) + (0 : Int32)))])) _
    refine X307.iaload hx (j := (1 : Int32)) (v := (.int bi)) (by rw [q307]; exact A308.1) (State.isArrayOf_alike hZ.alike A308.2.1) A308.2.2 (own_in own_i21 S308) (V308 _ (own_i21).2) (g := (mkF m 239 #[.val (.int p1), .val (.int p2), .val (.int p3), .val (.long p4), .second, .val (.int pr), .val (.int sg), .val (.int ct), .val (.int ai), .val (.int bi), .val (.ref b273), .val (.ref b278), .val (.ref b282), .val (.ref pa286), .val (.ref b288), .val (.int bi), .val (.int bi), .unset] [(.int (1 : Int32)), (.ref b288), (.int ((t0 + t1) + (0 : Int32)))])) rfl rfl (hb hby at_239) _ ?_
    refine XS.iload X307.here hx rfl (hb hby at_240) rfl ?_
    refine XS.iload X307.here hx rfl (hb hby at_242) rfl ?_
    exact k
  obtain ⟨_, _, ⟨T310, L310, k310, n310⟩, -, X310, ⟨Lc310, hQ310, l310, y310, z310⟩, st310⟩ := Jvm.LawKit.callS X307 hx (y := (⟨"com/example/mutatune/mutatune/engine/UniversalSamplingPairPinLaw", "tally", "(III)I"⟩ : MethodName)) hown (mvT hZ (hw _ (List.mem_of_getElem? (i := 74) rfl))) (mvT hZ (hw _ (List.mem_of_getElem? (i := 75) rfl))) (mvT hZ (hw _ (List.mem_of_getElem? (i := 76) rfl))) (mvT hZ (hw _ (List.mem_of_getElem? (i := 77) rfl))) (by decide) (backOf (W := 1) (rm13 l Z a0 hw [] bi ai bi (0 : Int32) T296.heap n0 Z296 ht3) hZ (hw _ (List.mem_of_getElem? (i := 77) rfl)) (hw _ (List.mem_of_getElem? (i := 76) rfl)) (by decide) (by decide)) (g := (mkF m 244 #[.val (.int p1), .val (.int p2), .val (.int p3), .val (.long p4), .second, .val (.int pr), .val (.int sg), .val (.int ct), .val (.int ai), .val (.int bi), .val (.ref b273), .val (.ref b278), .val (.ref b282), .val (.ref pa286), .val (.ref b288), .val (.int bi), .val (.int bi), .unset] [(.int bi), (.int ai), (.int bi), (.int ((t0 + t1) + (0 : Int32)))])) rfl (by rw [hml]; rfl) (argsL := [(.int bi), (.int ai), (.int bi)]) (rest := [(.int ((t0 + t1) + (0 : Int32)))]) (lenOf pd11 rfl) rfl (by show 2 * 0 + _ ≤ _; exact Nat.le_of_eq rfl) (hb hby at_244) (fun _ _ => ⟨rfl, q307, (by decide : 6 + 0 ≤ _), (by decide : 20 + 0 ≤ _)⟩)
  dsimp only [Pt.U, Pt.locs, Pt.cells, Pt.slots] at X310 l310 y310 z310 st310 hQ310
  subst l310 y310 z310
  obtain ⟨rfl, N310q, q310⟩ := hQ310
  have N310 := Fr.app N307 N310q
  have C310 : ∀ t, Steps p.tables e below (T310.setTop (mkF m 247 #[.val (.int p1), .val (.int p2), .val (.int p3), .val (.long p4), .second, .val (.int pr), .val (.int sg), .val (.int ct), .val (.int ai), .val (.int bi), .val (.ref b273), .val (.ref b278), .val (.ref b282), .val (.ref pa286), .val (.ref b288), .val (.int bi), .val (.int bi), .unset] [(.int (0 : Int32)), (.int ((t0 + t1) + (0 : Int32)))])) t → Steps p.tables e below (s₁.setTop (entryFrame m #[(.int p1), (.int p2), (.int p3), (.long p4)] maxLocals)) t := fun t k => C309 t (st310 t k)
  have C311 : ∀ t, Steps p.tables e below (T310.setTop (mkF m 253 #[.val (.int p1), .val (.int p2), .val (.int p3), .val (.long p4), .second, .val (.int pr), .val (.int sg), .val (.int ct), .val (.int ai), .val (.int bi), .val (.ref b273), .val (.ref b278), .val (.ref b282), .val (.ref pa286), .val (.ref b288), .val (.int bi), .val (.int bi), .val (.int (((t0 + t1) + (0 : Int32)) + (0 : Int32)))] [(.int (1 : Int32)), (.int (((t0 + t1) + (0 : Int32)) + (0 : Int32)))])) t → Steps p.tables e below (s₁.setTop (entryFrame m #[(.int p1), (.int p2), (.int p3), (.long p4)] maxLocals)) t := by
    intro t k
    refine C310 t ?_
    refine XS.iadd X310.here hx rfl (hb hby at_247) rfl ?_
    refine XS.istore X310.here hx rfl (hb hby at_248) rfl (l' := #[.val (.int p1), .val (.int p2), .val (.int p3), .val (.long p4), .second, .val (.int pr), .val (.int sg), .val (.int ct), .val (.int ai), .val (.int bi), .val (.ref b273), .val (.ref b278), .val (.ref b282), .val (.ref pa286), .val (.ref b288), .val (.int bi), .val (.int bi), .val (.int (((t0 + t1) + (0 : Int32)) + (0 : Int32)))]) rfl ?_
    refine XS.iload X310.here hx rfl (hb hby at_250) rfl ?_
    show Steps p.tables e below (T310.setTop (mkF m 252 #[.val (.int p1), .val (.int p2), .val (.int p3), .val (.long p4), .second, .val (.int pr), .val (.int sg), .val (.int ct), .val (.int ai), .val (.int bi), .val (.ref b273), .val (.ref b278), .val (.ref b282), .val (.ref pa286), .val (.ref b288), .val (.int bi), .val (.int bi), .val (.int (((t0 + t1) + (0 : Int32)) + (0 : Int32)))] [(.int (((t0 + t1) + (0 : Int32)) + (0 : Int32)))])) _
    refine XS.iconst X310.here hx rfl (hb hby at_252) ?_
    exact k
  have hsum : (((t0 + t1) + (0 : Int32)) + (0 : Int32)) = 1 := by
    have hq4 : q = 0 ∨ q = 1 := by omega
    rcases hq4 with g | g <;> subst g et0 et1 <;> rfl
  have C312 : ∀ t, Steps p.tables e below (T310.setTop (mkF m 275 #[.val (.int p1), .val (.int p2), .val (.int p3), .val (.long p4), .second, .val (.int pr), .val (.int sg), .val (.int ct), .val (.int ai), .val (.int bi), .val (.ref b273), .val (.ref b278), .val (.ref b282), .val (.ref pa286), .val (.ref b288), .val (.int bi), .val (.int bi), .val (.int (((t0 + t1) + (0 : Int32)) + (0 : Int32)))] [(.int (1 : Int32))])) t → Steps p.tables e below (s₁.setTop (entryFrame m #[(.int p1), (.int p2), (.int p3), (.long p4)] maxLocals)) t := by
    intro t k
    refine C311 t ?_
    refine XS.icmpNo X310.here hx rfl (hb hby at_253) rfl (XT.ii_ne_f hsum) ?_
    refine XS.iload X310.here hx rfl (hb hby at_256) rfl ?_
    refine XS.iload X310.here hx rfl (hb hby at_258) rfl ?_
    show Steps p.tables e below (T310.setTop (mkF m 260 #[.val (.int p1), .val (.int p2), .val (.int p3), .val (.long p4), .second, .val (.int pr), .val (.int sg), .val (.int ct), .val (.int ai), .val (.int bi), .val (.ref b273), .val (.ref b278), .val (.ref b282), .val (.ref pa286), .val (.ref b288), .val (.int bi), .val (.int bi), .val (.int (((t0 + t1) + (0 : Int32)) + (0 : Int32)))] [(.int bi), (.int bi)])) _
    refine XS.icmpNo X310.here hx rfl (hb hby at_260) rfl (XT.ii_ne_f rfl) ?_
    refine XS.iload X310.here hx rfl (hb hby at_263) rfl ?_
    refine XS.iload X310.here hx rfl (hb hby at_265) rfl ?_
    refine XS.icmpNo X310.here hx rfl (hb hby at_267) rfl (XT.ii_ne_f rfl) ?_
    show Steps p.tables e below (T310.setTop (mkF m 270 #[.val (.int p1), .val (.int p2), .val (.int p3), .val (.long p4), .second, .val (.int pr), .val (.int sg), .val (.int ct), .val (.int ai), .val (.int bi), .val (.ref b273), .val (.ref b278), .val (.ref b282), .val (.ref pa286), .val (.ref b288), .val (.int bi), .val (.int bi), .val (.int (((t0 + t1) + (0 : Int32)) + (0 : Int32)))] [])) _
    refine XS.iconst X310.here hx rfl (hb hby at_270) ?_
    refine XS.goto X310.here hx rfl (pc0 := 271) (pc' := 275) rfl (hb hby at_271) (by decide) (by decide) ?_
    exact k
  obtain ⟨fs, hr, hrun, hended, hW, hsame⟩ := X310.leave (v := some (.int (1 : Int32))) (fun h => by rw [Bd.returns] at h; cases h)
  refine ⟨_, _, C312 _ ?_, hrun, hended, _, _, rfl, ?_, ⟨_, rfl⟩, hW, hsame.mono (by decide) (by decide)⟩
  · show Steps p.tables e below (T310.setTop (mkF m 275 #[.val (.int p1), .val (.int p2), .val (.int p3), .val (.long p4), .second, .val (.int pr), .val (.int sg), .val (.int ct), .val (.int ai), .val (.int bi), .val (.ref b273), .val (.ref b278), .val (.ref b282), .val (.ref pa286), .val (.ref b288), .val (.int bi), .val (.int bi), .val (.int (((t0 + t1) + (0 : Int32)) + (0 : Int32)))] [(.int (1 : Int32))])) _
    exact retN X310 hx (t := .boolean) Bd.returns (by simp) (hb hby at_275) hr
  · show Q0 Z p1 p2 p3 p4 h0 n0 _ T310.heap _
    rw [q310]
    exact ⟨rfl, N310⟩
set_option maxRecDepth 65536 in
set_option maxHeartbeats 40000000 in
theorem rm0_20 (l : Launch) (Z : State) (a0 : Array Value) (hw : ∀ d ∈ tables_1, d.before a0 Z = true) (ws : List Jvm.Cond) (p1 p2 p3 : Int32) (p4 : Int64) (h0 : Heap) (n0 : Nat) (Z0 : n0 ≤ h0.size) (hm : ((1 : Int32) + (p1 &&& (1 : Int32))).toInt = ((2 : Nat) : Int)) (hs : (((p1.toUInt32 >>> ((1 : Int32) &&& 31).toUInt32).toInt32) - (((p1.toUInt32 >>> ((1 : Int32) &&& 31).toUInt32).toInt32) / (3 : Int32)) * (3 : Int32)).toInt = ((0 : Nat) : Int)) :
    MetFree l x (head1 (Jvm.Cond.code x code maxLocals ret :: ws) room_1) (fun a U => a = #[(.int p1), (.int p2), (.int p3), (.long p4)] ∧ Z.Warmed39 U.vm ∧ U.heap = h0) (fun _ _ _ _ _ => True) (fun _ U o U' => ∃ v L, o = .returned v ∧ Q0 Z p1 p2 p3 p4 h0 n0 v U'.heap L ∧ FrameEnd U o U' L room_1.cells room_1.slots) := by
  refine MetFree.of_bodySF (plainFor_of_name pn3) hisR ?_
  intro p e s m args below meth c s₁ Bd hml0 hP hK
  obtain ⟨rfl, hZ, hh⟩ := hP
  have hx := Bd.exec
  have hby := Bd.bytes
  have hml : c.maxLocals = 18 := hml0
  have hown : s.vm.findClass "com/example/mutatune/mutatune/engine/UniversalSamplingPairPinLaw" = some m.cls := findClass_of_methodNamed Bd.named
  have hnm := (name_of_methodNamed Bd.named Bd.method).1
  have X0 : Stand p l e room_1 s m #[(.int p1), (.int p2), (.int p3), (.long p4)] below meth c s₁ [] 0 0 := Stand.of_body Bd
  have e0 : s₁.heap = h0 := by rw [← hh, Bd.state]; rfl
  have N0 := Fr.nil n0
  have pre0 : ∀ t, Steps p.tables e below (s₁.setTop (mkF m 0 #[.val (.int p1), .val (.int p2), .val (.int p3), .val (.long p4), .second, .unset, .unset, .unset, .unset, .unset, .unset, .unset, .unset, .unset, .unset, .unset, .unset, .unset] [])) t → Steps p.tables e below (s₁.setTop (entryFrame m #[(.int p1), (.int p2), (.int p3), (.long p4)] maxLocals)) t := fun t k => castTop (ef0 m p1 p2 p3 p4) k
  have C313 : ∀ t, Steps p.tables e below (s₁.setTop (mkF m 7 #[.val (.int p1), .val (.int p2), .val (.int p3), .val (.long p4), .second, .val (.int ((1 : Int32) + (p1 &&& (1 : Int32)))), .unset, .unset, .unset, .unset, .unset, .unset, .unset, .unset, .unset, .unset, .unset, .unset] [])) t → Steps p.tables e below (s₁.setTop (entryFrame m #[(.int p1), (.int p2), (.int p3), (.long p4)] maxLocals)) t := by
    intro t k
    refine pre0 t ?_
    refine XS.iconst X0.here hx rfl (hb hby at_0) ?_
    refine XS.iloadN X0.here hx rfl (hb hby at_1) rfl ?_
    refine XS.iconst X0.here hx rfl (hb hby at_2) ?_
    show Steps p.tables e below (s₁.setTop (mkF m 3 #[.val (.int p1), .val (.int p2), .val (.int p3), .val (.long p4), .second, .unset, .unset, .unset, .unset, .unset, .unset, .unset, .unset, .unset, .unset, .unset, .unset, .unset] [(.int (1 : Int32)), (.int p1), (.int (1 : Int32))])) _
    refine XS.iand X0.here hx rfl (hb hby at_3) rfl ?_
    refine XS.iadd X0.here hx rfl (hb hby at_4) rfl ?_
    refine XS.istore X0.here hx rfl (hb hby at_5) rfl (l' := #[.val (.int p1), .val (.int p2), .val (.int p3), .val (.long p4), .second, .val (.int ((1 : Int32) + (p1 &&& (1 : Int32)))), .unset, .unset, .unset, .unset, .unset, .unset, .unset, .unset, .unset, .unset, .unset, .unset]) rfl ?_
    exact k
  obtain ⟨pr, h_pr⟩ : ∃ z : Int32, z = ((1 : Int32) + (p1 &&& (1 : Int32))) := ⟨_, rfl⟩
  rw [← h_pr] at C313
  have hpr : pr.toInt = ((2 : Nat) : Int) := by rw [h_pr]; exact hm
  have C314 : ∀ t, Steps p.tables e below (s₁.setTop (mkF m 14 #[.val (.int p1), .val (.int p2), .val (.int p3), .val (.long p4), .second, .val (.int pr), .val (.int (((p1.toUInt32 >>> ((1 : Int32) &&& 31).toUInt32).toInt32) - (((p1.toUInt32 >>> ((1 : Int32) &&& 31).toUInt32).toInt32) / (3 : Int32)) * (3 : Int32))), .unset, .unset, .unset, .unset, .unset, .unset, .unset, .unset, .unset, .unset, .unset] [])) t → Steps p.tables e below (s₁.setTop (entryFrame m #[(.int p1), (.int p2), (.int p3), (.long p4)] maxLocals)) t := by
    intro t k
    refine C313 t ?_
    refine XS.iloadN X0.here hx rfl (hb hby at_7) rfl ?_
    refine XS.iconst X0.here hx rfl (hb hby at_8) ?_
    refine XS.iushr X0.here hx rfl (hb hby at_9) rfl ?_
    show Steps p.tables e below (s₁.setTop (mkF m 10 #[.val (.int p1), .val (.int p2), .val (.int p3), .val (.long p4), .second, .val (.int pr), .unset, .unset, .unset, .unset, .unset, .unset, .unset, .unset, .unset, .unset, .unset, .unset] [(.int ((p1.toUInt32 >>> ((1 : Int32) &&& 31).toUInt32).toInt32))])) _
    refine XS.iconst X0.here hx rfl (hb hby at_10) ?_
    refine XS.irem X0.here hx rfl (hb hby at_11) rfl (by decide) ?_
    refine XS.istore X0.here hx rfl (hb hby at_12) rfl (l' := #[.val (.int p1), .val (.int p2), .val (.int p3), .val (.long p4), .second, .val (.int pr), .val (.int (((p1.toUInt32 >>> ((1 : Int32) &&& 31).toUInt32).toInt32) - (((p1.toUInt32 >>> ((1 : Int32) &&& 31).toUInt32).toInt32) / (3 : Int32)) * (3 : Int32))), .unset, .unset, .unset, .unset, .unset, .unset, .unset, .unset, .unset, .unset, .unset]) rfl ?_
    exact k
  obtain ⟨sg, h_sg⟩ : ∃ z : Int32, z = (((p1.toUInt32 >>> ((1 : Int32) &&& 31).toUInt32).toInt32) - (((p1.toUInt32 >>> ((1 : Int32) &&& 31).toUInt32).toInt32) / (3 : Int32)) * (3 : Int32)) := ⟨_, rfl⟩
  rw [← h_sg] at C314
  have hsg : sg.toInt = ((0 : Nat) : Int) := by rw [h_sg]; exact hs
  have hct0 : (((2 : Int32) * pr) + sg).toInt = ((4 : Nat) : Int) := by have y := own_add_c (own_two_c hpr (by decide) (by decide)) hsg (by decide) (by decide); exact y
  have C315 : ∀ t, Steps p.tables e below (s₁.setTop (mkF m 23 #[.val (.int p1), .val (.int p2), .val (.int p3), .val (.long p4), .second, .val (.int pr), .val (.int sg), .val (.int (((2 : Int32) * pr) + sg)), .unset, .unset, .unset, .unset, .unset, .unset, .unset, .unset, .unset, .unset] [])) t → Steps p.tables e below (s₁.setTop (entryFrame m #[(.int p1), (.int p2), (.int p3), (.long p4)] maxLocals)) t := by
    intro t k
    refine C314 t ?_
    refine XS.iconst X0.here hx rfl (hb hby at_14) ?_
    refine XS.iload X0.here hx rfl (hb hby at_15) rfl ?_
    refine XS.imul X0.here hx rfl (hb hby at_17) rfl ?_
    show Steps p.tables e below (s₁.setTop (mkF m 18 #[.val (.int p1), .val (.int p2), .val (.int p3), .val (.long p4), .second, .val (.int pr), .val (.int sg), .unset, .unset, .unset, .unset, .unset, .unset, .unset, .unset, .unset, .unset, .unset] [(.int ((2 : Int32) * pr))])) _
    refine XS.iload X0.here hx rfl (hb hby at_18) rfl ?_
    refine XS.iadd X0.here hx rfl (hb hby at_20) rfl ?_
    refine XS.istore X0.here hx rfl (hb hby at_21) rfl (l' := #[.val (.int p1), .val (.int p2), .val (.int p3), .val (.long p4), .second, .val (.int pr), .val (.int sg), .val (.int (((2 : Int32) * pr) + sg)), .unset, .unset, .unset, .unset, .unset, .unset, .unset, .unset, .unset, .unset]) rfl ?_
    exact k
  obtain ⟨ct, h_ct⟩ : ∃ z : Int32, z = (((2 : Int32) * pr) + sg) := ⟨_, rfl⟩
  rw [← h_ct] at C315
  have hct := hct0
  rw [← h_ct] at hct
  have C316 : ∀ t, Steps p.tables e below (s₁.setTop (mkF m 31 #[.val (.int p1), .val (.int p2), .val (.int p3), .val (.long p4), .second, .val (.int pr), .val (.int sg), .val (.int ct), .val (.int ((p2 &&& (2147483647 : Int32)) - ((p2 &&& (2147483647 : Int32)) / (3 : Int32)) * (3 : Int32))), .unset, .unset, .unset, .unset, .unset, .unset, .unset, .unset, .unset] [])) t → Steps p.tables e below (s₁.setTop (entryFrame m #[(.int p1), (.int p2), (.int p3), (.long p4)] maxLocals)) t := by
    intro t k
    refine C315 t ?_
    refine XS.iloadN X0.here hx rfl (hb hby at_23) rfl ?_
    refine X0.ldcInt hx hown (mvT hZ (hw _ (List.mem_of_getElem? (i := 0) rfl))) (g := (mkF m 24 #[.val (.int p1), .val (.int p2), .val (.int p3), .val (.long p4), .second, .val (.int pr), .val (.int sg), .val (.int ct), .unset, .unset, .unset, .unset, .unset, .unset, .unset, .unset, .unset, .unset] [(.int p2)])) rfl (hb hby at_24) _ ?_
    refine XS.iand X0.here hx rfl (hb hby at_26) rfl ?_
    show Steps p.tables e below (s₁.setTop (mkF m 27 #[.val (.int p1), .val (.int p2), .val (.int p3), .val (.long p4), .second, .val (.int pr), .val (.int sg), .val (.int ct), .unset, .unset, .unset, .unset, .unset, .unset, .unset, .unset, .unset, .unset] [(.int (p2 &&& (2147483647 : Int32)))])) _
    refine XS.iconst X0.here hx rfl (hb hby at_27) ?_
    refine XS.irem X0.here hx rfl (hb hby at_28) rfl (by decide) ?_
    refine XS.istore X0.here hx rfl (hb hby at_29) rfl (l' := #[.val (.int p1), .val (.int p2), .val (.int p3), .val (.long p4), .second, .val (.int pr), .val (.int sg), .val (.int ct), .val (.int ((p2 &&& (2147483647 : Int32)) - ((p2 &&& (2147483647 : Int32)) / (3 : Int32)) * (3 : Int32))), .unset, .unset, .unset, .unset, .unset, .unset, .unset, .unset, .unset]) rfl ?_
    exact k
  obtain ⟨ai, h_ai⟩ : ∃ z : Int32, z = ((p2 &&& (2147483647 : Int32)) - ((p2 &&& (2147483647 : Int32)) / (3 : Int32)) * (3 : Int32)) := ⟨_, rfl⟩
  rw [← h_ai] at C316
  have hai := own_ai p2
  rw [← h_ai] at hai
  have h3a := own_sub_c (show (3 : Int32).toInt = 3 from rfl) (rfl : ai.toInt = ai.toInt) (by omega) (by omega)
  have hnz : (3 : Int32) - ai ≠ 0 := fun y => by rw [y, show (0 : Int32).toInt = 0 from rfl] at h3a; omega
  have C317 : ∀ t, Steps p.tables e below (s₁.setTop (mkF m 47 #[.val (.int p1), .val (.int p2), .val (.int p3), .val (.long p4), .second, .val (.int pr), .val (.int sg), .val (.int ct), .val (.int ai), .val (.int ((ai + (1 : Int32)) + ((p3 &&& (2147483647 : Int32)) - ((p3 &&& (2147483647 : Int32)) / ((3 : Int32) - ai)) * ((3 : Int32) - ai)))), .unset, .unset, .unset, .unset, .unset, .unset, .unset, .unset] [])) t → Steps p.tables e below (s₁.setTop (entryFrame m #[(.int p1), (.int p2), (.int p3), (.long p4)] maxLocals)) t := by
    intro t k
    refine C316 t ?_
    refine XS.iload X0.here hx rfl (hb hby at_31) rfl ?_
    refine XS.iconst X0.here hx rfl (hb hby at_33) ?_
    refine XS.iadd X0.here hx rfl (hb hby at_34) rfl ?_
    show Steps p.tables e below (s₁.setTop (mkF m 35 #[.val (.int p1), .val (.int p2), .val (.int p3), .val (.long p4), .second, .val (.int pr), .val (.int sg), .val (.int ct), .val (.int ai), .unset, .unset, .unset, .unset, .unset, .unset, .unset, .unset, .unset] [(.int (ai + (1 : Int32)))])) _
    refine XS.iloadN X0.here hx rfl (hb hby at_35) rfl ?_
    refine X0.ldcInt hx hown (mvT hZ (hw _ (List.mem_of_getElem? (i := 0) rfl))) (g := (mkF m 36 #[.val (.int p1), .val (.int p2), .val (.int p3), .val (.long p4), .second, .val (.int pr), .val (.int sg), .val (.int ct), .val (.int ai), .unset, .unset, .unset, .unset, .unset, .unset, .unset, .unset, .unset] [(.int p3), (.int (ai + (1 : Int32)))])) rfl (hb hby at_36) _ ?_
    refine XS.iand X0.here hx rfl (hb hby at_38) rfl ?_
    refine XS.iconst X0.here hx rfl (hb hby at_39) ?_
    show Steps p.tables e below (s₁.setTop (mkF m 40 #[.val (.int p1), .val (.int p2), .val (.int p3), .val (.long p4), .second, .val (.int pr), .val (.int sg), .val (.int ct), .val (.int ai), .unset, .unset, .unset, .unset, .unset, .unset, .unset, .unset, .unset] [(.int (3 : Int32)), (.int (p3 &&& (2147483647 : Int32))), (.int (ai + (1 : Int32)))])) _
    refine XS.iload X0.here hx rfl (hb hby at_40) rfl ?_
    refine XS.isub X0.here hx rfl (hb hby at_42) rfl ?_
    refine XS.irem X0.here hx rfl (hb hby at_43) rfl hnz ?_
    refine XS.iadd X0.here hx rfl (hb hby at_44) rfl ?_
    show Steps p.tables e below (s₁.setTop (mkF m 45 #[.val (.int p1), .val (.int p2), .val (.int p3), .val (.long p4), .second, .val (.int pr), .val (.int sg), .val (.int ct), .val (.int ai), .unset, .unset, .unset, .unset, .unset, .unset, .unset, .unset, .unset] [(.int ((ai + (1 : Int32)) + ((p3 &&& (2147483647 : Int32)) - ((p3 &&& (2147483647 : Int32)) / ((3 : Int32) - ai)) * ((3 : Int32) - ai))))])) _
    refine XS.istore X0.here hx rfl (hb hby at_45) rfl (l' := #[.val (.int p1), .val (.int p2), .val (.int p3), .val (.long p4), .second, .val (.int pr), .val (.int sg), .val (.int ct), .val (.int ai), .val (.int ((ai + (1 : Int32)) + ((p3 &&& (2147483647 : Int32)) - ((p3 &&& (2147483647 : Int32)) / ((3 : Int32) - ai)) * ((3 : Int32) - ai)))), .unset, .unset, .unset, .unset, .unset, .unset, .unset, .unset]) rfl ?_
    exact k
  obtain ⟨bi, h_bi⟩ : ∃ z : Int32, z = ((ai + (1 : Int32)) + ((p3 &&& (2147483647 : Int32)) - ((p3 &&& (2147483647 : Int32)) / ((3 : Int32) - ai)) * ((3 : Int32) - ai))) := ⟨_, rfl⟩
  rw [← h_bi] at C317
  have hbi := own_bi p3 hai
  rw [← h_bi] at hbi
  obtain ⟨na, hna⟩ : ∃ y : Nat, y = ai.toInt.toNat := ⟨_, rfl⟩
  obtain ⟨nb, hnb⟩ : ∃ y : Nat, y = bi.toInt.toNat := ⟨_, rfl⟩
  have hA : ai.toInt = (na : Int) := by omega
  have hB : bi.toInt = (nb : Int) := by omega
  have hab : na < nb := by omega
  have hb4 : nb < 4 := by omega
  have hAB : ai ≠ bi := fun y => by rw [y] at hA; omega
  have hia : ¬ ai < 0 ∧ ai.toNatClampNeg < 4 := own_idx hA (by omega)
  have hib : ¬ bi < 0 ∧ bi.toNatClampNeg < 4 := own_idx hB hb4
  have C318 : ∀ t, Steps p.tables e below (s₁.setTop (mkF m 48 #[.val (.int p1), .val (.int p2), .val (.int p3), .val (.long p4), .second, .val (.int pr), .val (.int sg), .val (.int ct), .val (.int ai), .val (.int bi), .unset, .unset, .unset, .unset, .unset, .unset, .unset, .unset] [(.int (4 : Int32))])) t → Steps p.tables e below (s₁.setTop (entryFrame m #[(.int p1), (.int p2), (.int p3), (.long p4)] maxLocals)) t := by
    intro t k
    refine C317 t ?_
    refine XS.iconst X0.here hx rfl (hb hby at_47) ?_
    exact k
  obtain ⟨T319, h319, k319, X319, e319, E319, A319, st319⟩ := newP X0 hx hZ (hw _ (List.mem_of_getElem? (i := 1) rfl)) e0 (g := (mkF m 48 #[.val (.int p1), .val (.int p2), .val (.int p3), .val (.long p4), .second, .val (.int pr), .val (.int sg), .val (.int ct), .val (.int ai), .val (.int bi), .unset, .unset, .unset, .unset, .unset, .unset, .unset, .unset] [(.int (4 : Int32))])) rfl (hb hby at_48) rfl (by decide) (cap := 4) (by decide) (by decide) (by decide) (by decide)
  obtain ⟨b319, g319⟩ : ∃ z, z = h0.size := ⟨_, rfl⟩
  rw [← g319] at A319 st319
  have C319 : ∀ t, Steps p.tables e below (T319.setTop (mkF m 50 #[.val (.int p1), .val (.int p2), .val (.int p3), .val (.long p4), .second, .val (.int pr), .val (.int sg), .val (.int ct), .val (.int ai), .val (.int bi), .unset, .unset, .unset, .unset, .unset, .unset, .unset, .unset] [(.ref b319)])) t → Steps p.tables e below (s₁.setTop (entryFrame m #[(.int p1), (.int p2), (.int p3), (.long p4)] maxLocals)) t := fun t k => C318 t (st319 t k)
  have V0 : OwnA Z h319 b319 .double 4 (fun _ => .double 0) := OwnA.new A319 rfl
  have Z1 : n0 ≤ h319.size := Nat.le_trans Z0 E319.1
  have gw : n0 ≤ b319 := Nat.le_trans Z0 (Nat.le_of_eq g319.symm)
  have C320 : ∀ t, Steps p.tables e below (T319.setTop (mkF m 57 #[.val (.int p1), .val (.int p2), .val (.int p3), .val (.long p4), .second, .val (.int pr), .val (.int sg), .val (.int ct), .val (.int ai), .val (.int bi), .val (.ref b319), .unset, .unset, .unset, .unset, .unset, .unset, .unset] [(.double 4607182418800017408), (.int ai), (.ref b319)])) t → Steps p.tables e below (s₁.setTop (entryFrame m #[(.int p1), (.int p2), (.int p3), (.long p4)] maxLocals)) t := by
    intro t k
    refine C319 t ?_
    refine XS.astore X319.here hx rfl (hb hby at_50) rfl rfl (l' := #[.val (.int p1), .val (.int p2), .val (.int p3), .val (.long p4), .second, .val (.int pr), .val (.int sg), .val (.int ct), .val (.int ai), .val (.int bi), .val (.ref b319), .unset, .unset, .unset, .unset, .unset, .unset, .unset]) rfl ?_
    refine XS.aload X319.here hx rfl (hb hby at_52) rfl rfl ?_
    refine XS.iload X319.here hx rfl (hb hby at_54) rfl ?_
    show Steps p.tables e below (T319.setTop (mkF m 56 #[.val (.int p1), .val (.int p2), .val (.int p3), .val (.long p4), .second, .val (.int pr), .val (.int sg), .val (.int ct), .val (.int ai), .val (.int bi), .val (.ref b319), .unset, .unset, .unset, .unset, .unset, .unset, .unset] [(.int ai), (.ref b319)])) _
    refine XS.dconst1 X319.here hx rfl (hb hby at_56) (v := 4607182418800017408) rfl ?_
    exact k
  obtain ⟨c321, A321, S321, V321⟩ := id V0
  obtain ⟨T321, h321, X321, e321, W321, st321⟩ := stD X319 hx hZ e319 A321 (j := ai) (own_in hia S321) (g := (mkF m 57 #[.val (.int p1), .val (.int p2), .val (.int p3), .val (.long p4), .second, .val (.int pr), .val (.int sg), .val (.int ct), .val (.int ai), .val (.int bi), .val (.ref b319), .unset, .unset, .unset, .unset, .unset, .unset, .unset] [(.double 4607182418800017408), (.int ai), (.ref b319)])) rfl rfl (hb hby at_57)
  have N321 := Fr.snoc X321 N0 gw
  have C321 : ∀ t, Steps p.tables e below (T321.setTop (mkF m 58 #[.val (.int p1), .val (.int p2), .val (.int p3), .val (.long p4), .second, .val (.int pr), .val (.int sg), .val (.int ct), .val (.int ai), .val (.int bi), .val (.ref b319), .unset, .unset, .unset, .unset, .unset, .unset, .unset] [])) t → Steps p.tables e below (s₁.setTop (entryFrame m #[(.int p1), (.int p2), (.int p3), (.long p4)] maxLocals)) t := fun t k => C320 t (st321 t k)
  have V1 := V0.set W321
  have zb : OwnZ (FP.i2d (ct - (1 : Int32))) ((4 - 1) * Jvm.FP.Core.one64) := by
    have hc1 : (ct - (1 : Int32)).toInt = ((4 - 1 : Nat) : Int) := own_sub_c hct (show (1 : Int32).toInt = 1 from rfl) (by decide) (by decide)
    have y := own_i2d (v := ct - (1 : Int32)) (by rw [hc1]; decide)
    rw [hc1, Int.toNat_natCast] at y
    exact y
  have C322 : ∀ t, Steps p.tables e below (T321.setTop (mkF m 67 #[.val (.int p1), .val (.int p2), .val (.int p3), .val (.long p4), .second, .val (.int pr), .val (.int sg), .val (.int ct), .val (.int ai), .val (.int bi), .val (.ref b319), .unset, .unset, .unset, .unset, .unset, .unset, .unset] [(.double (FP.i2d (ct - (1 : Int32)))), (.int bi), (.ref b319)])) t → Steps p.tables e below (s₁.setTop (entryFrame m #[(.int p1), (.int p2), (.int p3), (.long p4)] maxLocals)) t := by
    intro t k
    refine C321 t ?_
    refine XS.aload X321.here hx rfl (hb hby at_58) rfl rfl ?_
    refine XS.iload X321.here hx rfl (hb hby at_60) rfl ?_
    refine XS.iload X321.here hx rfl (hb hby at_62) rfl ?_
    show Steps p.tables e below (T321.setTop (mkF m 64 #[.val (.int p1), .val (.int p2), .val (.int p3), .val (.long p4), .second, .val (.int pr), .val (.int sg), .val (.int ct), .val (.int ai), .val (.int bi), .val (.ref b319), .unset, .unset, .unset, .unset, .unset, .unset, .unset] [(.int ct), (.int bi), (.ref b319)])) _
    refine XS.iconst X321.here hx rfl (hb hby at_64) ?_
    refine XS.isub X321.here hx rfl (hb hby at_65) rfl ?_
    refine XS.i2dS X321.here hx rfl (hb hby at_66) rfl rfl ?_
    exact k
  obtain ⟨c323, A323, S323, V323⟩ := id V1
  obtain ⟨T323, h323, X323, e323, W323, st323⟩ := stD X321 hx hZ e321 A323 (j := bi) (own_in hib S323) (g := (mkF m 67 #[.val (.int p1), .val (.int p2), .val (.int p3), .val (.long p4), .second, .val (.int pr), .val (.int sg), .val (.int ct), .val (.int ai), .val (.int bi), .val (.ref b319), .unset, .unset, .unset, .unset, .unset, .unset, .unset] [(.double (FP.i2d (ct - (1 : Int32)))), (.int bi), (.ref b319)])) rfl rfl (hb hby at_67)
  have N323 := Fr.snoc X323 N321 gw
  have C323 : ∀ t, Steps p.tables e below (T323.setTop (mkF m 68 #[.val (.int p1), .val (.int p2), .val (.int p3), .val (.long p4), .second, .val (.int pr), .val (.int sg), .val (.int ct), .val (.int ai), .val (.int bi), .val (.ref b319), .unset, .unset, .unset, .unset, .unset, .unset, .unset] [])) t → Steps p.tables e below (s₁.setTop (entryFrame m #[(.int p1), (.int p2), (.int p3), (.long p4)] maxLocals)) t := fun t k => C322 t (st323 t k)
  have V2 : OwnA Z h323 b319 .double 4 (fun i => .double (own_wt na nb (FP.i2d (ct - (1 : Int32))) i)) := (V1.set W323).congr (fun i _ => by rw [own_cl hA, own_cl hB]; exact own_wt_set i)
  have Z2 : n0 ≤ h323.size := by rw [Wr.size W323, Wr.size W321]; exact Z1
  obtain ⟨T324, h324, X324, e324, E324, A324, D324, -, st324⟩ := newO X323 hx hZ hown (hw _ (List.mem_of_getElem? (i := 2) rfl)) (hw _ (List.mem_of_getElem? (i := 3) rfl)) (hw _ (List.mem_of_getElem? (i := 4) rfl)) e323 (g := (mkF m 68 #[.val (.int p1), .val (.int p2), .val (.int p3), .val (.long p4), .second, .val (.int pr), .val (.int sg), .val (.int ct), .val (.int ai), .val (.int bi), .val (.ref b319), .unset, .unset, .unset, .unset, .unset, .unset, .unset] [])) rfl (hb hby at_68) (by decide) (by decide)
  obtain ⟨b324, g324⟩ : ∃ z, z = h323.size := ⟨_, rfl⟩
  rw [← g324] at A324 D324 st324
  have C324 : ∀ t, Steps p.tables e below (T324.setTop (mkF m 71 #[.val (.int p1), .val (.int p2), .val (.int p3), .val (.long p4), .second, .val (.int pr), .val (.int sg), .val (.int ct), .val (.int ai), .val (.int bi), .val (.ref b319), .unset, .unset, .unset, .unset, .unset, .unset, .unset] [(.ref b324)])) t → Steps p.tables e below (s₁.setTop (entryFrame m #[(.int p1), (.int p2), (.int p3), (.long p4)] maxLocals)) t := fun t k => C323 t (st324 t k)
  have F_s0 : Fld Z h324 b324 "com/example/mutatune/mutatune/engine/SeededRandom" "s0" "J" (.long 0) := D324 (Or.inl (hw _ (List.mem_of_getElem? (i := 18) rfl))) (ty := .long) (by decide)
  have F_s1 : Fld Z h324 b324 "com/example/mutatune/mutatune/engine/SeededRandom" "s1" "J" (.long 0) := D324 (Or.inl (hw _ (List.mem_of_getElem? (i := 20) rfl))) (ty := .long) (by decide)
  have F_s2 : Fld Z h324 b324 "com/example/mutatune/mutatune/engine/SeededRandom" "s2" "J" (.long 0) := D324 (Or.inl (hw _ (List.mem_of_getElem? (i := 22) rfl))) (ty := .long) (by decide)
  have F_s3 : Fld Z h324 b324 "com/example/mutatune/mutatune/engine/SeededRandom" "s3" "J" (.long 0) := D324 (Or.inl (hw _ (List.mem_of_getElem? (i := 24) rfl))) (ty := .long) (by decide)
  have Z3 : n0 ≤ h324.size := Nat.le_trans Z2 E324.1
  have gra : n0 ≤ b324 := Nat.le_trans Z2 (Nat.le_of_eq g324.symm)
  have C325 : ∀ t, Steps p.tables e below (T324.setTop (mkF m 73 #[.val (.int p1), .val (.int p2), .val (.int p3), .val (.long p4), .second, .val (.int pr), .val (.int sg), .val (.int ct), .val (.int ai), .val (.int bi), .val (.ref b319), .unset, .unset, .unset, .unset, .unset, .unset, .unset] [(.long p4), (.ref b324), (.ref b324)])) t → Steps p.tables e below (s₁.setTop (entryFrame m #[(.int p1), (.int p2), (.int p3), (.long p4)] maxLocals)) t := by
    intro t k
    refine C324 t ?_
    refine XS.dup X324.here hx rfl (hb hby at_71) rfl rfl ?_
    refine XS.lloadN X324.here hx rfl (hb hby at_72) rfl ?_
    exact k
  obtain ⟨_, _, ⟨T326, L326, k326, n326⟩, -, X326, ⟨Lc326, hQ326, l326, y326, z326⟩, st326⟩ := X324.specialBack hx (y := (⟨"com/example/mutatune/mutatune/engine/SeededRandom", "<init>", "(J)V"⟩ : MethodName)) rfl hown (mvT hZ (hw _ (List.mem_of_getElem? (i := 5) rfl))) (mvT hZ (hw _ (List.mem_of_getElem? (i := 6) rfl))) (mvT hZ (hw _ (List.mem_of_getElem? (i := 7) rfl))) (by decide) (backOf (W := 1) (rm1 l Z a0 hw [] b324 p4 h324 n0 Z3 F_s0 F_s1 F_s2 F_s3 A324 gra) hZ (hw _ (List.mem_of_getElem? (i := 7) rfl)) (hw _ (List.mem_of_getElem? (i := 4) rfl)) (by decide) (by decide)) (g := (mkF m 73 #[.val (.int p1), .val (.int p2), .val (.int p3), .val (.long p4), .second, .val (.int pr), .val (.int sg), .val (.int ct), .val (.int ai), .val (.int bi), .val (.ref b319), .unset, .unset, .unset, .unset, .unset, .unset, .unset] [(.long p4), (.ref b324), (.ref b324)])) rfl (by rw [hml]; rfl) (Steps.refl _) (a := b324) (argsL := [(.long p4)]) (rest := [(.ref b324)]) (lenOf pd8 rfl) rfl (by show 2 * 0 + _ ≤ _; exact Nat.le_of_eq rfl) (hb hby at_73) (fun _ _ => ⟨rfl, e324, (by decide : 2 + 0 ≤ _), (by decide : 8 + 0 ≤ _)⟩)
  dsimp only [Pt.U, Pt.locs, Pt.cells, Pt.slots] at X326 l326 y326 z326 st326 hQ326
  subst l326 y326 z326
  obtain ⟨rfl, N326q, R326, K326⟩ := hQ326
  have N326 := Fr.app N323 N326q
  have C326 : ∀ t, Steps p.tables e below (T326.setTop (mkF m 76 #[.val (.int p1), .val (.int p2), .val (.int p3), .val (.long p4), .second, .val (.int pr), .val (.int sg), .val (.int ct), .val (.int ai), .val (.int bi), .val (.ref b319), .unset, .unset, .unset, .unset, .unset, .unset, .unset] [(.ref b324)])) t → Steps p.tables e below (s₁.setTop (entryFrame m #[(.int p1), (.int p2), (.int p3), (.long p4)] maxLocals)) t := fun t k => C325 t (st326.trans k)
  have Z4 : n0 ≤ T326.heap.size := Nat.le_trans Z3 K326.1
  have V3 := (V2.ext E324).keep K326 (own_nin1 (own_natne (by have y := own_natlt V2.lt; omega)))
  have NZ : OwnNZ (own_mix (p4 + (-7046029254386353131 : Int64))) (own_mix ((p4 + (-7046029254386353131 : Int64)) + (-7046029254386353131 : Int64))) (own_mix (((p4 + (-7046029254386353131 : Int64)) + (-7046029254386353131 : Int64)) + (-7046029254386353131 : Int64))) (own_mix ((((p4 + (-7046029254386353131 : Int64)) + (-7046029254386353131 : Int64)) + (-7046029254386353131 : Int64)) + (-7046029254386353131 : Int64))) := own_seed_nz _ _ _
  have C327 : ∀ t, Steps p.tables e below (T326.setTop (mkF m 78 #[.val (.int p1), .val (.int p2), .val (.int p3), .val (.long p4), .second, .val (.int pr), .val (.int sg), .val (.int ct), .val (.int ai), .val (.int bi), .val (.ref b319), .val (.ref b324), .unset, .unset, .unset, .unset, .unset, .unset] [])) t → Steps p.tables e below (s₁.setTop (entryFrame m #[(.int p1), (.int p2), (.int p3), (.long p4)] maxLocals)) t := by
    intro t k
    refine C326 t ?_
    refine XS.astore X326.here hx rfl (hb hby at_76) rfl rfl (l' := #[.val (.int p1), .val (.int p2), .val (.int p3), .val (.long p4), .second, .val (.int pr), .val (.int sg), .val (.int ct), .val (.int ai), .val (.int bi), .val (.ref b319), .val (.ref b324), .unset, .unset, .unset, .unset, .unset, .unset]) rfl ?_
    exact k
  obtain ⟨T328, h328, X328, e328, E328, A328, D328, -, st328⟩ := newO X326 hx hZ hown (hw _ (List.mem_of_getElem? (i := 25) rfl)) (hw _ (List.mem_of_getElem? (i := 26) rfl)) (hw _ (List.mem_of_getElem? (i := 27) rfl)) rfl (g := (mkF m 78 #[.val (.int p1), .val (.int p2), .val (.int p3), .val (.long p4), .second, .val (.int pr), .val (.int sg), .val (.int ct), .val (.int ai), .val (.int bi), .val (.ref b319), .val (.ref b324), .unset, .unset, .unset, .unset, .unset, .unset] [])) rfl (hb hby at_78) (by decide) (by decide)
  obtain ⟨b328, g328⟩ : ∃ z, z = T326.heap.size := ⟨_, rfl⟩
  rw [← g328] at A328 D328 st328
  have C328 : ∀ t, Steps p.tables e below (T328.setTop (mkF m 81 #[.val (.int p1), .val (.int p2), .val (.int p3), .val (.long p4), .second, .val (.int pr), .val (.int sg), .val (.int ct), .val (.int ai), .val (.int bi), .val (.ref b319), .val (.ref b324), .unset, .unset, .unset, .unset, .unset, .unset] [(.ref b328)])) t → Steps p.tables e below (s₁.setTop (entryFrame m #[(.int p1), (.int p2), (.int p3), (.long p4)] maxLocals)) t := fun t k => C327 t (st328 t k)
  have G1 : Fld Z h328 b328 "com/example/mutatune/mutatune/engine/UniversalSampling" "slots" "[I" .null := D328 (Or.inr (hw _ (List.mem_of_getElem? (i := 52) rfl))) (ty := (.array .int)) (by decide)
  have G2 : Fld Z h328 b328 "com/example/mutatune/mutatune/engine/UniversalSampling" "next" "I" (.int 0) := D328 (Or.inl (hw _ (List.mem_of_getElem? (i := 73) rfl))) (ty := .int) (by decide)
  have Z5 : n0 ≤ h328.size := Nat.le_trans Z4 E328.1
  have gu : n0 ≤ b328 := Nat.le_trans Z4 (Nat.le_of_eq g328.symm)
  have C329 : ∀ t, Steps p.tables e below (T328.setTop (mkF m 90 #[.val (.int p1), .val (.int p2), .val (.int p3), .val (.long p4), .second, .val (.int pr), .val (.int sg), .val (.int ct), .val (.int ai), .val (.int bi), .val (.ref b319), .val (.ref b324), .unset, .unset, .unset, .unset, .unset, .unset] [(.ref b324), (.int sg), (.int pr), (.ref b319), (.ref b328), (.ref b328)])) t → Steps p.tables e below (s₁.setTop (entryFrame m #[(.int p1), (.int p2), (.int p3), (.long p4)] maxLocals)) t := by
    intro t k
    refine C328 t ?_
    refine XS.dup X328.here hx rfl (hb hby at_81) rfl rfl ?_
    refine XS.aload X328.here hx rfl (hb hby at_82) rfl rfl ?_
    refine XS.iload X328.here hx rfl (hb hby at_84) rfl ?_
    show Steps p.tables e below (T328.setTop (mkF m 86 #[.val (.int p1), .val (.int p2), .val (.int p3), .val (.long p4), .second, .val (.int pr), .val (.int sg), .val (.int ct), .val (.int ai), .val (.int bi), .val (.ref b319), .val (.ref b324), .unset, .unset, .unset, .unset, .unset, .unset] [(.int pr), (.ref b319), (.ref b328), (.ref b328)])) _
    refine XS.iload X328.here hx rfl (hb hby at_86) rfl ?_
    refine XS.aload X328.here hx rfl (hb hby at_88) rfl rfl ?_
    exact k
  obtain ⟨_, _, ⟨T330, L330, k330, n330⟩, -, X330, ⟨Lc330, hQ330, l330, y330, z330⟩, st330⟩ := X328.specialBack hx (y := (⟨"com/example/mutatune/mutatune/engine/UniversalSampling", "<init>", "([DIILcom/example/mutatune/mutatune/engine/SeededRandom;)V"⟩ : MethodName)) rfl hown (mvT hZ (hw _ (List.mem_of_getElem? (i := 28) rfl))) (mvT hZ (hw _ (List.mem_of_getElem? (i := 29) rfl))) (mvT hZ (hw _ (List.mem_of_getElem? (i := 30) rfl))) (by decide) (backOf (W := 1) (rm4 l Z a0 hw [] b328 b319 pr sg b324 na nb 4 2 ai bi (FP.i2d (ct - (1 : Int32))) (own_mix (p4 + (-7046029254386353131 : Int64))) (own_mix ((p4 + (-7046029254386353131 : Int64)) + (-7046029254386353131 : Int64))) (own_mix (((p4 + (-7046029254386353131 : Int64)) + (-7046029254386353131 : Int64)) + (-7046029254386353131 : Int64))) (own_mix ((((p4 + (-7046029254386353131 : Int64)) + (-7046029254386353131 : Int64)) + (-7046029254386353131 : Int64)) + (-7046029254386353131 : Int64))) h328 n0 Z5 G1 G2 A328 gu gra (V3.ext E328) (R326.ext E328) NZ hct0 (by decide) (by decide) hab hb4 hA hB hAB zb hpr (by decide) (by decide) (by decide)) hZ (hw _ (List.mem_of_getElem? (i := 30) rfl)) (hw _ (List.mem_of_getElem? (i := 27) rfl)) (by decide) (by decide)) (g := (mkF m 90 #[.val (.int p1), .val (.int p2), .val (.int p3), .val (.long p4), .second, .val (.int pr), .val (.int sg), .val (.int ct), .val (.int ai), .val (.int bi), .val (.ref b319), .val (.ref b324), .unset, .unset, .unset, .unset, .unset, .unset] [(.ref b324), (.int sg), (.int pr), (.ref b319), (.ref b328), (.ref b328)])) rfl (by rw [hml]; rfl) (Steps.refl _) (a := b328) (argsL := [(.ref b319), (.int pr), (.int sg), (.ref b324)]) (rest := [(.ref b328)]) (lenOf pd9 rfl) rfl (by show 2 * 0 + _ ≤ _; exact Nat.le_of_eq rfl) (hb hby at_90) (fun _ _ => ⟨rfl, e328, (by decide : 3 + 1 ≤ _), (by decide : 10 + 6 ≤ _)⟩)
  dsimp only [Pt.U, Pt.locs, Pt.cells, Pt.slots] at X330 l330 y330 z330 st330 hQ330
  subst l330 y330 z330
  obtain ⟨rfl, N330q, r, q, U330, hq, fr330, s330⟩ := hQ330
  have N330 := Fr.app N326 N330q
  have C330 : ∀ t, Steps p.tables e below (T330.setTop (mkF m 93 #[.val (.int p1), .val (.int p2), .val (.int p3), .val (.long p4), .second, .val (.int pr), .val (.int sg), .val (.int ct), .val (.int ai), .val (.int bi), .val (.ref b319), .val (.ref b324), .unset, .unset, .unset, .unset, .unset, .unset] [(.ref b328)])) t → Steps p.tables e below (s₁.setTop (entryFrame m #[(.int p1), (.int p2), (.int p3), (.long p4)] maxLocals)) t := fun t k => C329 t (st330.trans k)
  have Z6 : n0 ≤ T330.heap.size := Nat.le_trans Z5 s330
  obtain ⟨y0, hy0⟩ : ∃ y : Int32, y = (if 0 = q then ai else bi) := ⟨_, rfl⟩
  obtain ⟨y1, hy1⟩ : ∃ y : Int32, y = (if 1 = q then ai else bi) := ⟨_, rfl⟩
  obtain ⟨y2, hy2⟩ : ∃ y : Int32, y = (if 2 = q then ai else bi) := ⟨_, rfl⟩
  obtain ⟨y3, hy3⟩ : ∃ y : Int32, y = (if 3 = q then ai else bi) := ⟨_, rfl⟩
  have C331 : ∀ t, Steps p.tables e below (T330.setTop (mkF m 99 #[.val (.int p1), .val (.int p2), .val (.int p3), .val (.long p4), .second, .val (.int pr), .val (.int sg), .val (.int ct), .val (.int ai), .val (.int bi), .val (.ref b319), .val (.ref b324), .val (.ref b328), .unset, .unset, .unset, .unset, .unset] [(.ref b324), (.ref b328)])) t → Steps p.tables e below (s₁.setTop (entryFrame m #[(.int p1), (.int p2), (.int p3), (.long p4)] maxLocals)) t := by
    intro t k
    refine C330 t ?_
    refine XS.astore X330.here hx rfl (hb hby at_93) rfl rfl (l' := #[.val (.int p1), .val (.int p2), .val (.int p3), .val (.long p4), .second, .val (.int pr), .val (.int sg), .val (.int ct), .val (.int ai), .val (.int bi), .val (.ref b319), .val (.ref b324), .val (.ref b328), .unset, .unset, .unset, .unset, .unset]) rfl ?_
    refine XS.aload X330.here hx rfl (hb hby at_95) rfl rfl ?_
    refine XS.aload X330.here hx rfl (hb hby at_97) rfl rfl ?_
    exact k
  obtain ⟨cq332, kq332, q332a, q332b, q332c⟩ := isOf hZ rfl U330.1
  obtain ⟨_, _, ⟨T332, L332, k332, n332⟩, -, X332, ⟨Lc332, hQ332, l332, y332, z332⟩, st332⟩ := X330.virtualBack hx (y := (⟨"com/example/mutatune/mutatune/engine/UniversalSampling", "pair", "(Lcom/example/mutatune/mutatune/engine/SeededRandom;)[I"⟩ : MethodName)) (z := (⟨"com/example/mutatune/mutatune/engine/UniversalSampling", "pair", "(Lcom/example/mutatune/mutatune/engine/SeededRandom;)[I"⟩ : MethodName)) hown (mvT hZ (hw _ (List.mem_of_getElem? (i := 67) rfl))) (mvT hZ (hw _ (List.mem_of_getElem? (i := 68) rfl))) (notFace_of_selects (args := #[]) (mvT hZ (hw _ (List.mem_of_getElem? (i := 70) rfl)))) (mvT hZ (hw _ (List.mem_of_getElem? (i := 70) rfl))) (mvT hZ (hw _ (List.mem_of_getElem? (i := 69) rfl))) (by decide) (backOf (W := 0) (rm12 l Z a0 hw [] b328 b324 r 4 0 1 2 0 q ai bi y0 y1 T330.heap n0 Z6 U330 gu rfl rfl (by decide) (by decide) (by decide) hy0 hy1) hZ (hw _ (List.mem_of_getElem? (i := 71) rfl)) (hw _ (List.mem_of_getElem? (i := 27) rfl)) (by decide) (by decide)) q332a q332c (g := (mkF m 99 #[.val (.int p1), .val (.int p2), .val (.int p3), .val (.long p4), .second, .val (.int pr), .val (.int sg), .val (.int ct), .val (.int ai), .val (.int bi), .val (.ref b319), .val (.ref b324), .val (.ref b328), .unset, .unset, .unset, .unset, .unset] [(.ref b324), (.ref b328)])) rfl (by rw [hml]; rfl) (Steps.refl _) (argsL := [(.ref b324)]) (rest := []) (lenOf pd10 rfl) rfl (by show 2 * 0 + _ ≤ _; exact Nat.le_of_eq rfl) (hb hby at_99) (fun _ _ => ⟨rfl, rfl, (by decide : 4 + 1 ≤ _), (by decide : 16 + 2 ≤ _)⟩)
  dsimp only [Pt.U, Pt.locs, Pt.cells, Pt.slots] at X332 l332 y332 z332 st332 hQ332
  subst l332 y332 z332
  obtain ⟨pa332, rfl, N332q, P332, U332, fp332, K332⟩ := hQ332
  have N332 := Fr.app N330 N332q
  have C332 : ∀ t, Steps p.tables e below (T332.setTop (mkF m 102 #[.val (.int p1), .val (.int p2), .val (.int p3), .val (.long p4), .second, .val (.int pr), .val (.int sg), .val (.int ct), .val (.int ai), .val (.int bi), .val (.ref b319), .val (.ref b324), .val (.ref b328), .unset, .unset, .unset, .unset, .unset] [(.ref pa332)])) t → Steps p.tables e below (s₁.setTop (entryFrame m #[(.int p1), (.int p2), (.int p3), (.long p4)] maxLocals)) t := fun t k => C331 t (st332.trans k)
  have Z332 : n0 ≤ T332.heap.size := Nat.le_trans Z6 K332.1
  have C333 : ∀ t, Steps p.tables e below (T332.setTop (mkF m 114 #[.val (.int p1), .val (.int p2), .val (.int p3), .val (.long p4), .second, .val (.int pr), .val (.int sg), .val (.int ct), .val (.int ai), .val (.int bi), .val (.ref b319), .val (.ref b324), .val (.ref b328), .val (.ref pa332), .unset, .unset, .unset, .unset] [(.ref b324), (.ref b328)])) t → Steps p.tables e below (s₁.setTop (entryFrame m #[(.int p1), (.int p2), (.int p3), (.long p4)] maxLocals)) t := by
    intro t k
    refine C332 t ?_
    refine XS.astore X332.here hx rfl (hb hby at_102) rfl rfl (l' := #[.val (.int p1), .val (.int p2), .val (.int p3), .val (.long p4), .second, .val (.int pr), .val (.int sg), .val (.int ct), .val (.int ai), .val (.int bi), .val (.ref b319), .val (.ref b324), .val (.ref b328), .val (.ref pa332), .unset, .unset, .unset, .unset]) rfl ?_
    refine XS.iload X332.here hx rfl (hb hby at_104) rfl ?_
    refine XS.iconst X332.here hx rfl (hb hby at_106) ?_
    show Steps p.tables e below (T332.setTop (mkF m 107 #[.val (.int p1), .val (.int p2), .val (.int p3), .val (.long p4), .second, .val (.int pr), .val (.int sg), .val (.int ct), .val (.int ai), .val (.int bi), .val (.ref b319), .val (.ref b324), .val (.ref b328), .val (.ref pa332), .unset, .unset, .unset, .unset] [(.int (2 : Int32)), (.int pr)])) _
    refine XS.icmpNo X332.here hx rfl (hb hby at_107) rfl (XT.ii_lt_f (by rw [own_lt32, hpr]; decide)) ?_
    refine XS.aload X332.here hx rfl (hb hby at_110) rfl rfl ?_
    refine XS.aload X332.here hx rfl (hb hby at_112) rfl rfl ?_
    exact k
  obtain ⟨cq334, kq334, q334a, q334b, q334c⟩ := isOf hZ rfl U332.1
  obtain ⟨_, _, ⟨T334, L334, k334, n334⟩, -, X334, ⟨Lc334, hQ334, l334, y334, z334⟩, st334⟩ := X332.virtualBack hx (y := (⟨"com/example/mutatune/mutatune/engine/UniversalSampling", "pair", "(Lcom/example/mutatune/mutatune/engine/SeededRandom;)[I"⟩ : MethodName)) (z := (⟨"com/example/mutatune/mutatune/engine/UniversalSampling", "pair", "(Lcom/example/mutatune/mutatune/engine/SeededRandom;)[I"⟩ : MethodName)) hown (mvT hZ (hw _ (List.mem_of_getElem? (i := 67) rfl))) (mvT hZ (hw _ (List.mem_of_getElem? (i := 68) rfl))) (notFace_of_selects (args := #[]) (mvT hZ (hw _ (List.mem_of_getElem? (i := 70) rfl)))) (mvT hZ (hw _ (List.mem_of_getElem? (i := 70) rfl))) (mvT hZ (hw _ (List.mem_of_getElem? (i := 69) rfl))) (by decide) (backOf (W := 0) (rm12 l Z a0 hw [] b328 b324 r 4 2 3 4 2 q ai bi y2 y3 T332.heap n0 Z332 U332 gu rfl rfl (by decide) (by decide) (by decide) hy2 hy3) hZ (hw _ (List.mem_of_getElem? (i := 71) rfl)) (hw _ (List.mem_of_getElem? (i := 27) rfl)) (by decide) (by decide)) q334a q334c (g := (mkF m 114 #[.val (.int p1), .val (.int p2), .val (.int p3), .val (.long p4), .second, .val (.int pr), .val (.int sg), .val (.int ct), .val (.int ai), .val (.int bi), .val (.ref b319), .val (.ref b324), .val (.ref b328), .val (.ref pa332), .unset, .unset, .unset, .unset] [(.ref b324), (.ref b328)])) rfl (by rw [hml]; rfl) (Steps.refl _) (argsL := [(.ref b324)]) (rest := []) (lenOf pd10 rfl) rfl (by show 2 * 0 + _ ≤ _; exact Nat.le_of_eq rfl) (hb hby at_114) (fun _ _ => ⟨rfl, rfl, (by decide : 5 + 1 ≤ _), (by decide : 18 + 2 ≤ _)⟩)
  dsimp only [Pt.U, Pt.locs, Pt.cells, Pt.slots] at X334 l334 y334 z334 st334 hQ334
  subst l334 y334 z334
  obtain ⟨pa334, rfl, N334q, P334, U334, fp334, K334⟩ := hQ334
  have N334 := Fr.app N332 N334q
  have C334 : ∀ t, Steps p.tables e below (T334.setTop (mkF m 117 #[.val (.int p1), .val (.int p2), .val (.int p3), .val (.long p4), .second, .val (.int pr), .val (.int sg), .val (.int ct), .val (.int ai), .val (.int bi), .val (.ref b319), .val (.ref b324), .val (.ref b328), .val (.ref pa332), .unset, .unset, .unset, .unset] [(.ref pa334)])) t → Steps p.tables e below (s₁.setTop (entryFrame m #[(.int p1), (.int p2), (.int p3), (.long p4)] maxLocals)) t := fun t k => C333 t (st334.trans k)
  have Z334 : n0 ≤ T334.heap.size := Nat.le_trans Z332 K334.1
  have P0k := P332.keep K334 (own_nin1 (Ne.symm (own_ne U332.1 (hw _ (List.mem_of_getElem? (i := 26) rfl)) P332)))
  obtain ⟨c335, A335, S335, V335⟩ := id P0k
  obtain ⟨c336, A336, S336, V336⟩ := id P334
  obtain ⟨c337, A337, S337, V337⟩ := id P0k
  obtain ⟨t0, et0, ht0⟩ := own_tal hAB hy0
  have C338 : ∀ t, Steps p.tables e below (T334.setTop (mkF m 209 #[.val (.int p1), .val (.int p2), .val (.int p3), .val (.long p4), .second, .val (.int pr), .val (.int sg), .val (.int ct), .val (.int ai), .val (.int bi), .val (.ref b319), .val (.ref b324), .val (.ref b328), .val (.ref pa332), .val (.ref pa334), .val (.int bi), .val (.int bi), .unset] [(.int bi), (.int ai), (.int y0)])) t → Steps p.tables e below (s₁.setTop (entryFrame m #[(.int p1), (.int p2), (.int p3), (.long p4)] maxLocals)) t := by
    intro t k
    refine C334 t ?_
    refine XS.goto X334.here hx rfl (pc0 := 117) (pc' := 133) rfl (hb hby at_117) (by decide) (by decide) ?_
    refine XS.astore X334.here hx rfl (hb hby at_133) rfl rfl (l' := #[.val (.int p1), .val (.int p2), .val (.int p3), .val (.long p4), .second, .val (.int pr), .val (.int sg), .val (.int ct), .val (.int ai), .val (.int bi), .val (.ref b319), .val (.ref b324), .val (.ref b328), .val (.ref pa332), .val (.ref pa334), .unset, .unset, .unset]) rfl ?_
    refine XS.iload X334.here hx rfl (hb hby at_135) rfl ?_
    show Steps p.tables e below (T334.setTop (mkF m 137 #[.val (.int p1), .val (.int p2), .val (.int p3), .val (.long p4), .second, .val (.int pr), .val (.int sg), .val (.int ct), .val (.int ai), .val (.int bi), .val (.ref b319), .val (.ref b324), .val (.ref b328), .val (.ref pa332), .val (.ref pa334), .unset, .unset, .unset] [(.int sg)])) _
    refine XS.iconst X334.here hx rfl (hb hby at_137) ?_
    refine XS.icmpYes X334.here hx rfl (pc0 := 138) (pc' := 151) rfl (hb hby at_138) rfl (XT.ii_lt_t (by rw [own_lt32, hsg]; decide)) (by decide) (by decide) ?_
    refine XS.iload X334.here hx rfl (hb hby at_151) rfl ?_
    refine XS.istore X334.here hx rfl (hb hby at_153) rfl (l' := #[.val (.int p1), .val (.int p2), .val (.int p3), .val (.long p4), .second, .val (.int pr), .val (.int sg), .val (.int ct), .val (.int ai), .val (.int bi), .val (.ref b319), .val (.ref b324), .val (.ref b328), .val (.ref pa332), .val (.ref pa334), .val (.int bi), .unset, .unset]) rfl ?_
    show Steps p.tables e below (T334.setTop (mkF m 155 #[.val (.int p1), .val (.int p2), .val (.int p3), .val (.long p4), .second, .val (.int pr), .val (.int sg), .val (.int ct), .val (.int ai), .val (.int bi), .val (.ref b319), .val (.ref b324), .val (.ref b328), .val (.ref pa332), .val (.ref pa334), .val (.int bi), .unset, .unset] [])) _
    refine XS.iload X334.here hx rfl (hb hby at_155) rfl ?_
    refine XS.iconst X334.here hx rfl (hb hby at_157) ?_
    refine XS.icmpYes X334.here hx rfl (pc0 := 158) (pc' := 171) rfl (hb hby at_158) rfl (XT.ii_lt_t (by rw [own_lt32, hsg]; decide)) (by decide) (by decide) ?_
    refine XS.iload X334.here hx rfl (hb hby at_171) rfl ?_
    show Steps p.tables e below (T334.setTop (mkF m 173 #[.val (.int p1), .val (.int p2), .val (.int p3), .val (.long p4), .second, .val (.int pr), .val (.int sg), .val (.int ct), .val (.int ai), .val (.int bi), .val (.ref b319), .val (.ref b324), .val (.ref b328), .val (.ref pa332), .val (.ref pa334), .val (.int bi), .unset, .unset] [(.int bi)])) _
    refine XS.istore X334.here hx rfl (hb hby at_173) rfl (l' := #[.val (.int p1), .val (.int p2), .val (.int p3), .val (.long p4), .second, .val (.int pr), .val (.int sg), .val (.int ct), .val (.int ai), .val (.int bi), .val (.ref b319), .val (.ref b324), .val (.ref b328), .val (.ref pa332), .val (.ref pa334), .val (.int bi), .val (.int bi), .unset]) rfl ?_
    refine XS.aload X334.here hx rfl (hb hby at_175) rfl rfl ?_
    refine XS.ifnullNo X334.here hx rfl (hb hby at_177) rfl  ?_
    refine XS.aload X334.here hx rfl (hb hby at_180) rfl rfl ?_
    show Steps p.tables e below (T334.setTop (mkF m 182 #[.val (.int p1), .val (.int p2), .val (.int p3), .val (.long p4), .second, .val (.int pr), .val (.int sg), .val (.int ct), .val (.int ai), .val (.int bi), .val (.ref b319), .val (.ref b324), .val (.ref b328), .val (.ref pa332), .val (.ref pa334), .val (.int bi), .val (.int bi), .unset] [(.ref pa334)])) _
    refine XS.ifnullNo X334.here hx rfl (hb hby at_182) rfl  ?_
    refine XS.aload X334.here hx rfl (hb hby at_185) rfl rfl ?_
    refine X334.arraylength hx A335.1 (State.isArrayOf_alike hZ.alike A335.2.1) (g := (mkF m 187 #[.val (.int p1), .val (.int p2), .val (.int p3), .val (.long p4), .second, .val (.int pr), .val (.int sg), .val (.int ct), .val (.int ai), .val (.int bi), .val (.ref b319), .val (.ref b324), .val (.ref b328), .val (.ref pa332), .val (.ref pa334), .val (.int bi), .val (.int bi), .unset] [(.ref pa332)])) rfl rfl (hb hby at_187) _ ?_
    rw [S335, (rfl : (2 : Nat).toInt32 = (2 : Int32))]
    refine XS.iconst X334.here hx rfl (hb hby at_188) ?_
    show Steps p.tables e below (T334.setTop (mkF m 189 #[.val (.int p1), .val (.int p2), .val (.int p3), .val (.long p4), .second, .val (.int pr), .val (.int sg), .val (.int ct), .val (.int ai), .val (.int bi), .val (.ref b319), .val (.ref b324), .val (.ref b328), .val (.ref pa332), .val (.ref pa334), .val (.int bi), .val (.int bi), .unset] [(.int (2 : Int32)), (.int (2 : Int32))])) _
    refine XS.icmpNo X334.here hx rfl (hb hby at_189) rfl (XT.ii_ne_f rfl) ?_
    refine XS.aload X334.here hx rfl (hb hby at_192) rfl rfl ?_
    refine X334.arraylength hx A336.1 (State.isArrayOf_alike hZ.alike A336.2.1) (g := (mkF m 194 #[.val (.int p1), .val (.int p2), .val (.int p3), .val (.long p4), .second, .val (.int pr), .val (.int sg), .val (.int ct), .val (.int ai), .val (.int bi), .val (.ref b319), .val (.ref b324), .val (.ref b328), .val (.ref pa332), .val (.ref pa334), .val (.int bi), .val (.int bi), .unset] [(.ref pa334)])) rfl rfl (hb hby at_194) _ ?_
    rw [S336, (rfl : (2 : Nat).toInt32 = (2 : Int32))]
    refine XS.iconst X334.here hx rfl (hb hby at_195) ?_
    show Steps p.tables e below (T334.setTop (mkF m 196 #[.val (.int p1), .val (.int p2), .val (.int p3), .val (.long p4), .second, .val (.int pr), .val (.int sg), .val (.int ct), .val (.int ai), .val (.int bi), .val (.ref b319), .val (.ref b324), .val (.ref b328), .val (.ref pa332), .val (.ref pa334), .val (.int bi), .val (.int bi), .unset] [(.int (2 : Int32)), (.int (2 : Int32))])) _
    refine XS.icmpYes X334.here hx rfl (pc0 := 196) (pc' := 201) rfl (hb hby at_196) rfl (XT.ii_eq_t rfl) (by decide) (by decide) ?_
    refine XS.aload X334.here hx rfl (hb hby at_201) rfl rfl ?_
    refine XS.iconst X334.here hx rfl (hb hby at_203) ?_
    refine X334.iaload hx (j := (0 : Int32)) (v := (.int y0)) A337.1 (State.isArrayOf_alike hZ.alike A337.2.1) A337.2.2 (own_in own_i20 S337) (V337 _ (own_i20).2) (g := (mkF m 204 #[.val (.int p1), .val (.int p2), .val (.int p3), .val (.long p4), .second, .val (.int pr), .val (.int sg), .val (.int ct), .val (.int ai), .val (.int bi), .val (.ref b319), .val (.ref b324), .val (.ref b328), .val (.ref pa332), .val (.ref pa334), .val (.int bi), .val (.int bi), .unset] [(.int (0 : Int32)), (.ref pa332)])) rfl rfl (hb hby at_204) _ ?_
    show Steps p.tables e below (T334.setTop (mkF m 205 #[.val (.int p1), .val (.int p2), .val (.int p3), .val (.long p4), .second, .val (.int pr), .val (.int sg), .val (.int ct), .val (.int ai), .val (.int bi), .val (.ref b319), .val (.ref b324), .val (.ref b328), .val (.ref pa332), .val (.ref pa334), .val (.int bi), .val (.int bi), .unset] [(.int y0)])) _
    refine XS.iload X334.here hx rfl (hb hby at_205) rfl ?_
    refine XS.iload X334.here hx rfl (hb hby at_207) rfl ?_
    exact k
  obtain ⟨_, _, ⟨T339, L339, k339, n339⟩, -, X339, ⟨Lc339, hQ339, l339, y339, z339⟩, st339⟩ := Jvm.LawKit.callS X334 hx (y := (⟨"com/example/mutatune/mutatune/engine/UniversalSamplingPairPinLaw", "tally", "(III)I"⟩ : MethodName)) hown (mvT hZ (hw _ (List.mem_of_getElem? (i := 74) rfl))) (mvT hZ (hw _ (List.mem_of_getElem? (i := 75) rfl))) (mvT hZ (hw _ (List.mem_of_getElem? (i := 76) rfl))) (mvT hZ (hw _ (List.mem_of_getElem? (i := 77) rfl))) (by decide) (backOf (W := 0) (rm13 l Z a0 hw [] y0 ai bi t0 T334.heap n0 Z334 ht0) hZ (hw _ (List.mem_of_getElem? (i := 77) rfl)) (hw _ (List.mem_of_getElem? (i := 76) rfl)) (by decide) (by decide)) (g := (mkF m 209 #[.val (.int p1), .val (.int p2), .val (.int p3), .val (.long p4), .second, .val (.int pr), .val (.int sg), .val (.int ct), .val (.int ai), .val (.int bi), .val (.ref b319), .val (.ref b324), .val (.ref b328), .val (.ref pa332), .val (.ref pa334), .val (.int bi), .val (.int bi), .unset] [(.int bi), (.int ai), (.int y0)])) rfl (by rw [hml]; rfl) (argsL := [(.int y0), (.int ai), (.int bi)]) (rest := []) (lenOf pd11 rfl) rfl (by show 2 * 0 + _ ≤ _; exact Nat.le_of_eq rfl) (hb hby at_209) (fun _ _ => ⟨rfl, rfl, (by decide : 6 + 0 ≤ _), (by decide : 20 + 0 ≤ _)⟩)
  dsimp only [Pt.U, Pt.locs, Pt.cells, Pt.slots] at X339 l339 y339 z339 st339 hQ339
  subst l339 y339 z339
  obtain ⟨rfl, N339q, q339⟩ := hQ339
  have N339 := Fr.app N334 N339q
  have C339 : ∀ t, Steps p.tables e below (T339.setTop (mkF m 212 #[.val (.int p1), .val (.int p2), .val (.int p3), .val (.long p4), .second, .val (.int pr), .val (.int sg), .val (.int ct), .val (.int ai), .val (.int bi), .val (.ref b319), .val (.ref b324), .val (.ref b328), .val (.ref pa332), .val (.ref pa334), .val (.int bi), .val (.int bi), .unset] [(.int t0)])) t → Steps p.tables e below (s₁.setTop (entryFrame m #[(.int p1), (.int p2), (.int p3), (.long p4)] maxLocals)) t := fun t k => C338 t (st339 t k)
  obtain ⟨c340, A340, S340, V340⟩ := id P0k
  obtain ⟨t1, et1, ht1⟩ := own_tal hAB hy1
  have C341 : ∀ t, Steps p.tables e below (T339.setTop (mkF m 220 #[.val (.int p1), .val (.int p2), .val (.int p3), .val (.long p4), .second, .val (.int pr), .val (.int sg), .val (.int ct), .val (.int ai), .val (.int bi), .val (.ref b319), .val (.ref b324), .val (.ref b328), .val (.ref pa332), .val (.ref pa334), .val (.int bi), .val (.int bi), .unset] [(.int bi), (.int ai), (.int y1), (.int t0)])) t → Steps p.tables e below (s₁.setTop (entryFrame m #[(.int p1), (.int p2), (.int p3), (.long p4)] maxLocals)) t := by
    intro t k
    refine C339 t ?_
    refine XS.aload X339.here hx rfl (hb hby at_212) rfl rfl ?_
    refine XS.iconst X339.here hx rfl (hb hby at_214) ?_
    refine X339.iaload hx (j := (1 : Int32)) (v := (.int y1)) (by rw [q339]; exact A340.1) (State.isArrayOf_alike hZ.alike A340.2.1) A340.2.2 (own_in own_i21 S340) (V340 _ (own_i21).2) (g := (mkF m 215 #[.val (.int p1), .val (.int p2), .val (.int p3), .val (.long p4), .second, .val (.int pr), .val (.int sg), .val (.int ct), .val (.int ai), .val (.int bi), .val (.ref b319), .val (.ref b324), .val (.ref b328), .val (.ref pa332), .val (.ref pa334), .val (.int bi), .val (.int bi), .unset] [(.int (1 : Int32)), (.ref pa332), (.int t0)])) rfl rfl (hb hby at_215) _ ?_
    show Steps p.tables e below (T339.setTop (mkF m 216 #[.val (.int p1), .val (.int p2), .val (.int p3), .val (.long p4), .second, .val (.int pr), .val (.int sg), .val (.int ct), .val (.int ai), .val (.int bi), .val (.ref b319), .val (.ref b324), .val (.ref b328), .val (.ref pa332), .val (.ref pa334), .val (.int bi), .val (.int bi), .unset] [(.int y1), (.int t0)])) _
    refine XS.iload X339.here hx rfl (hb hby at_216) rfl ?_
    refine XS.iload X339.here hx rfl (hb hby at_218) rfl ?_
    exact k
  obtain ⟨_, _, ⟨T342, L342, k342, n342⟩, -, X342, ⟨Lc342, hQ342, l342, y342, z342⟩, st342⟩ := Jvm.LawKit.callS X339 hx (y := (⟨"com/example/mutatune/mutatune/engine/UniversalSamplingPairPinLaw", "tally", "(III)I"⟩ : MethodName)) hown (mvT hZ (hw _ (List.mem_of_getElem? (i := 74) rfl))) (mvT hZ (hw _ (List.mem_of_getElem? (i := 75) rfl))) (mvT hZ (hw _ (List.mem_of_getElem? (i := 76) rfl))) (mvT hZ (hw _ (List.mem_of_getElem? (i := 77) rfl))) (by decide) (backOf (W := 1) (rm13 l Z a0 hw [] y1 ai bi t1 T334.heap n0 Z334 ht1) hZ (hw _ (List.mem_of_getElem? (i := 77) rfl)) (hw _ (List.mem_of_getElem? (i := 76) rfl)) (by decide) (by decide)) (g := (mkF m 220 #[.val (.int p1), .val (.int p2), .val (.int p3), .val (.long p4), .second, .val (.int pr), .val (.int sg), .val (.int ct), .val (.int ai), .val (.int bi), .val (.ref b319), .val (.ref b324), .val (.ref b328), .val (.ref pa332), .val (.ref pa334), .val (.int bi), .val (.int bi), .unset] [(.int bi), (.int ai), (.int y1), (.int t0)])) rfl (by rw [hml]; rfl) (argsL := [(.int y1), (.int ai), (.int bi)]) (rest := [(.int t0)]) (lenOf pd11 rfl) rfl (by show 2 * 0 + _ ≤ _; exact Nat.le_of_eq rfl) (hb hby at_220) (fun _ _ => ⟨rfl, q339, (by decide : 6 + 0 ≤ _), (by decide : 20 + 0 ≤ _)⟩)
  dsimp only [Pt.U, Pt.locs, Pt.cells, Pt.slots] at X342 l342 y342 z342 st342 hQ342
  subst l342 y342 z342
  obtain ⟨rfl, N342q, q342⟩ := hQ342
  have N342 := Fr.app N339 N342q
  have C342 : ∀ t, Steps p.tables e below (T342.setTop (mkF m 223 #[.val (.int p1), .val (.int p2), .val (.int p3), .val (.long p4), .second, .val (.int pr), .val (.int sg), .val (.int ct), .val (.int ai), .val (.int bi), .val (.ref b319), .val (.ref b324), .val (.ref b328), .val (.ref pa332), .val (.ref pa334), .val (.int bi), .val (.int bi), .unset] [(.int t1), (.int t0)])) t → Steps p.tables e below (s₁.setTop (entryFrame m #[(.int p1), (.int p2), (.int p3), (.long p4)] maxLocals)) t := fun t k => C341 t (st342 t k)
  obtain ⟨c343, A343, S343, V343⟩ := id P334
  obtain ⟨t2, et2, ht2⟩ := own_tal hAB hy2
  have C344 : ∀ t, Steps p.tables e below (T342.setTop (mkF m 232 #[.val (.int p1), .val (.int p2), .val (.int p3), .val (.long p4), .second, .val (.int pr), .val (.int sg), .val (.int ct), .val (.int ai), .val (.int bi), .val (.ref b319), .val (.ref b324), .val (.ref b328), .val (.ref pa332), .val (.ref pa334), .val (.int bi), .val (.int bi), .unset] [(.int bi), (.int ai), (.int y2), (.int (t0 + t1))])) t → Steps p.tables e below (s₁.setTop (entryFrame m #[(.int p1), (.int p2), (.int p3), (.long p4)] maxLocals)) t := by
    intro t k
    refine C342 t ?_
    refine XS.iadd X342.here hx rfl (hb hby at_223) rfl ?_
    refine XS.aload X342.here hx rfl (hb hby at_224) rfl rfl ?_
    refine XS.iconst X342.here hx rfl (hb hby at_226) ?_
    show Steps p.tables e below (T342.setTop (mkF m 227 #[.val (.int p1), .val (.int p2), .val (.int p3), .val (.long p4), .second, .val (.int pr), .val (.int sg), .val (.int ct), .val (.int ai), .val (.int bi), .val (.ref b319), .val (.ref b324), .val (.ref b328), .val (.ref pa332), .val (.ref pa334), .val (.int bi), .val (.int bi), .unset] [(.int (0 : Int32)), (.ref pa334), (.int (t0 + t1))])) _
    refine X342.iaload hx (j := (0 : Int32)) (v := (.int y2)) (by rw [q342]; exact A343.1) (State.isArrayOf_alike hZ.alike A343.2.1) A343.2.2 (own_in own_i20 S343) (V343 _ (own_i20).2) (g := (mkF m 227 #[.val (.int p1), .val (.int p2), .val (.int p3), .val (.long p4), .second, .val (.int pr), .val (.int sg), .val (.int ct), .val (.int ai), .val (.int bi), .val (.ref b319), .val (.ref b324), .val (.ref b328), .val (.ref pa332), .val (.ref pa334), .val (.int bi), .val (.int bi), .unset] [(.int (0 : Int32)), (.ref pa334), (.int (t0 + t1))])) rfl rfl (hb hby at_227) _ ?_
    refine XS.iload X342.here hx rfl (hb hby at_228) rfl ?_
    refine XS.iload X342.here hx rfl (hb hby at_230) rfl ?_
    exact k
  obtain ⟨_, _, ⟨T345, L345, k345, n345⟩, -, X345, ⟨Lc345, hQ345, l345, y345, z345⟩, st345⟩ := Jvm.LawKit.callS X342 hx (y := (⟨"com/example/mutatune/mutatune/engine/UniversalSamplingPairPinLaw", "tally", "(III)I"⟩ : MethodName)) hown (mvT hZ (hw _ (List.mem_of_getElem? (i := 74) rfl))) (mvT hZ (hw _ (List.mem_of_getElem? (i := 75) rfl))) (mvT hZ (hw _ (List.mem_of_getElem? (i := 76) rfl))) (mvT hZ (hw _ (List.mem_of_getElem? (i := 77) rfl))) (by decide) (backOf (W := 1) (rm13 l Z a0 hw [] y2 ai bi t2 T334.heap n0 Z334 ht2) hZ (hw _ (List.mem_of_getElem? (i := 77) rfl)) (hw _ (List.mem_of_getElem? (i := 76) rfl)) (by decide) (by decide)) (g := (mkF m 232 #[.val (.int p1), .val (.int p2), .val (.int p3), .val (.long p4), .second, .val (.int pr), .val (.int sg), .val (.int ct), .val (.int ai), .val (.int bi), .val (.ref b319), .val (.ref b324), .val (.ref b328), .val (.ref pa332), .val (.ref pa334), .val (.int bi), .val (.int bi), .unset] [(.int bi), (.int ai), (.int y2), (.int (t0 + t1))])) rfl (by rw [hml]; rfl) (argsL := [(.int y2), (.int ai), (.int bi)]) (rest := [(.int (t0 + t1))]) (lenOf pd11 rfl) rfl (by show 2 * 0 + _ ≤ _; exact Nat.le_of_eq rfl) (hb hby at_232) (fun _ _ => ⟨rfl, q342, (by decide : 6 + 0 ≤ _), (by decide : 20 + 0 ≤ _)⟩)
  dsimp only [Pt.U, Pt.locs, Pt.cells, Pt.slots] at X345 l345 y345 z345 st345 hQ345
  subst l345 y345 z345
  obtain ⟨rfl, N345q, q345⟩ := hQ345
  have N345 := Fr.app N342 N345q
  have C345 : ∀ t, Steps p.tables e below (T345.setTop (mkF m 235 #[.val (.int p1), .val (.int p2), .val (.int p3), .val (.long p4), .second, .val (.int pr), .val (.int sg), .val (.int ct), .val (.int ai), .val (.int bi), .val (.ref b319), .val (.ref b324), .val (.ref b328), .val (.ref pa332), .val (.ref pa334), .val (.int bi), .val (.int bi), .unset] [(.int t2), (.int (t0 + t1))])) t → Steps p.tables e below (s₁.setTop (entryFrame m #[(.int p1), (.int p2), (.int p3), (.long p4)] maxLocals)) t := fun t k => C344 t (st345 t k)
  obtain ⟨c346, A346, S346, V346⟩ := id P334
  obtain ⟨t3, et3, ht3⟩ := own_tal hAB hy3
  have C347 : ∀ t, Steps p.tables e below (T345.setTop (mkF m 244 #[.val (.int p1), .val (.int p2), .val (.int p3), .val (.long p4), .second, .val (.int pr), .val (.int sg), .val (.int ct), .val (.int ai), .val (.int bi), .val (.ref b319), .val (.ref b324), .val (.ref b328), .val (.ref pa332), .val (.ref pa334), .val (.int bi), .val (.int bi), .unset] [(.int bi), (.int ai), (.int y3), (.int ((t0 + t1) + t2))])) t → Steps p.tables e below (s₁.setTop (entryFrame m #[(.int p1), (.int p2), (.int p3), (.long p4)] maxLocals)) t := by
    intro t k
    refine C345 t ?_
    refine XS.iadd X345.here hx rfl (hb hby at_235) rfl ?_
    refine XS.aload X345.here hx rfl (hb hby at_236) rfl rfl ?_
    refine XS.iconst X345.here hx rfl (hb hby at_238) ?_
    show Steps p.tables e below (T345.setTop (mkF m 239 #[.val (.int p1), .val (.int p2), .val (.int p3), .val (.long p4), .second, .val (.int pr), .val (.int sg), .val (.int ct), .val (.int ai), .val (.int bi), .val (.ref b319), .val (.ref b324), .val (.ref b328), .val (.ref pa332), .val (.ref pa334), .val (.int bi), .val (.int bi), .unset] [(.int (1 : Int32)), (.ref pa334), (.int ((t0 + t1) + t2))])) _
    refine X345.iaload hx (j := (1 : Int32)) (v := (.int y3)) (by rw [q345]; exact A346.1) (State.isArrayOf_alike hZ.alike A346.2.1) A346.2.2 (own_in own_i21 S346) (V346 _ (own_i21).2) (g := (mkF m 239 #[.val (.int p1), .val (.int p2), .val (.int p3), .val (.long p4), .second, .val (.int pr), .val (.int sg), .val (.int ct), .val (.int ai), .val (.int bi), .val (.ref b319), .val (.ref b324), .val (.ref b328), .val (.ref pa332), .val (.ref pa334), .val (.int bi), .val (.int bi), .unset] [(.int (1 : Int32)), (.ref pa334), (.int ((t0 + t1) + t2))])) rfl rfl (hb hby at_239) _ ?_
    refine XS.iload X345.here hx rfl (hb hby at_240) rfl ?_
    refine XS.iload X345.here hx rfl (hb hby at_242) rfl ?_
    exact k
  obtain ⟨_, _, ⟨T348, L348, k348, n348⟩, -, X348, ⟨Lc348, hQ348, l348, y348, z348⟩, st348⟩ := Jvm.LawKit.callS X345 hx (y := (⟨"com/example/mutatune/mutatune/engine/UniversalSamplingPairPinLaw", "tally", "(III)I"⟩ : MethodName)) hown (mvT hZ (hw _ (List.mem_of_getElem? (i := 74) rfl))) (mvT hZ (hw _ (List.mem_of_getElem? (i := 75) rfl))) (mvT hZ (hw _ (List.mem_of_getElem? (i := 76) rfl))) (mvT hZ (hw _ (List.mem_of_getElem? (i := 77) rfl))) (by decide) (backOf (W := 1) (rm13 l Z a0 hw [] y3 ai bi t3 T334.heap n0 Z334 ht3) hZ (hw _ (List.mem_of_getElem? (i := 77) rfl)) (hw _ (List.mem_of_getElem? (i := 76) rfl)) (by decide) (by decide)) (g := (mkF m 244 #[.val (.int p1), .val (.int p2), .val (.int p3), .val (.long p4), .second, .val (.int pr), .val (.int sg), .val (.int ct), .val (.int ai), .val (.int bi), .val (.ref b319), .val (.ref b324), .val (.ref b328), .val (.ref pa332), .val (.ref pa334), .val (.int bi), .val (.int bi), .unset] [(.int bi), (.int ai), (.int y3), (.int ((t0 + t1) + t2))])) rfl (by rw [hml]; rfl) (argsL := [(.int y3), (.int ai), (.int bi)]) (rest := [(.int ((t0 + t1) + t2))]) (lenOf pd11 rfl) rfl (by show 2 * 0 + _ ≤ _; exact Nat.le_of_eq rfl) (hb hby at_244) (fun _ _ => ⟨rfl, q345, (by decide : 6 + 0 ≤ _), (by decide : 20 + 0 ≤ _)⟩)
  dsimp only [Pt.U, Pt.locs, Pt.cells, Pt.slots] at X348 l348 y348 z348 st348 hQ348
  subst l348 y348 z348
  obtain ⟨rfl, N348q, q348⟩ := hQ348
  have N348 := Fr.app N345 N348q
  have C348 : ∀ t, Steps p.tables e below (T348.setTop (mkF m 247 #[.val (.int p1), .val (.int p2), .val (.int p3), .val (.long p4), .second, .val (.int pr), .val (.int sg), .val (.int ct), .val (.int ai), .val (.int bi), .val (.ref b319), .val (.ref b324), .val (.ref b328), .val (.ref pa332), .val (.ref pa334), .val (.int bi), .val (.int bi), .unset] [(.int t3), (.int ((t0 + t1) + t2))])) t → Steps p.tables e below (s₁.setTop (entryFrame m #[(.int p1), (.int p2), (.int p3), (.long p4)] maxLocals)) t := fun t k => C347 t (st348 t k)
  have C349 : ∀ t, Steps p.tables e below (T348.setTop (mkF m 253 #[.val (.int p1), .val (.int p2), .val (.int p3), .val (.long p4), .second, .val (.int pr), .val (.int sg), .val (.int ct), .val (.int ai), .val (.int bi), .val (.ref b319), .val (.ref b324), .val (.ref b328), .val (.ref pa332), .val (.ref pa334), .val (.int bi), .val (.int bi), .val (.int (((t0 + t1) + t2) + t3))] [(.int (1 : Int32)), (.int (((t0 + t1) + t2) + t3))])) t → Steps p.tables e below (s₁.setTop (entryFrame m #[(.int p1), (.int p2), (.int p3), (.long p4)] maxLocals)) t := by
    intro t k
    refine C348 t ?_
    refine XS.iadd X348.here hx rfl (hb hby at_247) rfl ?_
    refine XS.istore X348.here hx rfl (hb hby at_248) rfl (l' := #[.val (.int p1), .val (.int p2), .val (.int p3), .val (.long p4), .second, .val (.int pr), .val (.int sg), .val (.int ct), .val (.int ai), .val (.int bi), .val (.ref b319), .val (.ref b324), .val (.ref b328), .val (.ref pa332), .val (.ref pa334), .val (.int bi), .val (.int bi), .val (.int (((t0 + t1) + t2) + t3))]) rfl ?_
    refine XS.iload X348.here hx rfl (hb hby at_250) rfl ?_
    show Steps p.tables e below (T348.setTop (mkF m 252 #[.val (.int p1), .val (.int p2), .val (.int p3), .val (.long p4), .second, .val (.int pr), .val (.int sg), .val (.int ct), .val (.int ai), .val (.int bi), .val (.ref b319), .val (.ref b324), .val (.ref b328), .val (.ref pa332), .val (.ref pa334), .val (.int bi), .val (.int bi), .val (.int (((t0 + t1) + t2) + t3))] [(.int (((t0 + t1) + t2) + t3))])) _
    refine XS.iconst X348.here hx rfl (hb hby at_252) ?_
    exact k
  have hsum : (((t0 + t1) + t2) + t3) = 1 := by
    have hq4 : q = 0 ∨ q = 1 ∨ q = 2 ∨ q = 3 := by omega
    rcases hq4 with g | g | g | g <;> subst g et0 et1 et2 et3 <;> rfl
  have C350 : ∀ t, Steps p.tables e below (T348.setTop (mkF m 275 #[.val (.int p1), .val (.int p2), .val (.int p3), .val (.long p4), .second, .val (.int pr), .val (.int sg), .val (.int ct), .val (.int ai), .val (.int bi), .val (.ref b319), .val (.ref b324), .val (.ref b328), .val (.ref pa332), .val (.ref pa334), .val (.int bi), .val (.int bi), .val (.int (((t0 + t1) + t2) + t3))] [(.int (1 : Int32))])) t → Steps p.tables e below (s₁.setTop (entryFrame m #[(.int p1), (.int p2), (.int p3), (.long p4)] maxLocals)) t := by
    intro t k
    refine C349 t ?_
    refine XS.icmpNo X348.here hx rfl (hb hby at_253) rfl (XT.ii_ne_f hsum) ?_
    refine XS.iload X348.here hx rfl (hb hby at_256) rfl ?_
    refine XS.iload X348.here hx rfl (hb hby at_258) rfl ?_
    show Steps p.tables e below (T348.setTop (mkF m 260 #[.val (.int p1), .val (.int p2), .val (.int p3), .val (.long p4), .second, .val (.int pr), .val (.int sg), .val (.int ct), .val (.int ai), .val (.int bi), .val (.ref b319), .val (.ref b324), .val (.ref b328), .val (.ref pa332), .val (.ref pa334), .val (.int bi), .val (.int bi), .val (.int (((t0 + t1) + t2) + t3))] [(.int bi), (.int bi)])) _
    refine XS.icmpNo X348.here hx rfl (hb hby at_260) rfl (XT.ii_ne_f rfl) ?_
    refine XS.iload X348.here hx rfl (hb hby at_263) rfl ?_
    refine XS.iload X348.here hx rfl (hb hby at_265) rfl ?_
    refine XS.icmpNo X348.here hx rfl (hb hby at_267) rfl (XT.ii_ne_f rfl) ?_
    show Steps p.tables e below (T348.setTop (mkF m 270 #[.val (.int p1), .val (.int p2), .val (.int p3), .val (.long p4), .second, .val (.int pr), .val (.int sg), .val (.int ct), .val (.int ai), .val (.int bi), .val (.ref b319), .val (.ref b324), .val (.ref b328), .val (.ref pa332), .val (.ref pa334), .val (.int bi), .val (.int bi), .val (.int (((t0 + t1) + t2) + t3))] [])) _
    refine XS.iconst X348.here hx rfl (hb hby at_270) ?_
    refine XS.goto X348.here hx rfl (pc0 := 271) (pc' := 275) rfl (hb hby at_271) (by decide) (by decide) ?_
    exact k
  obtain ⟨fs, hr, hrun, hended, hW, hsame⟩ := X348.leave (v := some (.int (1 : Int32))) (fun h => by rw [Bd.returns] at h; cases h)
  refine ⟨_, _, C350 _ ?_, hrun, hended, _, _, rfl, ?_, ⟨_, rfl⟩, hW, hsame.mono (by decide) (by decide)⟩
  · show Steps p.tables e below (T348.setTop (mkF m 275 #[.val (.int p1), .val (.int p2), .val (.int p3), .val (.long p4), .second, .val (.int pr), .val (.int sg), .val (.int ct), .val (.int ai), .val (.int bi), .val (.ref b319), .val (.ref b324), .val (.ref b328), .val (.ref pa332), .val (.ref pa334), .val (.int bi), .val (.int bi), .val (.int (((t0 + t1) + t2) + t3))] [(.int (1 : Int32))])) _
    exact retN X348 hx (t := .boolean) Bd.returns (by simp) (hb hby at_275) hr
  · show Q0 Z p1 p2 p3 p4 h0 n0 _ T348.heap _
    rw [q348]
    exact ⟨rfl, N348⟩
set_option maxRecDepth 65536 in
set_option maxHeartbeats 40000000 in
theorem rm0_21 (l : Launch) (Z : State) (a0 : Array Value) (hw : ∀ d ∈ tables_1, d.before a0 Z = true) (ws : List Jvm.Cond) (p1 p2 p3 : Int32) (p4 : Int64) (h0 : Heap) (n0 : Nat) (Z0 : n0 ≤ h0.size) (hm : ((1 : Int32) + (p1 &&& (1 : Int32))).toInt = ((2 : Nat) : Int)) (hs : (((p1.toUInt32 >>> ((1 : Int32) &&& 31).toUInt32).toInt32) - (((p1.toUInt32 >>> ((1 : Int32) &&& 31).toUInt32).toInt32) / (3 : Int32)) * (3 : Int32)).toInt = ((1 : Nat) : Int)) :
    MetFree l x (head1 (Jvm.Cond.code x code maxLocals ret :: ws) room_1) (fun a U => a = #[(.int p1), (.int p2), (.int p3), (.long p4)] ∧ Z.Warmed39 U.vm ∧ U.heap = h0) (fun _ _ _ _ _ => True) (fun _ U o U' => ∃ v L, o = .returned v ∧ Q0 Z p1 p2 p3 p4 h0 n0 v U'.heap L ∧ FrameEnd U o U' L room_1.cells room_1.slots) := by
  refine MetFree.of_bodySF (plainFor_of_name pn3) hisR ?_
  intro p e s m args below meth c s₁ Bd hml0 hP hK
  obtain ⟨rfl, hZ, hh⟩ := hP
  have hx := Bd.exec
  have hby := Bd.bytes
  have hml : c.maxLocals = 18 := hml0
  have hown : s.vm.findClass "com/example/mutatune/mutatune/engine/UniversalSamplingPairPinLaw" = some m.cls := findClass_of_methodNamed Bd.named
  have hnm := (name_of_methodNamed Bd.named Bd.method).1
  have X0 : Stand p l e room_1 s m #[(.int p1), (.int p2), (.int p3), (.long p4)] below meth c s₁ [] 0 0 := Stand.of_body Bd
  have e0 : s₁.heap = h0 := by rw [← hh, Bd.state]; rfl
  have N0 := Fr.nil n0
  have pre0 : ∀ t, Steps p.tables e below (s₁.setTop (mkF m 0 #[.val (.int p1), .val (.int p2), .val (.int p3), .val (.long p4), .second, .unset, .unset, .unset, .unset, .unset, .unset, .unset, .unset, .unset, .unset, .unset, .unset, .unset] [])) t → Steps p.tables e below (s₁.setTop (entryFrame m #[(.int p1), (.int p2), (.int p3), (.long p4)] maxLocals)) t := fun t k => castTop (ef0 m p1 p2 p3 p4) k
  have C351 : ∀ t, Steps p.tables e below (s₁.setTop (mkF m 7 #[.val (.int p1), .val (.int p2), .val (.int p3), .val (.long p4), .second, .val (.int ((1 : Int32) + (p1 &&& (1 : Int32)))), .unset, .unset, .unset, .unset, .unset, .unset, .unset, .unset, .unset, .unset, .unset, .unset] [])) t → Steps p.tables e below (s₁.setTop (entryFrame m #[(.int p1), (.int p2), (.int p3), (.long p4)] maxLocals)) t := by
    intro t k
    refine pre0 t ?_
    refine XS.iconst X0.here hx rfl (hb hby at_0) ?_
    refine XS.iloadN X0.here hx rfl (hb hby at_1) rfl ?_
    refine XS.iconst X0.here hx rfl (hb hby at_2) ?_
    show Steps p.tables e below (s₁.setTop (mkF m 3 #[.val (.int p1), .val (.int p2), .val (.int p3), .val (.long p4), .second, .unset, .unset, .unset, .unset, .unset, .unset, .unset, .unset, .unset, .unset, .unset, .unset, .unset] [(.int (1 : Int32)), (.int p1), (.int (1 : Int32))])) _
    refine XS.iand X0.here hx rfl (hb hby at_3) rfl ?_
    refine XS.iadd X0.here hx rfl (hb hby at_4) rfl ?_
    refine XS.istore X0.here hx rfl (hb hby at_5) rfl (l' := #[.val (.int p1), .val (.int p2), .val (.int p3), .val (.long p4), .second, .val (.int ((1 : Int32) + (p1 &&& (1 : Int32)))), .unset, .unset, .unset, .unset, .unset, .unset, .unset, .unset, .unset, .unset, .unset, .unset]) rfl ?_
    exact k
  obtain ⟨pr, h_pr⟩ : ∃ z : Int32, z = ((1 : Int32) + (p1 &&& (1 : Int32))) := ⟨_, rfl⟩
  rw [← h_pr] at C351
  have hpr : pr.toInt = ((2 : Nat) : Int) := by rw [h_pr]; exact hm
  have C352 : ∀ t, Steps p.tables e below (s₁.setTop (mkF m 14 #[.val (.int p1), .val (.int p2), .val (.int p3), .val (.long p4), .second, .val (.int pr), .val (.int (((p1.toUInt32 >>> ((1 : Int32) &&& 31).toUInt32).toInt32) - (((p1.toUInt32 >>> ((1 : Int32) &&& 31).toUInt32).toInt32) / (3 : Int32)) * (3 : Int32))), .unset, .unset, .unset, .unset, .unset, .unset, .unset, .unset, .unset, .unset, .unset] [])) t → Steps p.tables e below (s₁.setTop (entryFrame m #[(.int p1), (.int p2), (.int p3), (.long p4)] maxLocals)) t := by
    intro t k
    refine C351 t ?_
    refine XS.iloadN X0.here hx rfl (hb hby at_7) rfl ?_
    refine XS.iconst X0.here hx rfl (hb hby at_8) ?_
    refine XS.iushr X0.here hx rfl (hb hby at_9) rfl ?_
    show Steps p.tables e below (s₁.setTop (mkF m 10 #[.val (.int p1), .val (.int p2), .val (.int p3), .val (.long p4), .second, .val (.int pr), .unset, .unset, .unset, .unset, .unset, .unset, .unset, .unset, .unset, .unset, .unset, .unset] [(.int ((p1.toUInt32 >>> ((1 : Int32) &&& 31).toUInt32).toInt32))])) _
    refine XS.iconst X0.here hx rfl (hb hby at_10) ?_
    refine XS.irem X0.here hx rfl (hb hby at_11) rfl (by decide) ?_
    refine XS.istore X0.here hx rfl (hb hby at_12) rfl (l' := #[.val (.int p1), .val (.int p2), .val (.int p3), .val (.long p4), .second, .val (.int pr), .val (.int (((p1.toUInt32 >>> ((1 : Int32) &&& 31).toUInt32).toInt32) - (((p1.toUInt32 >>> ((1 : Int32) &&& 31).toUInt32).toInt32) / (3 : Int32)) * (3 : Int32))), .unset, .unset, .unset, .unset, .unset, .unset, .unset, .unset, .unset, .unset, .unset]) rfl ?_
    exact k
  obtain ⟨sg, h_sg⟩ : ∃ z : Int32, z = (((p1.toUInt32 >>> ((1 : Int32) &&& 31).toUInt32).toInt32) - (((p1.toUInt32 >>> ((1 : Int32) &&& 31).toUInt32).toInt32) / (3 : Int32)) * (3 : Int32)) := ⟨_, rfl⟩
  rw [← h_sg] at C352
  have hsg : sg.toInt = ((1 : Nat) : Int) := by rw [h_sg]; exact hs
  have hct0 : (((2 : Int32) * pr) + sg).toInt = ((5 : Nat) : Int) := by have y := own_add_c (own_two_c hpr (by decide) (by decide)) hsg (by decide) (by decide); exact y
  have C353 : ∀ t, Steps p.tables e below (s₁.setTop (mkF m 23 #[.val (.int p1), .val (.int p2), .val (.int p3), .val (.long p4), .second, .val (.int pr), .val (.int sg), .val (.int (((2 : Int32) * pr) + sg)), .unset, .unset, .unset, .unset, .unset, .unset, .unset, .unset, .unset, .unset] [])) t → Steps p.tables e below (s₁.setTop (entryFrame m #[(.int p1), (.int p2), (.int p3), (.long p4)] maxLocals)) t := by
    intro t k
    refine C352 t ?_
    refine XS.iconst X0.here hx rfl (hb hby at_14) ?_
    refine XS.iload X0.here hx rfl (hb hby at_15) rfl ?_
    refine XS.imul X0.here hx rfl (hb hby at_17) rfl ?_
    show Steps p.tables e below (s₁.setTop (mkF m 18 #[.val (.int p1), .val (.int p2), .val (.int p3), .val (.long p4), .second, .val (.int pr), .val (.int sg), .unset, .unset, .unset, .unset, .unset, .unset, .unset, .unset, .unset, .unset, .unset] [(.int ((2 : Int32) * pr))])) _
    refine XS.iload X0.here hx rfl (hb hby at_18) rfl ?_
    refine XS.iadd X0.here hx rfl (hb hby at_20) rfl ?_
    refine XS.istore X0.here hx rfl (hb hby at_21) rfl (l' := #[.val (.int p1), .val (.int p2), .val (.int p3), .val (.long p4), .second, .val (.int pr), .val (.int sg), .val (.int (((2 : Int32) * pr) + sg)), .unset, .unset, .unset, .unset, .unset, .unset, .unset, .unset, .unset, .unset]) rfl ?_
    exact k
  obtain ⟨ct, h_ct⟩ : ∃ z : Int32, z = (((2 : Int32) * pr) + sg) := ⟨_, rfl⟩
  rw [← h_ct] at C353
  have hct := hct0
  rw [← h_ct] at hct
  have C354 : ∀ t, Steps p.tables e below (s₁.setTop (mkF m 31 #[.val (.int p1), .val (.int p2), .val (.int p3), .val (.long p4), .second, .val (.int pr), .val (.int sg), .val (.int ct), .val (.int ((p2 &&& (2147483647 : Int32)) - ((p2 &&& (2147483647 : Int32)) / (3 : Int32)) * (3 : Int32))), .unset, .unset, .unset, .unset, .unset, .unset, .unset, .unset, .unset] [])) t → Steps p.tables e below (s₁.setTop (entryFrame m #[(.int p1), (.int p2), (.int p3), (.long p4)] maxLocals)) t := by
    intro t k
    refine C353 t ?_
    refine XS.iloadN X0.here hx rfl (hb hby at_23) rfl ?_
    refine X0.ldcInt hx hown (mvT hZ (hw _ (List.mem_of_getElem? (i := 0) rfl))) (g := (mkF m 24 #[.val (.int p1), .val (.int p2), .val (.int p3), .val (.long p4), .second, .val (.int pr), .val (.int sg), .val (.int ct), .unset, .unset, .unset, .unset, .unset, .unset, .unset, .unset, .unset, .unset] [(.int p2)])) rfl (hb hby at_24) _ ?_
    refine XS.iand X0.here hx rfl (hb hby at_26) rfl ?_
    show Steps p.tables e below (s₁.setTop (mkF m 27 #[.val (.int p1), .val (.int p2), .val (.int p3), .val (.long p4), .second, .val (.int pr), .val (.int sg), .val (.int ct), .unset, .unset, .unset, .unset, .unset, .unset, .unset, .unset, .unset, .unset] [(.int (p2 &&& (2147483647 : Int32)))])) _
    refine XS.iconst X0.here hx rfl (hb hby at_27) ?_
    refine XS.irem X0.here hx rfl (hb hby at_28) rfl (by decide) ?_
    refine XS.istore X0.here hx rfl (hb hby at_29) rfl (l' := #[.val (.int p1), .val (.int p2), .val (.int p3), .val (.long p4), .second, .val (.int pr), .val (.int sg), .val (.int ct), .val (.int ((p2 &&& (2147483647 : Int32)) - ((p2 &&& (2147483647 : Int32)) / (3 : Int32)) * (3 : Int32))), .unset, .unset, .unset, .unset, .unset, .unset, .unset, .unset, .unset]) rfl ?_
    exact k
  obtain ⟨ai, h_ai⟩ : ∃ z : Int32, z = ((p2 &&& (2147483647 : Int32)) - ((p2 &&& (2147483647 : Int32)) / (3 : Int32)) * (3 : Int32)) := ⟨_, rfl⟩
  rw [← h_ai] at C354
  have hai := own_ai p2
  rw [← h_ai] at hai
  have h3a := own_sub_c (show (3 : Int32).toInt = 3 from rfl) (rfl : ai.toInt = ai.toInt) (by omega) (by omega)
  have hnz : (3 : Int32) - ai ≠ 0 := fun y => by rw [y, show (0 : Int32).toInt = 0 from rfl] at h3a; omega
  have C355 : ∀ t, Steps p.tables e below (s₁.setTop (mkF m 47 #[.val (.int p1), .val (.int p2), .val (.int p3), .val (.long p4), .second, .val (.int pr), .val (.int sg), .val (.int ct), .val (.int ai), .val (.int ((ai + (1 : Int32)) + ((p3 &&& (2147483647 : Int32)) - ((p3 &&& (2147483647 : Int32)) / ((3 : Int32) - ai)) * ((3 : Int32) - ai)))), .unset, .unset, .unset, .unset, .unset, .unset, .unset, .unset] [])) t → Steps p.tables e below (s₁.setTop (entryFrame m #[(.int p1), (.int p2), (.int p3), (.long p4)] maxLocals)) t := by
    intro t k
    refine C354 t ?_
    refine XS.iload X0.here hx rfl (hb hby at_31) rfl ?_
    refine XS.iconst X0.here hx rfl (hb hby at_33) ?_
    refine XS.iadd X0.here hx rfl (hb hby at_34) rfl ?_
    show Steps p.tables e below (s₁.setTop (mkF m 35 #[.val (.int p1), .val (.int p2), .val (.int p3), .val (.long p4), .second, .val (.int pr), .val (.int sg), .val (.int ct), .val (.int ai), .unset, .unset, .unset, .unset, .unset, .unset, .unset, .unset, .unset] [(.int (ai + (1 : Int32)))])) _
    refine XS.iloadN X0.here hx rfl (hb hby at_35) rfl ?_
    refine X0.ldcInt hx hown (mvT hZ (hw _ (List.mem_of_getElem? (i := 0) rfl))) (g := (mkF m 36 #[.val (.int p1), .val (.int p2), .val (.int p3), .val (.long p4), .second, .val (.int pr), .val (.int sg), .val (.int ct), .val (.int ai), .unset, .unset, .unset, .unset, .unset, .unset, .unset, .unset, .unset] [(.int p3), (.int (ai + (1 : Int32)))])) rfl (hb hby at_36) _ ?_
    refine XS.iand X0.here hx rfl (hb hby at_38) rfl ?_
    refine XS.iconst X0.here hx rfl (hb hby at_39) ?_
    show Steps p.tables e below (s₁.setTop (mkF m 40 #[.val (.int p1), .val (.int p2), .val (.int p3), .val (.long p4), .second, .val (.int pr), .val (.int sg), .val (.int ct), .val (.int ai), .unset, .unset, .unset, .unset, .unset, .unset, .unset, .unset, .unset] [(.int (3 : Int32)), (.int (p3 &&& (2147483647 : Int32))), (.int (ai + (1 : Int32)))])) _
    refine XS.iload X0.here hx rfl (hb hby at_40) rfl ?_
    refine XS.isub X0.here hx rfl (hb hby at_42) rfl ?_
    refine XS.irem X0.here hx rfl (hb hby at_43) rfl hnz ?_
    refine XS.iadd X0.here hx rfl (hb hby at_44) rfl ?_
    show Steps p.tables e below (s₁.setTop (mkF m 45 #[.val (.int p1), .val (.int p2), .val (.int p3), .val (.long p4), .second, .val (.int pr), .val (.int sg), .val (.int ct), .val (.int ai), .unset, .unset, .unset, .unset, .unset, .unset, .unset, .unset, .unset] [(.int ((ai + (1 : Int32)) + ((p3 &&& (2147483647 : Int32)) - ((p3 &&& (2147483647 : Int32)) / ((3 : Int32) - ai)) * ((3 : Int32) - ai))))])) _
    refine XS.istore X0.here hx rfl (hb hby at_45) rfl (l' := #[.val (.int p1), .val (.int p2), .val (.int p3), .val (.long p4), .second, .val (.int pr), .val (.int sg), .val (.int ct), .val (.int ai), .val (.int ((ai + (1 : Int32)) + ((p3 &&& (2147483647 : Int32)) - ((p3 &&& (2147483647 : Int32)) / ((3 : Int32) - ai)) * ((3 : Int32) - ai)))), .unset, .unset, .unset, .unset, .unset, .unset, .unset, .unset]) rfl ?_
    exact k
  obtain ⟨bi, h_bi⟩ : ∃ z : Int32, z = ((ai + (1 : Int32)) + ((p3 &&& (2147483647 : Int32)) - ((p3 &&& (2147483647 : Int32)) / ((3 : Int32) - ai)) * ((3 : Int32) - ai))) := ⟨_, rfl⟩
  rw [← h_bi] at C355
  have hbi := own_bi p3 hai
  rw [← h_bi] at hbi
  obtain ⟨na, hna⟩ : ∃ y : Nat, y = ai.toInt.toNat := ⟨_, rfl⟩
  obtain ⟨nb, hnb⟩ : ∃ y : Nat, y = bi.toInt.toNat := ⟨_, rfl⟩
  have hA : ai.toInt = (na : Int) := by omega
  have hB : bi.toInt = (nb : Int) := by omega
  have hab : na < nb := by omega
  have hb4 : nb < 4 := by omega
  have hAB : ai ≠ bi := fun y => by rw [y] at hA; omega
  have hia : ¬ ai < 0 ∧ ai.toNatClampNeg < 4 := own_idx hA (by omega)
  have hib : ¬ bi < 0 ∧ bi.toNatClampNeg < 4 := own_idx hB hb4
  have C356 : ∀ t, Steps p.tables e below (s₁.setTop (mkF m 48 #[.val (.int p1), .val (.int p2), .val (.int p3), .val (.long p4), .second, .val (.int pr), .val (.int sg), .val (.int ct), .val (.int ai), .val (.int bi), .unset, .unset, .unset, .unset, .unset, .unset, .unset, .unset] [(.int (4 : Int32))])) t → Steps p.tables e below (s₁.setTop (entryFrame m #[(.int p1), (.int p2), (.int p3), (.long p4)] maxLocals)) t := by
    intro t k
    refine C355 t ?_
    refine XS.iconst X0.here hx rfl (hb hby at_47) ?_
    exact k
  obtain ⟨T357, h357, k357, X357, e357, E357, A357, st357⟩ := newP X0 hx hZ (hw _ (List.mem_of_getElem? (i := 1) rfl)) e0 (g := (mkF m 48 #[.val (.int p1), .val (.int p2), .val (.int p3), .val (.long p4), .second, .val (.int pr), .val (.int sg), .val (.int ct), .val (.int ai), .val (.int bi), .unset, .unset, .unset, .unset, .unset, .unset, .unset, .unset] [(.int (4 : Int32))])) rfl (hb hby at_48) rfl (by decide) (cap := 4) (by decide) (by decide) (by decide) (by decide)
  obtain ⟨b357, g357⟩ : ∃ z, z = h0.size := ⟨_, rfl⟩
  rw [← g357] at A357 st357
  have C357 : ∀ t, Steps p.tables e below (T357.setTop (mkF m 50 #[.val (.int p1), .val (.int p2), .val (.int p3), .val (.long p4), .second, .val (.int pr), .val (.int sg), .val (.int ct), .val (.int ai), .val (.int bi), .unset, .unset, .unset, .unset, .unset, .unset, .unset, .unset] [(.ref b357)])) t → Steps p.tables e below (s₁.setTop (entryFrame m #[(.int p1), (.int p2), (.int p3), (.long p4)] maxLocals)) t := fun t k => C356 t (st357 t k)
  have V0 : OwnA Z h357 b357 .double 4 (fun _ => .double 0) := OwnA.new A357 rfl
  have Z1 : n0 ≤ h357.size := Nat.le_trans Z0 E357.1
  have gw : n0 ≤ b357 := Nat.le_trans Z0 (Nat.le_of_eq g357.symm)
  have C358 : ∀ t, Steps p.tables e below (T357.setTop (mkF m 57 #[.val (.int p1), .val (.int p2), .val (.int p3), .val (.long p4), .second, .val (.int pr), .val (.int sg), .val (.int ct), .val (.int ai), .val (.int bi), .val (.ref b357), .unset, .unset, .unset, .unset, .unset, .unset, .unset] [(.double 4607182418800017408), (.int ai), (.ref b357)])) t → Steps p.tables e below (s₁.setTop (entryFrame m #[(.int p1), (.int p2), (.int p3), (.long p4)] maxLocals)) t := by
    intro t k
    refine C357 t ?_
    refine XS.astore X357.here hx rfl (hb hby at_50) rfl rfl (l' := #[.val (.int p1), .val (.int p2), .val (.int p3), .val (.long p4), .second, .val (.int pr), .val (.int sg), .val (.int ct), .val (.int ai), .val (.int bi), .val (.ref b357), .unset, .unset, .unset, .unset, .unset, .unset, .unset]) rfl ?_
    refine XS.aload X357.here hx rfl (hb hby at_52) rfl rfl ?_
    refine XS.iload X357.here hx rfl (hb hby at_54) rfl ?_
    show Steps p.tables e below (T357.setTop (mkF m 56 #[.val (.int p1), .val (.int p2), .val (.int p3), .val (.long p4), .second, .val (.int pr), .val (.int sg), .val (.int ct), .val (.int ai), .val (.int bi), .val (.ref b357), .unset, .unset, .unset, .unset, .unset, .unset, .unset] [(.int ai), (.ref b357)])) _
    refine XS.dconst1 X357.here hx rfl (hb hby at_56) (v := 4607182418800017408) rfl ?_
    exact k
  obtain ⟨c359, A359, S359, V359⟩ := id V0
  obtain ⟨T359, h359, X359, e359, W359, st359⟩ := stD X357 hx hZ e357 A359 (j := ai) (own_in hia S359) (g := (mkF m 57 #[.val (.int p1), .val (.int p2), .val (.int p3), .val (.long p4), .second, .val (.int pr), .val (.int sg), .val (.int ct), .val (.int ai), .val (.int bi), .val (.ref b357), .unset, .unset, .unset, .unset, .unset, .unset, .unset] [(.double 4607182418800017408), (.int ai), (.ref b357)])) rfl rfl (hb hby at_57)
  have N359 := Fr.snoc X359 N0 gw
  have C359 : ∀ t, Steps p.tables e below (T359.setTop (mkF m 58 #[.val (.int p1), .val (.int p2), .val (.int p3), .val (.long p4), .second, .val (.int pr), .val (.int sg), .val (.int ct), .val (.int ai), .val (.int bi), .val (.ref b357), .unset, .unset, .unset, .unset, .unset, .unset, .unset] [])) t → Steps p.tables e below (s₁.setTop (entryFrame m #[(.int p1), (.int p2), (.int p3), (.long p4)] maxLocals)) t := fun t k => C358 t (st359 t k)
  have V1 := V0.set W359
  have zb : OwnZ (FP.i2d (ct - (1 : Int32))) ((5 - 1) * Jvm.FP.Core.one64) := by
    have hc1 : (ct - (1 : Int32)).toInt = ((5 - 1 : Nat) : Int) := own_sub_c hct (show (1 : Int32).toInt = 1 from rfl) (by decide) (by decide)
    have y := own_i2d (v := ct - (1 : Int32)) (by rw [hc1]; decide)
    rw [hc1, Int.toNat_natCast] at y
    exact y
  have C360 : ∀ t, Steps p.tables e below (T359.setTop (mkF m 67 #[.val (.int p1), .val (.int p2), .val (.int p3), .val (.long p4), .second, .val (.int pr), .val (.int sg), .val (.int ct), .val (.int ai), .val (.int bi), .val (.ref b357), .unset, .unset, .unset, .unset, .unset, .unset, .unset] [(.double (FP.i2d (ct - (1 : Int32)))), (.int bi), (.ref b357)])) t → Steps p.tables e below (s₁.setTop (entryFrame m #[(.int p1), (.int p2), (.int p3), (.long p4)] maxLocals)) t := by
    intro t k
    refine C359 t ?_
    refine XS.aload X359.here hx rfl (hb hby at_58) rfl rfl ?_
    refine XS.iload X359.here hx rfl (hb hby at_60) rfl ?_
    refine XS.iload X359.here hx rfl (hb hby at_62) rfl ?_
    show Steps p.tables e below (T359.setTop (mkF m 64 #[.val (.int p1), .val (.int p2), .val (.int p3), .val (.long p4), .second, .val (.int pr), .val (.int sg), .val (.int ct), .val (.int ai), .val (.int bi), .val (.ref b357), .unset, .unset, .unset, .unset, .unset, .unset, .unset] [(.int ct), (.int bi), (.ref b357)])) _
    refine XS.iconst X359.here hx rfl (hb hby at_64) ?_
    refine XS.isub X359.here hx rfl (hb hby at_65) rfl ?_
    refine XS.i2dS X359.here hx rfl (hb hby at_66) rfl rfl ?_
    exact k
  obtain ⟨c361, A361, S361, V361⟩ := id V1
  obtain ⟨T361, h361, X361, e361, W361, st361⟩ := stD X359 hx hZ e359 A361 (j := bi) (own_in hib S361) (g := (mkF m 67 #[.val (.int p1), .val (.int p2), .val (.int p3), .val (.long p4), .second, .val (.int pr), .val (.int sg), .val (.int ct), .val (.int ai), .val (.int bi), .val (.ref b357), .unset, .unset, .unset, .unset, .unset, .unset, .unset] [(.double (FP.i2d (ct - (1 : Int32)))), (.int bi), (.ref b357)])) rfl rfl (hb hby at_67)
  have N361 := Fr.snoc X361 N359 gw
  have C361 : ∀ t, Steps p.tables e below (T361.setTop (mkF m 68 #[.val (.int p1), .val (.int p2), .val (.int p3), .val (.long p4), .second, .val (.int pr), .val (.int sg), .val (.int ct), .val (.int ai), .val (.int bi), .val (.ref b357), .unset, .unset, .unset, .unset, .unset, .unset, .unset] [])) t → Steps p.tables e below (s₁.setTop (entryFrame m #[(.int p1), (.int p2), (.int p3), (.long p4)] maxLocals)) t := fun t k => C360 t (st361 t k)
  have V2 : OwnA Z h361 b357 .double 4 (fun i => .double (own_wt na nb (FP.i2d (ct - (1 : Int32))) i)) := (V1.set W361).congr (fun i _ => by rw [own_cl hA, own_cl hB]; exact own_wt_set i)
  have Z2 : n0 ≤ h361.size := by rw [Wr.size W361, Wr.size W359]; exact Z1
  obtain ⟨T362, h362, X362, e362, E362, A362, D362, -, st362⟩ := newO X361 hx hZ hown (hw _ (List.mem_of_getElem? (i := 2) rfl)) (hw _ (List.mem_of_getElem? (i := 3) rfl)) (hw _ (List.mem_of_getElem? (i := 4) rfl)) e361 (g := (mkF m 68 #[.val (.int p1), .val (.int p2), .val (.int p3), .val (.long p4), .second, .val (.int pr), .val (.int sg), .val (.int ct), .val (.int ai), .val (.int bi), .val (.ref b357), .unset, .unset, .unset, .unset, .unset, .unset, .unset] [])) rfl (hb hby at_68) (by decide) (by decide)
  obtain ⟨b362, g362⟩ : ∃ z, z = h361.size := ⟨_, rfl⟩
  rw [← g362] at A362 D362 st362
  have C362 : ∀ t, Steps p.tables e below (T362.setTop (mkF m 71 #[.val (.int p1), .val (.int p2), .val (.int p3), .val (.long p4), .second, .val (.int pr), .val (.int sg), .val (.int ct), .val (.int ai), .val (.int bi), .val (.ref b357), .unset, .unset, .unset, .unset, .unset, .unset, .unset] [(.ref b362)])) t → Steps p.tables e below (s₁.setTop (entryFrame m #[(.int p1), (.int p2), (.int p3), (.long p4)] maxLocals)) t := fun t k => C361 t (st362 t k)
  have F_s0 : Fld Z h362 b362 "com/example/mutatune/mutatune/engine/SeededRandom" "s0" "J" (.long 0) := D362 (Or.inl (hw _ (List.mem_of_getElem? (i := 18) rfl))) (ty := .long) (by decide)
  have F_s1 : Fld Z h362 b362 "com/example/mutatune/mutatune/engine/SeededRandom" "s1" "J" (.long 0) := D362 (Or.inl (hw _ (List.mem_of_getElem? (i := 20) rfl))) (ty := .long) (by decide)
  have F_s2 : Fld Z h362 b362 "com/example/mutatune/mutatune/engine/SeededRandom" "s2" "J" (.long 0) := D362 (Or.inl (hw _ (List.mem_of_getElem? (i := 22) rfl))) (ty := .long) (by decide)
  have F_s3 : Fld Z h362 b362 "com/example/mutatune/mutatune/engine/SeededRandom" "s3" "J" (.long 0) := D362 (Or.inl (hw _ (List.mem_of_getElem? (i := 24) rfl))) (ty := .long) (by decide)
  have Z3 : n0 ≤ h362.size := Nat.le_trans Z2 E362.1
  have gra : n0 ≤ b362 := Nat.le_trans Z2 (Nat.le_of_eq g362.symm)
  have C363 : ∀ t, Steps p.tables e below (T362.setTop (mkF m 73 #[.val (.int p1), .val (.int p2), .val (.int p3), .val (.long p4), .second, .val (.int pr), .val (.int sg), .val (.int ct), .val (.int ai), .val (.int bi), .val (.ref b357), .unset, .unset, .unset, .unset, .unset, .unset, .unset] [(.long p4), (.ref b362), (.ref b362)])) t → Steps p.tables e below (s₁.setTop (entryFrame m #[(.int p1), (.int p2), (.int p3), (.long p4)] maxLocals)) t := by
    intro t k
    refine C362 t ?_
    refine XS.dup X362.here hx rfl (hb hby at_71) rfl rfl ?_
    refine XS.lloadN X362.here hx rfl (hb hby at_72) rfl ?_
    exact k
  obtain ⟨_, _, ⟨T364, L364, k364, n364⟩, -, X364, ⟨Lc364, hQ364, l364, y364, z364⟩, st364⟩ := X362.specialBack hx (y := (⟨"com/example/mutatune/mutatune/engine/SeededRandom", "<init>", "(J)V"⟩ : MethodName)) rfl hown (mvT hZ (hw _ (List.mem_of_getElem? (i := 5) rfl))) (mvT hZ (hw _ (List.mem_of_getElem? (i := 6) rfl))) (mvT hZ (hw _ (List.mem_of_getElem? (i := 7) rfl))) (by decide) (backOf (W := 1) (rm1 l Z a0 hw [] b362 p4 h362 n0 Z3 F_s0 F_s1 F_s2 F_s3 A362 gra) hZ (hw _ (List.mem_of_getElem? (i := 7) rfl)) (hw _ (List.mem_of_getElem? (i := 4) rfl)) (by decide) (by decide)) (g := (mkF m 73 #[.val (.int p1), .val (.int p2), .val (.int p3), .val (.long p4), .second, .val (.int pr), .val (.int sg), .val (.int ct), .val (.int ai), .val (.int bi), .val (.ref b357), .unset, .unset, .unset, .unset, .unset, .unset, .unset] [(.long p4), (.ref b362), (.ref b362)])) rfl (by rw [hml]; rfl) (Steps.refl _) (a := b362) (argsL := [(.long p4)]) (rest := [(.ref b362)]) (lenOf pd8 rfl) rfl (by show 2 * 0 + _ ≤ _; exact Nat.le_of_eq rfl) (hb hby at_73) (fun _ _ => ⟨rfl, e362, (by decide : 2 + 0 ≤ _), (by decide : 8 + 0 ≤ _)⟩)
  dsimp only [Pt.U, Pt.locs, Pt.cells, Pt.slots] at X364 l364 y364 z364 st364 hQ364
  subst l364 y364 z364
  obtain ⟨rfl, N364q, R364, K364⟩ := hQ364
  have N364 := Fr.app N361 N364q
  have C364 : ∀ t, Steps p.tables e below (T364.setTop (mkF m 76 #[.val (.int p1), .val (.int p2), .val (.int p3), .val (.long p4), .second, .val (.int pr), .val (.int sg), .val (.int ct), .val (.int ai), .val (.int bi), .val (.ref b357), .unset, .unset, .unset, .unset, .unset, .unset, .unset] [(.ref b362)])) t → Steps p.tables e below (s₁.setTop (entryFrame m #[(.int p1), (.int p2), (.int p3), (.long p4)] maxLocals)) t := fun t k => C363 t (st364.trans k)
  have Z4 : n0 ≤ T364.heap.size := Nat.le_trans Z3 K364.1
  have V3 := (V2.ext E362).keep K364 (own_nin1 (own_natne (by have y := own_natlt V2.lt; omega)))
  have NZ : OwnNZ (own_mix (p4 + (-7046029254386353131 : Int64))) (own_mix ((p4 + (-7046029254386353131 : Int64)) + (-7046029254386353131 : Int64))) (own_mix (((p4 + (-7046029254386353131 : Int64)) + (-7046029254386353131 : Int64)) + (-7046029254386353131 : Int64))) (own_mix ((((p4 + (-7046029254386353131 : Int64)) + (-7046029254386353131 : Int64)) + (-7046029254386353131 : Int64)) + (-7046029254386353131 : Int64))) := own_seed_nz _ _ _
  have C365 : ∀ t, Steps p.tables e below (T364.setTop (mkF m 78 #[.val (.int p1), .val (.int p2), .val (.int p3), .val (.long p4), .second, .val (.int pr), .val (.int sg), .val (.int ct), .val (.int ai), .val (.int bi), .val (.ref b357), .val (.ref b362), .unset, .unset, .unset, .unset, .unset, .unset] [])) t → Steps p.tables e below (s₁.setTop (entryFrame m #[(.int p1), (.int p2), (.int p3), (.long p4)] maxLocals)) t := by
    intro t k
    refine C364 t ?_
    refine XS.astore X364.here hx rfl (hb hby at_76) rfl rfl (l' := #[.val (.int p1), .val (.int p2), .val (.int p3), .val (.long p4), .second, .val (.int pr), .val (.int sg), .val (.int ct), .val (.int ai), .val (.int bi), .val (.ref b357), .val (.ref b362), .unset, .unset, .unset, .unset, .unset, .unset]) rfl ?_
    exact k
  obtain ⟨T366, h366, X366, e366, E366, A366, D366, -, st366⟩ := newO X364 hx hZ hown (hw _ (List.mem_of_getElem? (i := 25) rfl)) (hw _ (List.mem_of_getElem? (i := 26) rfl)) (hw _ (List.mem_of_getElem? (i := 27) rfl)) rfl (g := (mkF m 78 #[.val (.int p1), .val (.int p2), .val (.int p3), .val (.long p4), .second, .val (.int pr), .val (.int sg), .val (.int ct), .val (.int ai), .val (.int bi), .val (.ref b357), .val (.ref b362), .unset, .unset, .unset, .unset, .unset, .unset] [])) rfl (hb hby at_78) (by decide) (by decide)
  obtain ⟨b366, g366⟩ : ∃ z, z = T364.heap.size := ⟨_, rfl⟩
  rw [← g366] at A366 D366 st366
  have C366 : ∀ t, Steps p.tables e below (T366.setTop (mkF m 81 #[.val (.int p1), .val (.int p2), .val (.int p3), .val (.long p4), .second, .val (.int pr), .val (.int sg), .val (.int ct), .val (.int ai), .val (.int bi), .val (.ref b357), .val (.ref b362), .unset, .unset, .unset, .unset, .unset, .unset] [(.ref b366)])) t → Steps p.tables e below (s₁.setTop (entryFrame m #[(.int p1), (.int p2), (.int p3), (.long p4)] maxLocals)) t := fun t k => C365 t (st366 t k)
  have G1 : Fld Z h366 b366 "com/example/mutatune/mutatune/engine/UniversalSampling" "slots" "[I" .null := D366 (Or.inr (hw _ (List.mem_of_getElem? (i := 52) rfl))) (ty := (.array .int)) (by decide)
  have G2 : Fld Z h366 b366 "com/example/mutatune/mutatune/engine/UniversalSampling" "next" "I" (.int 0) := D366 (Or.inl (hw _ (List.mem_of_getElem? (i := 73) rfl))) (ty := .int) (by decide)
  have Z5 : n0 ≤ h366.size := Nat.le_trans Z4 E366.1
  have gu : n0 ≤ b366 := Nat.le_trans Z4 (Nat.le_of_eq g366.symm)
  have C367 : ∀ t, Steps p.tables e below (T366.setTop (mkF m 90 #[.val (.int p1), .val (.int p2), .val (.int p3), .val (.long p4), .second, .val (.int pr), .val (.int sg), .val (.int ct), .val (.int ai), .val (.int bi), .val (.ref b357), .val (.ref b362), .unset, .unset, .unset, .unset, .unset, .unset] [(.ref b362), (.int sg), (.int pr), (.ref b357), (.ref b366), (.ref b366)])) t → Steps p.tables e below (s₁.setTop (entryFrame m #[(.int p1), (.int p2), (.int p3), (.long p4)] maxLocals)) t := by
    intro t k
    refine C366 t ?_
    refine XS.dup X366.here hx rfl (hb hby at_81) rfl rfl ?_
    refine XS.aload X366.here hx rfl (hb hby at_82) rfl rfl ?_
    refine XS.iload X366.here hx rfl (hb hby at_84) rfl ?_
    show Steps p.tables e below (T366.setTop (mkF m 86 #[.val (.int p1), .val (.int p2), .val (.int p3), .val (.long p4), .second, .val (.int pr), .val (.int sg), .val (.int ct), .val (.int ai), .val (.int bi), .val (.ref b357), .val (.ref b362), .unset, .unset, .unset, .unset, .unset, .unset] [(.int pr), (.ref b357), (.ref b366), (.ref b366)])) _
    refine XS.iload X366.here hx rfl (hb hby at_86) rfl ?_
    refine XS.aload X366.here hx rfl (hb hby at_88) rfl rfl ?_
    exact k
  obtain ⟨_, _, ⟨T368, L368, k368, n368⟩, -, X368, ⟨Lc368, hQ368, l368, y368, z368⟩, st368⟩ := X366.specialBack hx (y := (⟨"com/example/mutatune/mutatune/engine/UniversalSampling", "<init>", "([DIILcom/example/mutatune/mutatune/engine/SeededRandom;)V"⟩ : MethodName)) rfl hown (mvT hZ (hw _ (List.mem_of_getElem? (i := 28) rfl))) (mvT hZ (hw _ (List.mem_of_getElem? (i := 29) rfl))) (mvT hZ (hw _ (List.mem_of_getElem? (i := 30) rfl))) (by decide) (backOf (W := 1) (rm4 l Z a0 hw [] b366 b357 pr sg b362 na nb 5 2 ai bi (FP.i2d (ct - (1 : Int32))) (own_mix (p4 + (-7046029254386353131 : Int64))) (own_mix ((p4 + (-7046029254386353131 : Int64)) + (-7046029254386353131 : Int64))) (own_mix (((p4 + (-7046029254386353131 : Int64)) + (-7046029254386353131 : Int64)) + (-7046029254386353131 : Int64))) (own_mix ((((p4 + (-7046029254386353131 : Int64)) + (-7046029254386353131 : Int64)) + (-7046029254386353131 : Int64)) + (-7046029254386353131 : Int64))) h366 n0 Z5 G1 G2 A366 gu gra (V3.ext E366) (R364.ext E366) NZ hct0 (by decide) (by decide) hab hb4 hA hB hAB zb hpr (by decide) (by decide) (by decide)) hZ (hw _ (List.mem_of_getElem? (i := 30) rfl)) (hw _ (List.mem_of_getElem? (i := 27) rfl)) (by decide) (by decide)) (g := (mkF m 90 #[.val (.int p1), .val (.int p2), .val (.int p3), .val (.long p4), .second, .val (.int pr), .val (.int sg), .val (.int ct), .val (.int ai), .val (.int bi), .val (.ref b357), .val (.ref b362), .unset, .unset, .unset, .unset, .unset, .unset] [(.ref b362), (.int sg), (.int pr), (.ref b357), (.ref b366), (.ref b366)])) rfl (by rw [hml]; rfl) (Steps.refl _) (a := b366) (argsL := [(.ref b357), (.int pr), (.int sg), (.ref b362)]) (rest := [(.ref b366)]) (lenOf pd9 rfl) rfl (by show 2 * 0 + _ ≤ _; exact Nat.le_of_eq rfl) (hb hby at_90) (fun _ _ => ⟨rfl, e366, (by decide : 3 + 1 ≤ _), (by decide : 10 + 6 ≤ _)⟩)
  dsimp only [Pt.U, Pt.locs, Pt.cells, Pt.slots] at X368 l368 y368 z368 st368 hQ368
  subst l368 y368 z368
  obtain ⟨rfl, N368q, r, q, U368, hq, fr368, s368⟩ := hQ368
  have N368 := Fr.app N364 N368q
  have C368 : ∀ t, Steps p.tables e below (T368.setTop (mkF m 93 #[.val (.int p1), .val (.int p2), .val (.int p3), .val (.long p4), .second, .val (.int pr), .val (.int sg), .val (.int ct), .val (.int ai), .val (.int bi), .val (.ref b357), .val (.ref b362), .unset, .unset, .unset, .unset, .unset, .unset] [(.ref b366)])) t → Steps p.tables e below (s₁.setTop (entryFrame m #[(.int p1), (.int p2), (.int p3), (.long p4)] maxLocals)) t := fun t k => C367 t (st368.trans k)
  have Z6 : n0 ≤ T368.heap.size := Nat.le_trans Z5 s368
  obtain ⟨y0, hy0⟩ : ∃ y : Int32, y = (if 0 = q then ai else bi) := ⟨_, rfl⟩
  obtain ⟨y1, hy1⟩ : ∃ y : Int32, y = (if 1 = q then ai else bi) := ⟨_, rfl⟩
  obtain ⟨y2, hy2⟩ : ∃ y : Int32, y = (if 2 = q then ai else bi) := ⟨_, rfl⟩
  obtain ⟨y3, hy3⟩ : ∃ y : Int32, y = (if 3 = q then ai else bi) := ⟨_, rfl⟩
  obtain ⟨y4, hy4⟩ : ∃ y : Int32, y = (if 4 = q then ai else bi) := ⟨_, rfl⟩
  have C369 : ∀ t, Steps p.tables e below (T368.setTop (mkF m 99 #[.val (.int p1), .val (.int p2), .val (.int p3), .val (.long p4), .second, .val (.int pr), .val (.int sg), .val (.int ct), .val (.int ai), .val (.int bi), .val (.ref b357), .val (.ref b362), .val (.ref b366), .unset, .unset, .unset, .unset, .unset] [(.ref b362), (.ref b366)])) t → Steps p.tables e below (s₁.setTop (entryFrame m #[(.int p1), (.int p2), (.int p3), (.long p4)] maxLocals)) t := by
    intro t k
    refine C368 t ?_
    refine XS.astore X368.here hx rfl (hb hby at_93) rfl rfl (l' := #[.val (.int p1), .val (.int p2), .val (.int p3), .val (.long p4), .second, .val (.int pr), .val (.int sg), .val (.int ct), .val (.int ai), .val (.int bi), .val (.ref b357), .val (.ref b362), .val (.ref b366), .unset, .unset, .unset, .unset, .unset]) rfl ?_
    refine XS.aload X368.here hx rfl (hb hby at_95) rfl rfl ?_
    refine XS.aload X368.here hx rfl (hb hby at_97) rfl rfl ?_
    exact k
  obtain ⟨cq370, kq370, q370a, q370b, q370c⟩ := isOf hZ rfl U368.1
  obtain ⟨_, _, ⟨T370, L370, k370, n370⟩, -, X370, ⟨Lc370, hQ370, l370, y370, z370⟩, st370⟩ := X368.virtualBack hx (y := (⟨"com/example/mutatune/mutatune/engine/UniversalSampling", "pair", "(Lcom/example/mutatune/mutatune/engine/SeededRandom;)[I"⟩ : MethodName)) (z := (⟨"com/example/mutatune/mutatune/engine/UniversalSampling", "pair", "(Lcom/example/mutatune/mutatune/engine/SeededRandom;)[I"⟩ : MethodName)) hown (mvT hZ (hw _ (List.mem_of_getElem? (i := 67) rfl))) (mvT hZ (hw _ (List.mem_of_getElem? (i := 68) rfl))) (notFace_of_selects (args := #[]) (mvT hZ (hw _ (List.mem_of_getElem? (i := 70) rfl)))) (mvT hZ (hw _ (List.mem_of_getElem? (i := 70) rfl))) (mvT hZ (hw _ (List.mem_of_getElem? (i := 69) rfl))) (by decide) (backOf (W := 0) (rm12 l Z a0 hw [] b366 b362 r 5 0 1 2 0 q ai bi y0 y1 T368.heap n0 Z6 U368 gu rfl rfl (by decide) (by decide) (by decide) hy0 hy1) hZ (hw _ (List.mem_of_getElem? (i := 71) rfl)) (hw _ (List.mem_of_getElem? (i := 27) rfl)) (by decide) (by decide)) q370a q370c (g := (mkF m 99 #[.val (.int p1), .val (.int p2), .val (.int p3), .val (.long p4), .second, .val (.int pr), .val (.int sg), .val (.int ct), .val (.int ai), .val (.int bi), .val (.ref b357), .val (.ref b362), .val (.ref b366), .unset, .unset, .unset, .unset, .unset] [(.ref b362), (.ref b366)])) rfl (by rw [hml]; rfl) (Steps.refl _) (argsL := [(.ref b362)]) (rest := []) (lenOf pd10 rfl) rfl (by show 2 * 0 + _ ≤ _; exact Nat.le_of_eq rfl) (hb hby at_99) (fun _ _ => ⟨rfl, rfl, (by decide : 4 + 1 ≤ _), (by decide : 16 + 2 ≤ _)⟩)
  dsimp only [Pt.U, Pt.locs, Pt.cells, Pt.slots] at X370 l370 y370 z370 st370 hQ370
  subst l370 y370 z370
  obtain ⟨pa370, rfl, N370q, P370, U370, fp370, K370⟩ := hQ370
  have N370 := Fr.app N368 N370q
  have C370 : ∀ t, Steps p.tables e below (T370.setTop (mkF m 102 #[.val (.int p1), .val (.int p2), .val (.int p3), .val (.long p4), .second, .val (.int pr), .val (.int sg), .val (.int ct), .val (.int ai), .val (.int bi), .val (.ref b357), .val (.ref b362), .val (.ref b366), .unset, .unset, .unset, .unset, .unset] [(.ref pa370)])) t → Steps p.tables e below (s₁.setTop (entryFrame m #[(.int p1), (.int p2), (.int p3), (.long p4)] maxLocals)) t := fun t k => C369 t (st370.trans k)
  have Z370 : n0 ≤ T370.heap.size := Nat.le_trans Z6 K370.1
  have C371 : ∀ t, Steps p.tables e below (T370.setTop (mkF m 114 #[.val (.int p1), .val (.int p2), .val (.int p3), .val (.long p4), .second, .val (.int pr), .val (.int sg), .val (.int ct), .val (.int ai), .val (.int bi), .val (.ref b357), .val (.ref b362), .val (.ref b366), .val (.ref pa370), .unset, .unset, .unset, .unset] [(.ref b362), (.ref b366)])) t → Steps p.tables e below (s₁.setTop (entryFrame m #[(.int p1), (.int p2), (.int p3), (.long p4)] maxLocals)) t := by
    intro t k
    refine C370 t ?_
    refine XS.astore X370.here hx rfl (hb hby at_102) rfl rfl (l' := #[.val (.int p1), .val (.int p2), .val (.int p3), .val (.long p4), .second, .val (.int pr), .val (.int sg), .val (.int ct), .val (.int ai), .val (.int bi), .val (.ref b357), .val (.ref b362), .val (.ref b366), .val (.ref pa370), .unset, .unset, .unset, .unset]) rfl ?_
    refine XS.iload X370.here hx rfl (hb hby at_104) rfl ?_
    refine XS.iconst X370.here hx rfl (hb hby at_106) ?_
    show Steps p.tables e below (T370.setTop (mkF m 107 #[.val (.int p1), .val (.int p2), .val (.int p3), .val (.long p4), .second, .val (.int pr), .val (.int sg), .val (.int ct), .val (.int ai), .val (.int bi), .val (.ref b357), .val (.ref b362), .val (.ref b366), .val (.ref pa370), .unset, .unset, .unset, .unset] [(.int (2 : Int32)), (.int pr)])) _
    refine XS.icmpNo X370.here hx rfl (hb hby at_107) rfl (XT.ii_lt_f (by rw [own_lt32, hpr]; decide)) ?_
    refine XS.aload X370.here hx rfl (hb hby at_110) rfl rfl ?_
    refine XS.aload X370.here hx rfl (hb hby at_112) rfl rfl ?_
    exact k
  obtain ⟨cq372, kq372, q372a, q372b, q372c⟩ := isOf hZ rfl U370.1
  obtain ⟨_, _, ⟨T372, L372, k372, n372⟩, -, X372, ⟨Lc372, hQ372, l372, y372, z372⟩, st372⟩ := X370.virtualBack hx (y := (⟨"com/example/mutatune/mutatune/engine/UniversalSampling", "pair", "(Lcom/example/mutatune/mutatune/engine/SeededRandom;)[I"⟩ : MethodName)) (z := (⟨"com/example/mutatune/mutatune/engine/UniversalSampling", "pair", "(Lcom/example/mutatune/mutatune/engine/SeededRandom;)[I"⟩ : MethodName)) hown (mvT hZ (hw _ (List.mem_of_getElem? (i := 67) rfl))) (mvT hZ (hw _ (List.mem_of_getElem? (i := 68) rfl))) (notFace_of_selects (args := #[]) (mvT hZ (hw _ (List.mem_of_getElem? (i := 70) rfl)))) (mvT hZ (hw _ (List.mem_of_getElem? (i := 70) rfl))) (mvT hZ (hw _ (List.mem_of_getElem? (i := 69) rfl))) (by decide) (backOf (W := 0) (rm12 l Z a0 hw [] b366 b362 r 5 2 3 4 2 q ai bi y2 y3 T370.heap n0 Z370 U370 gu rfl rfl (by decide) (by decide) (by decide) hy2 hy3) hZ (hw _ (List.mem_of_getElem? (i := 71) rfl)) (hw _ (List.mem_of_getElem? (i := 27) rfl)) (by decide) (by decide)) q372a q372c (g := (mkF m 114 #[.val (.int p1), .val (.int p2), .val (.int p3), .val (.long p4), .second, .val (.int pr), .val (.int sg), .val (.int ct), .val (.int ai), .val (.int bi), .val (.ref b357), .val (.ref b362), .val (.ref b366), .val (.ref pa370), .unset, .unset, .unset, .unset] [(.ref b362), (.ref b366)])) rfl (by rw [hml]; rfl) (Steps.refl _) (argsL := [(.ref b362)]) (rest := []) (lenOf pd10 rfl) rfl (by show 2 * 0 + _ ≤ _; exact Nat.le_of_eq rfl) (hb hby at_114) (fun _ _ => ⟨rfl, rfl, (by decide : 5 + 1 ≤ _), (by decide : 18 + 2 ≤ _)⟩)
  dsimp only [Pt.U, Pt.locs, Pt.cells, Pt.slots] at X372 l372 y372 z372 st372 hQ372
  subst l372 y372 z372
  obtain ⟨pa372, rfl, N372q, P372, U372, fp372, K372⟩ := hQ372
  have N372 := Fr.app N370 N372q
  have C372 : ∀ t, Steps p.tables e below (T372.setTop (mkF m 117 #[.val (.int p1), .val (.int p2), .val (.int p3), .val (.long p4), .second, .val (.int pr), .val (.int sg), .val (.int ct), .val (.int ai), .val (.int bi), .val (.ref b357), .val (.ref b362), .val (.ref b366), .val (.ref pa370), .unset, .unset, .unset, .unset] [(.ref pa372)])) t → Steps p.tables e below (s₁.setTop (entryFrame m #[(.int p1), (.int p2), (.int p3), (.long p4)] maxLocals)) t := fun t k => C371 t (st372.trans k)
  have Z372 : n0 ≤ T372.heap.size := Nat.le_trans Z370 K372.1
  have P0k := P370.keep K372 (own_nin1 (Ne.symm (own_ne U370.1 (hw _ (List.mem_of_getElem? (i := 26) rfl)) P370)))
  have hyb4 : y4 = bi := by rw [hy4, if_neg (by omega)]
  have C373 : ∀ t, Steps p.tables e below (T372.setTop (mkF m 145 #[.val (.int p1), .val (.int p2), .val (.int p3), .val (.long p4), .second, .val (.int pr), .val (.int sg), .val (.int ct), .val (.int ai), .val (.int bi), .val (.ref b357), .val (.ref b362), .val (.ref b366), .val (.ref pa370), .val (.ref pa372), .unset, .unset, .unset] [(.ref b362), (.ref b366)])) t → Steps p.tables e below (s₁.setTop (entryFrame m #[(.int p1), (.int p2), (.int p3), (.long p4)] maxLocals)) t := by
    intro t k
    refine C372 t ?_
    refine XS.goto X372.here hx rfl (pc0 := 117) (pc' := 133) rfl (hb hby at_117) (by decide) (by decide) ?_
    refine XS.astore X372.here hx rfl (hb hby at_133) rfl rfl (l' := #[.val (.int p1), .val (.int p2), .val (.int p3), .val (.long p4), .second, .val (.int pr), .val (.int sg), .val (.int ct), .val (.int ai), .val (.int bi), .val (.ref b357), .val (.ref b362), .val (.ref b366), .val (.ref pa370), .val (.ref pa372), .unset, .unset, .unset]) rfl ?_
    refine XS.iload X372.here hx rfl (hb hby at_135) rfl ?_
    show Steps p.tables e below (T372.setTop (mkF m 137 #[.val (.int p1), .val (.int p2), .val (.int p3), .val (.long p4), .second, .val (.int pr), .val (.int sg), .val (.int ct), .val (.int ai), .val (.int bi), .val (.ref b357), .val (.ref b362), .val (.ref b366), .val (.ref pa370), .val (.ref pa372), .unset, .unset, .unset] [(.int sg)])) _
    refine XS.iconst X372.here hx rfl (hb hby at_137) ?_
    refine XS.icmpNo X372.here hx rfl (hb hby at_138) rfl (XT.ii_lt_f (by rw [own_lt32, hsg]; decide)) ?_
    refine XS.aload X372.here hx rfl (hb hby at_141) rfl rfl ?_
    refine XS.aload X372.here hx rfl (hb hby at_143) rfl rfl ?_
    exact k
  obtain ⟨cq374, kq374, q374a, q374b, q374c⟩ := isOf hZ rfl U372.1
  obtain ⟨_, _, ⟨T374, L374, k374, n374⟩, -, X374, ⟨Lc374, hQ374, l374, y374, z374⟩, st374⟩ := X372.virtualBack hx (y := (⟨"com/example/mutatune/mutatune/engine/UniversalSampling", "single", "(Lcom/example/mutatune/mutatune/engine/SeededRandom;)I"⟩ : MethodName)) (z := (⟨"com/example/mutatune/mutatune/engine/UniversalSampling", "single", "(Lcom/example/mutatune/mutatune/engine/SeededRandom;)I"⟩ : MethodName)) hown (mvT hZ (hw _ (List.mem_of_getElem? (i := 78) rfl))) (mvT hZ (hw _ (List.mem_of_getElem? (i := 79) rfl))) (notFace_of_selects (args := #[]) (mvT hZ (hw _ (List.mem_of_getElem? (i := 81) rfl)))) (mvT hZ (hw _ (List.mem_of_getElem? (i := 81) rfl))) (mvT hZ (hw _ (List.mem_of_getElem? (i := 80) rfl))) (by decide) (backOf (W := 0) (rm14 l Z a0 hw [] b366 b362 r 5 4 5 4 q ai bi y4 T372.heap n0 Z372 U372 gu rfl (by decide) (by decide) hy4) hZ (hw _ (List.mem_of_getElem? (i := 82) rfl)) (hw _ (List.mem_of_getElem? (i := 27) rfl)) (by decide) (by decide)) q374a q374c (g := (mkF m 145 #[.val (.int p1), .val (.int p2), .val (.int p3), .val (.long p4), .second, .val (.int pr), .val (.int sg), .val (.int ct), .val (.int ai), .val (.int bi), .val (.ref b357), .val (.ref b362), .val (.ref b366), .val (.ref pa370), .val (.ref pa372), .unset, .unset, .unset] [(.ref b362), (.ref b366)])) rfl (by rw [hml]; rfl) (Steps.refl _) (argsL := [(.ref b362)]) (rest := []) (lenOf pd12 rfl) rfl (by show 2 * 0 + _ ≤ _; exact Nat.le_of_eq rfl) (hb hby at_145) (fun _ _ => ⟨rfl, rfl, (by decide : 6 + 0 ≤ _), (by decide : 20 + 0 ≤ _)⟩)
  dsimp only [Pt.U, Pt.locs, Pt.cells, Pt.slots] at X374 l374 y374 z374 st374 hQ374
  subst l374 y374 z374
  obtain ⟨rfl, N374q, U374, s374, K374⟩ := hQ374
  have N374 := Fr.app N372 N374q
  have C374 : ∀ t, Steps p.tables e below (T374.setTop (mkF m 148 #[.val (.int p1), .val (.int p2), .val (.int p3), .val (.long p4), .second, .val (.int pr), .val (.int sg), .val (.int ct), .val (.int ai), .val (.int bi), .val (.ref b357), .val (.ref b362), .val (.ref b366), .val (.ref pa370), .val (.ref pa372), .unset, .unset, .unset] [(.int y4)])) t → Steps p.tables e below (s₁.setTop (entryFrame m #[(.int p1), (.int p2), (.int p3), (.long p4)] maxLocals)) t := fun t k => C373 t (st374.trans k)
  have Z374 : n0 ≤ T374.heap.size := Nat.le_trans Z372 s374
  have P0k_374 := P0k.keep K374 (own_nin1 (Ne.symm (own_ne U372.1 (hw _ (List.mem_of_getElem? (i := 26) rfl)) P0k)))
  have P372_374 := P372.keep K374 (own_nin1 (Ne.symm (own_ne U372.1 (hw _ (List.mem_of_getElem? (i := 26) rfl)) P372)))
  rw [hyb4] at C374
  obtain ⟨c375, A375, S375, V375⟩ := id P0k_374
  obtain ⟨c376, A376, S376, V376⟩ := id P372_374
  obtain ⟨c377, A377, S377, V377⟩ := id P0k_374
  obtain ⟨t0, et0, ht0⟩ := own_tal hAB hy0
  have C378 : ∀ t, Steps p.tables e below (T374.setTop (mkF m 209 #[.val (.int p1), .val (.int p2), .val (.int p3), .val (.long p4), .second, .val (.int pr), .val (.int sg), .val (.int ct), .val (.int ai), .val (.int bi), .val (.ref b357), .val (.ref b362), .val (.ref b366), .val (.ref pa370), .val (.ref pa372), .val (.int bi), .val (.int bi), .unset] [(.int bi), (.int ai), (.int y0)])) t → Steps p.tables e below (s₁.setTop (entryFrame m #[(.int p1), (.int p2), (.int p3), (.long p4)] maxLocals)) t := by
    intro t k
    refine C374 t ?_
    refine XS.goto X374.here hx rfl (pc0 := 148) (pc' := 153) rfl (hb hby at_148) (by decide) (by decide) ?_
    refine XS.istore X374.here hx rfl (hb hby at_153) rfl (l' := #[.val (.int p1), .val (.int p2), .val (.int p3), .val (.long p4), .second, .val (.int pr), .val (.int sg), .val (.int ct), .val (.int ai), .val (.int bi), .val (.ref b357), .val (.ref b362), .val (.ref b366), .val (.ref pa370), .val (.ref pa372), .val (.int bi), .unset, .unset]) rfl ?_
    refine XS.iload X374.here hx rfl (hb hby at_155) rfl ?_
    show Steps p.tables e below (T374.setTop (mkF m 157 #[.val (.int p1), .val (.int p2), .val (.int p3), .val (.long p4), .second, .val (.int pr), .val (.int sg), .val (.int ct), .val (.int ai), .val (.int bi), .val (.ref b357), .val (.ref b362), .val (.ref b366), .val (.ref pa370), .val (.ref pa372), .val (.int bi), .unset, .unset] [(.int sg)])) _
    refine XS.iconst X374.here hx rfl (hb hby at_157) ?_
    refine XS.icmpYes X374.here hx rfl (pc0 := 158) (pc' := 171) rfl (hb hby at_158) rfl (XT.ii_lt_t (by rw [own_lt32, hsg]; decide)) (by decide) (by decide) ?_
    refine XS.iload X374.here hx rfl (hb hby at_171) rfl ?_
    refine XS.istore X374.here hx rfl (hb hby at_173) rfl (l' := #[.val (.int p1), .val (.int p2), .val (.int p3), .val (.long p4), .second, .val (.int pr), .val (.int sg), .val (.int ct), .val (.int ai), .val (.int bi), .val (.ref b357), .val (.ref b362), .val (.ref b366), .val (.ref pa370), .val (.ref pa372), .val (.int bi), .val (.int bi), .unset]) rfl ?_
    show Steps p.tables e below (T374.setTop (mkF m 175 #[.val (.int p1), .val (.int p2), .val (.int p3), .val (.long p4), .second, .val (.int pr), .val (.int sg), .val (.int ct), .val (.int ai), .val (.int bi), .val (.ref b357), .val (.ref b362), .val (.ref b366), .val (.ref pa370), .val (.ref pa372), .val (.int bi), .val (.int bi), .unset] [])) _
    refine XS.aload X374.here hx rfl (hb hby at_175) rfl rfl ?_
    refine XS.ifnullNo X374.here hx rfl (hb hby at_177) rfl  ?_
    refine XS.aload X374.here hx rfl (hb hby at_180) rfl rfl ?_
    refine XS.ifnullNo X374.here hx rfl (hb hby at_182) rfl  ?_
    show Steps p.tables e below (T374.setTop (mkF m 185 #[.val (.int p1), .val (.int p2), .val (.int p3), .val (.long p4), .second, .val (.int pr), .val (.int sg), .val (.int ct), .val (.int ai), .val (.int bi), .val (.ref b357), .val (.ref b362), .val (.ref b366), .val (.ref pa370), .val (.ref pa372), .val (.int bi), .val (.int bi), .unset] [])) _
    refine XS.aload X374.here hx rfl (hb hby at_185) rfl rfl ?_
    refine X374.arraylength hx A375.1 (State.isArrayOf_alike hZ.alike A375.2.1) (g := (mkF m 187 #[.val (.int p1), .val (.int p2), .val (.int p3), .val (.long p4), .second, .val (.int pr), .val (.int sg), .val (.int ct), .val (.int ai), .val (.int bi), .val (.ref b357), .val (.ref b362), .val (.ref b366), .val (.ref pa370), .val (.ref pa372), .val (.int bi), .val (.int bi), .unset] [(.ref pa370)])) rfl rfl (hb hby at_187) _ ?_
    rw [S375, (rfl : (2 : Nat).toInt32 = (2 : Int32))]
    refine XS.iconst X374.here hx rfl (hb hby at_188) ?_
    refine XS.icmpNo X374.here hx rfl (hb hby at_189) rfl (XT.ii_ne_f rfl) ?_
    show Steps p.tables e below (T374.setTop (mkF m 192 #[.val (.int p1), .val (.int p2), .val (.int p3), .val (.long p4), .second, .val (.int pr), .val (.int sg), .val (.int ct), .val (.int ai), .val (.int bi), .val (.ref b357), .val (.ref b362), .val (.ref b366), .val (.ref pa370), .val (.ref pa372), .val (.int bi), .val (.int bi), .unset] [])) _
    refine XS.aload X374.here hx rfl (hb hby at_192) rfl rfl ?_
    refine X374.arraylength hx A376.1 (State.isArrayOf_alike hZ.alike A376.2.1) (g := (mkF m 194 #[.val (.int p1), .val (.int p2), .val (.int p3), .val (.long p4), .second, .val (.int pr), .val (.int sg), .val (.int ct), .val (.int ai), .val (.int bi), .val (.ref b357), .val (.ref b362), .val (.ref b366), .val (.ref pa370), .val (.ref pa372), .val (.int bi), .val (.int bi), .unset] [(.ref pa372)])) rfl rfl (hb hby at_194) _ ?_
    rw [S376, (rfl : (2 : Nat).toInt32 = (2 : Int32))]
    refine XS.iconst X374.here hx rfl (hb hby at_195) ?_
    refine XS.icmpYes X374.here hx rfl (pc0 := 196) (pc' := 201) rfl (hb hby at_196) rfl (XT.ii_eq_t rfl) (by decide) (by decide) ?_
    show Steps p.tables e below (T374.setTop (mkF m 201 #[.val (.int p1), .val (.int p2), .val (.int p3), .val (.long p4), .second, .val (.int pr), .val (.int sg), .val (.int ct), .val (.int ai), .val (.int bi), .val (.ref b357), .val (.ref b362), .val (.ref b366), .val (.ref pa370), .val (.ref pa372), .val (.int bi), .val (.int bi), .unset] [])) _
    refine XS.aload X374.here hx rfl (hb hby at_201) rfl rfl ?_
    refine XS.iconst X374.here hx rfl (hb hby at_203) ?_
    refine X374.iaload hx (j := (0 : Int32)) (v := (.int y0)) A377.1 (State.isArrayOf_alike hZ.alike A377.2.1) A377.2.2 (own_in own_i20 S377) (V377 _ (own_i20).2) (g := (mkF m 204 #[.val (.int p1), .val (.int p2), .val (.int p3), .val (.long p4), .second, .val (.int pr), .val (.int sg), .val (.int ct), .val (.int ai), .val (.int bi), .val (.ref b357), .val (.ref b362), .val (.ref b366), .val (.ref pa370), .val (.ref pa372), .val (.int bi), .val (.int bi), .unset] [(.int (0 : Int32)), (.ref pa370)])) rfl rfl (hb hby at_204) _ ?_
    refine XS.iload X374.here hx rfl (hb hby at_205) rfl ?_
    show Steps p.tables e below (T374.setTop (mkF m 207 #[.val (.int p1), .val (.int p2), .val (.int p3), .val (.long p4), .second, .val (.int pr), .val (.int sg), .val (.int ct), .val (.int ai), .val (.int bi), .val (.ref b357), .val (.ref b362), .val (.ref b366), .val (.ref pa370), .val (.ref pa372), .val (.int bi), .val (.int bi), .unset] [(.int ai), (.int y0)])) _
    refine XS.iload X374.here hx rfl (hb hby at_207) rfl ?_
    exact k
  obtain ⟨_, _, ⟨T379, L379, k379, n379⟩, -, X379, ⟨Lc379, hQ379, l379, y379, z379⟩, st379⟩ := Jvm.LawKit.callS X374 hx (y := (⟨"com/example/mutatune/mutatune/engine/UniversalSamplingPairPinLaw", "tally", "(III)I"⟩ : MethodName)) hown (mvT hZ (hw _ (List.mem_of_getElem? (i := 74) rfl))) (mvT hZ (hw _ (List.mem_of_getElem? (i := 75) rfl))) (mvT hZ (hw _ (List.mem_of_getElem? (i := 76) rfl))) (mvT hZ (hw _ (List.mem_of_getElem? (i := 77) rfl))) (by decide) (backOf (W := 0) (rm13 l Z a0 hw [] y0 ai bi t0 T374.heap n0 Z374 ht0) hZ (hw _ (List.mem_of_getElem? (i := 77) rfl)) (hw _ (List.mem_of_getElem? (i := 76) rfl)) (by decide) (by decide)) (g := (mkF m 209 #[.val (.int p1), .val (.int p2), .val (.int p3), .val (.long p4), .second, .val (.int pr), .val (.int sg), .val (.int ct), .val (.int ai), .val (.int bi), .val (.ref b357), .val (.ref b362), .val (.ref b366), .val (.ref pa370), .val (.ref pa372), .val (.int bi), .val (.int bi), .unset] [(.int bi), (.int ai), (.int y0)])) rfl (by rw [hml]; rfl) (argsL := [(.int y0), (.int ai), (.int bi)]) (rest := []) (lenOf pd11 rfl) rfl (by show 2 * 0 + _ ≤ _; exact Nat.le_of_eq rfl) (hb hby at_209) (fun _ _ => ⟨rfl, rfl, (by decide : 6 + 0 ≤ _), (by decide : 20 + 0 ≤ _)⟩)
  dsimp only [Pt.U, Pt.locs, Pt.cells, Pt.slots] at X379 l379 y379 z379 st379 hQ379
  subst l379 y379 z379
  obtain ⟨rfl, N379q, q379⟩ := hQ379
  have N379 := Fr.app N374 N379q
  have C379 : ∀ t, Steps p.tables e below (T379.setTop (mkF m 212 #[.val (.int p1), .val (.int p2), .val (.int p3), .val (.long p4), .second, .val (.int pr), .val (.int sg), .val (.int ct), .val (.int ai), .val (.int bi), .val (.ref b357), .val (.ref b362), .val (.ref b366), .val (.ref pa370), .val (.ref pa372), .val (.int bi), .val (.int bi), .unset] [(.int t0)])) t → Steps p.tables e below (s₁.setTop (entryFrame m #[(.int p1), (.int p2), (.int p3), (.long p4)] maxLocals)) t := fun t k => C378 t (st379 t k)
  obtain ⟨c380, A380, S380, V380⟩ := id P0k_374
  obtain ⟨t1, et1, ht1⟩ := own_tal hAB hy1
  have C381 : ∀ t, Steps p.tables e below (T379.setTop (mkF m 220 #[.val (.int p1), .val (.int p2), .val (.int p3), .val (.long p4), .second, .val (.int pr), .val (.int sg), .val (.int ct), .val (.int ai), .val (.int bi), .val (.ref b357), .val (.ref b362), .val (.ref b366), .val (.ref pa370), .val (.ref pa372), .val (.int bi), .val (.int bi), .unset] [(.int bi), (.int ai), (.int y1), (.int t0)])) t → Steps p.tables e below (s₁.setTop (entryFrame m #[(.int p1), (.int p2), (.int p3), (.long p4)] maxLocals)) t := by
    intro t k
    refine C379 t ?_
    refine XS.aload X379.here hx rfl (hb hby at_212) rfl rfl ?_
    refine XS.iconst X379.here hx rfl (hb hby at_214) ?_
    refine X379.iaload hx (j := (1 : Int32)) (v := (.int y1)) (by rw [q379]; exact A380.1) (State.isArrayOf_alike hZ.alike A380.2.1) A380.2.2 (own_in own_i21 S380) (V380 _ (own_i21).2) (g := (mkF m 215 #[.val (.int p1), .val (.int p2), .val (.int p3), .val (.long p4), .second, .val (.int pr), .val (.int sg), .val (.int ct), .val (.int ai), .val (.int bi), .val (.ref b357), .val (.ref b362), .val (.ref b366), .val (.ref pa370), .val (.ref pa372), .val (.int bi), .val (.int bi), .unset] [(.int (1 : Int32)), (.ref pa370), (.int t0)])) rfl rfl (hb hby at_215) _ ?_
    show Steps p.tables e below (T379.setTop (mkF m 216 #[.val (.int p1), .val (.int p2), .val (.int p3), .val (.long p4), .second, .val (.int pr), .val (.int sg), .val (.int ct), .val (.int ai), .val (.int bi), .val (.ref b357), .val (.ref b362), .val (.ref b366), .val (.ref pa370), .val (.ref pa372), .val (.int bi), .val (.int bi), .unset] [(.int y1), (.int t0)])) _
    refine XS.iload X379.here hx rfl (hb hby at_216) rfl ?_
    refine XS.iload X379.here hx rfl (hb hby at_218) rfl ?_
    exact k
  obtain ⟨_, _, ⟨T382, L382, k382, n382⟩, -, X382, ⟨Lc382, hQ382, l382, y382, z382⟩, st382⟩ := Jvm.LawKit.callS X379 hx (y := (⟨"com/example/mutatune/mutatune/engine/UniversalSamplingPairPinLaw", "tally", "(III)I"⟩ : MethodName)) hown (mvT hZ (hw _ (List.mem_of_getElem? (i := 74) rfl))) (mvT hZ (hw _ (List.mem_of_getElem? (i := 75) rfl))) (mvT hZ (hw _ (List.mem_of_getElem? (i := 76) rfl))) (mvT hZ (hw _ (List.mem_of_getElem? (i := 77) rfl))) (by decide) (backOf (W := 1) (rm13 l Z a0 hw [] y1 ai bi t1 T374.heap n0 Z374 ht1) hZ (hw _ (List.mem_of_getElem? (i := 77) rfl)) (hw _ (List.mem_of_getElem? (i := 76) rfl)) (by decide) (by decide)) (g := (mkF m 220 #[.val (.int p1), .val (.int p2), .val (.int p3), .val (.long p4), .second, .val (.int pr), .val (.int sg), .val (.int ct), .val (.int ai), .val (.int bi), .val (.ref b357), .val (.ref b362), .val (.ref b366), .val (.ref pa370), .val (.ref pa372), .val (.int bi), .val (.int bi), .unset] [(.int bi), (.int ai), (.int y1), (.int t0)])) rfl (by rw [hml]; rfl) (argsL := [(.int y1), (.int ai), (.int bi)]) (rest := [(.int t0)]) (lenOf pd11 rfl) rfl (by show 2 * 0 + _ ≤ _; exact Nat.le_of_eq rfl) (hb hby at_220) (fun _ _ => ⟨rfl, q379, (by decide : 6 + 0 ≤ _), (by decide : 20 + 0 ≤ _)⟩)
  dsimp only [Pt.U, Pt.locs, Pt.cells, Pt.slots] at X382 l382 y382 z382 st382 hQ382
  subst l382 y382 z382
  obtain ⟨rfl, N382q, q382⟩ := hQ382
  have N382 := Fr.app N379 N382q
  have C382 : ∀ t, Steps p.tables e below (T382.setTop (mkF m 223 #[.val (.int p1), .val (.int p2), .val (.int p3), .val (.long p4), .second, .val (.int pr), .val (.int sg), .val (.int ct), .val (.int ai), .val (.int bi), .val (.ref b357), .val (.ref b362), .val (.ref b366), .val (.ref pa370), .val (.ref pa372), .val (.int bi), .val (.int bi), .unset] [(.int t1), (.int t0)])) t → Steps p.tables e below (s₁.setTop (entryFrame m #[(.int p1), (.int p2), (.int p3), (.long p4)] maxLocals)) t := fun t k => C381 t (st382 t k)
  obtain ⟨c383, A383, S383, V383⟩ := id P372_374
  obtain ⟨t2, et2, ht2⟩ := own_tal hAB hy2
  have C384 : ∀ t, Steps p.tables e below (T382.setTop (mkF m 232 #[.val (.int p1), .val (.int p2), .val (.int p3), .val (.long p4), .second, .val (.int pr), .val (.int sg), .val (.int ct), .val (.int ai), .val (.int bi), .val (.ref b357), .val (.ref b362), .val (.ref b366), .val (.ref pa370), .val (.ref pa372), .val (.int bi), .val (.int bi), .unset] [(.int bi), (.int ai), (.int y2), (.int (t0 + t1))])) t → Steps p.tables e below (s₁.setTop (entryFrame m #[(.int p1), (.int p2), (.int p3), (.long p4)] maxLocals)) t := by
    intro t k
    refine C382 t ?_
    refine XS.iadd X382.here hx rfl (hb hby at_223) rfl ?_
    refine XS.aload X382.here hx rfl (hb hby at_224) rfl rfl ?_
    refine XS.iconst X382.here hx rfl (hb hby at_226) ?_
    show Steps p.tables e below (T382.setTop (mkF m 227 #[.val (.int p1), .val (.int p2), .val (.int p3), .val (.long p4), .second, .val (.int pr), .val (.int sg), .val (.int ct), .val (.int ai), .val (.int bi), .val (.ref b357), .val (.ref b362), .val (.ref b366), .val (.ref pa370), .val (.ref pa372), .val (.int bi), .val (.int bi), .unset] [(.int (0 : Int32)), (.ref pa372), (.int (t0 + t1))])) _
    refine X382.iaload hx (j := (0 : Int32)) (v := (.int y2)) (by rw [q382]; exact A383.1) (State.isArrayOf_alike hZ.alike A383.2.1) A383.2.2 (own_in own_i20 S383) (V383 _ (own_i20).2) (g := (mkF m 227 #[.val (.int p1), .val (.int p2), .val (.int p3), .val (.long p4), .second, .val (.int pr), .val (.int sg), .val (.int ct), .val (.int ai), .val (.int bi), .val (.ref b357), .val (.ref b362), .val (.ref b366), .val (.ref pa370), .val (.ref pa372), .val (.int bi), .val (.int bi), .unset] [(.int (0 : Int32)), (.ref pa372), (.int (t0 + t1))])) rfl rfl (hb hby at_227) _ ?_
    refine XS.iload X382.here hx rfl (hb hby at_228) rfl ?_
    refine XS.iload X382.here hx rfl (hb hby at_230) rfl ?_
    exact k
  obtain ⟨_, _, ⟨T385, L385, k385, n385⟩, -, X385, ⟨Lc385, hQ385, l385, y385, z385⟩, st385⟩ := Jvm.LawKit.callS X382 hx (y := (⟨"com/example/mutatune/mutatune/engine/UniversalSamplingPairPinLaw", "tally", "(III)I"⟩ : MethodName)) hown (mvT hZ (hw _ (List.mem_of_getElem? (i := 74) rfl))) (mvT hZ (hw _ (List.mem_of_getElem? (i := 75) rfl))) (mvT hZ (hw _ (List.mem_of_getElem? (i := 76) rfl))) (mvT hZ (hw _ (List.mem_of_getElem? (i := 77) rfl))) (by decide) (backOf (W := 1) (rm13 l Z a0 hw [] y2 ai bi t2 T374.heap n0 Z374 ht2) hZ (hw _ (List.mem_of_getElem? (i := 77) rfl)) (hw _ (List.mem_of_getElem? (i := 76) rfl)) (by decide) (by decide)) (g := (mkF m 232 #[.val (.int p1), .val (.int p2), .val (.int p3), .val (.long p4), .second, .val (.int pr), .val (.int sg), .val (.int ct), .val (.int ai), .val (.int bi), .val (.ref b357), .val (.ref b362), .val (.ref b366), .val (.ref pa370), .val (.ref pa372), .val (.int bi), .val (.int bi), .unset] [(.int bi), (.int ai), (.int y2), (.int (t0 + t1))])) rfl (by rw [hml]; rfl) (argsL := [(.int y2), (.int ai), (.int bi)]) (rest := [(.int (t0 + t1))]) (lenOf pd11 rfl) rfl (by show 2 * 0 + _ ≤ _; exact Nat.le_of_eq rfl) (hb hby at_232) (fun _ _ => ⟨rfl, q382, (by decide : 6 + 0 ≤ _), (by decide : 20 + 0 ≤ _)⟩)
  dsimp only [Pt.U, Pt.locs, Pt.cells, Pt.slots] at X385 l385 y385 z385 st385 hQ385
  subst l385 y385 z385
  obtain ⟨rfl, N385q, q385⟩ := hQ385
  have N385 := Fr.app N382 N385q
  have C385 : ∀ t, Steps p.tables e below (T385.setTop (mkF m 235 #[.val (.int p1), .val (.int p2), .val (.int p3), .val (.long p4), .second, .val (.int pr), .val (.int sg), .val (.int ct), .val (.int ai), .val (.int bi), .val (.ref b357), .val (.ref b362), .val (.ref b366), .val (.ref pa370), .val (.ref pa372), .val (.int bi), .val (.int bi), .unset] [(.int t2), (.int (t0 + t1))])) t → Steps p.tables e below (s₁.setTop (entryFrame m #[(.int p1), (.int p2), (.int p3), (.long p4)] maxLocals)) t := fun t k => C384 t (st385 t k)
  obtain ⟨c386, A386, S386, V386⟩ := id P372_374
  obtain ⟨t3, et3, ht3⟩ := own_tal hAB hy3
  have C387 : ∀ t, Steps p.tables e below (T385.setTop (mkF m 244 #[.val (.int p1), .val (.int p2), .val (.int p3), .val (.long p4), .second, .val (.int pr), .val (.int sg), .val (.int ct), .val (.int ai), .val (.int bi), .val (.ref b357), .val (.ref b362), .val (.ref b366), .val (.ref pa370), .val (.ref pa372), .val (.int bi), .val (.int bi), .unset] [(.int bi), (.int ai), (.int y3), (.int ((t0 + t1) + t2))])) t → Steps p.tables e below (s₁.setTop (entryFrame m #[(.int p1), (.int p2), (.int p3), (.long p4)] maxLocals)) t := by
    intro t k
    refine C385 t ?_
    refine XS.iadd X385.here hx rfl (hb hby at_235) rfl ?_
    refine XS.aload X385.here hx rfl (hb hby at_236) rfl rfl ?_
    refine XS.iconst X385.here hx rfl (hb hby at_238) ?_
    show Steps p.tables e below (T385.setTop (mkF m 239 #[.val (.int p1), .val (.int p2), .val (.int p3), .val (.long p4), .second, .val (.int pr), .val (.int sg), .val (.int ct), .val (.int ai), .val (.int bi), .val (.ref b357), .val (.ref b362), .val (.ref b366), .val (.ref pa370), .val (.ref pa372), .val (.int bi), .val (.int bi), .unset] [(.int (1 : Int32)), (.ref pa372), (.int ((t0 + t1) + t2))])) _
    refine X385.iaload hx (j := (1 : Int32)) (v := (.int y3)) (by rw [q385]; exact A386.1) (State.isArrayOf_alike hZ.alike A386.2.1) A386.2.2 (own_in own_i21 S386) (V386 _ (own_i21).2) (g := (mkF m 239 #[.val (.int p1), .val (.int p2), .val (.int p3), .val (.long p4), .second, .val (.int pr), .val (.int sg), .val (.int ct), .val (.int ai), .val (.int bi), .val (.ref b357), .val (.ref b362), .val (.ref b366), .val (.ref pa370), .val (.ref pa372), .val (.int bi), .val (.int bi), .unset] [(.int (1 : Int32)), (.ref pa372), (.int ((t0 + t1) + t2))])) rfl rfl (hb hby at_239) _ ?_
    refine XS.iload X385.here hx rfl (hb hby at_240) rfl ?_
    refine XS.iload X385.here hx rfl (hb hby at_242) rfl ?_
    exact k
  obtain ⟨_, _, ⟨T388, L388, k388, n388⟩, -, X388, ⟨Lc388, hQ388, l388, y388, z388⟩, st388⟩ := Jvm.LawKit.callS X385 hx (y := (⟨"com/example/mutatune/mutatune/engine/UniversalSamplingPairPinLaw", "tally", "(III)I"⟩ : MethodName)) hown (mvT hZ (hw _ (List.mem_of_getElem? (i := 74) rfl))) (mvT hZ (hw _ (List.mem_of_getElem? (i := 75) rfl))) (mvT hZ (hw _ (List.mem_of_getElem? (i := 76) rfl))) (mvT hZ (hw _ (List.mem_of_getElem? (i := 77) rfl))) (by decide) (backOf (W := 1) (rm13 l Z a0 hw [] y3 ai bi t3 T374.heap n0 Z374 ht3) hZ (hw _ (List.mem_of_getElem? (i := 77) rfl)) (hw _ (List.mem_of_getElem? (i := 76) rfl)) (by decide) (by decide)) (g := (mkF m 244 #[.val (.int p1), .val (.int p2), .val (.int p3), .val (.long p4), .second, .val (.int pr), .val (.int sg), .val (.int ct), .val (.int ai), .val (.int bi), .val (.ref b357), .val (.ref b362), .val (.ref b366), .val (.ref pa370), .val (.ref pa372), .val (.int bi), .val (.int bi), .unset] [(.int bi), (.int ai), (.int y3), (.int ((t0 + t1) + t2))])) rfl (by rw [hml]; rfl) (argsL := [(.int y3), (.int ai), (.int bi)]) (rest := [(.int ((t0 + t1) + t2))]) (lenOf pd11 rfl) rfl (by show 2 * 0 + _ ≤ _; exact Nat.le_of_eq rfl) (hb hby at_244) (fun _ _ => ⟨rfl, q385, (by decide : 6 + 0 ≤ _), (by decide : 20 + 0 ≤ _)⟩)
  dsimp only [Pt.U, Pt.locs, Pt.cells, Pt.slots] at X388 l388 y388 z388 st388 hQ388
  subst l388 y388 z388
  obtain ⟨rfl, N388q, q388⟩ := hQ388
  have N388 := Fr.app N385 N388q
  have C388 : ∀ t, Steps p.tables e below (T388.setTop (mkF m 247 #[.val (.int p1), .val (.int p2), .val (.int p3), .val (.long p4), .second, .val (.int pr), .val (.int sg), .val (.int ct), .val (.int ai), .val (.int bi), .val (.ref b357), .val (.ref b362), .val (.ref b366), .val (.ref pa370), .val (.ref pa372), .val (.int bi), .val (.int bi), .unset] [(.int t3), (.int ((t0 + t1) + t2))])) t → Steps p.tables e below (s₁.setTop (entryFrame m #[(.int p1), (.int p2), (.int p3), (.long p4)] maxLocals)) t := fun t k => C387 t (st388 t k)
  have C389 : ∀ t, Steps p.tables e below (T388.setTop (mkF m 253 #[.val (.int p1), .val (.int p2), .val (.int p3), .val (.long p4), .second, .val (.int pr), .val (.int sg), .val (.int ct), .val (.int ai), .val (.int bi), .val (.ref b357), .val (.ref b362), .val (.ref b366), .val (.ref pa370), .val (.ref pa372), .val (.int bi), .val (.int bi), .val (.int (((t0 + t1) + t2) + t3))] [(.int (1 : Int32)), (.int (((t0 + t1) + t2) + t3))])) t → Steps p.tables e below (s₁.setTop (entryFrame m #[(.int p1), (.int p2), (.int p3), (.long p4)] maxLocals)) t := by
    intro t k
    refine C388 t ?_
    refine XS.iadd X388.here hx rfl (hb hby at_247) rfl ?_
    refine XS.istore X388.here hx rfl (hb hby at_248) rfl (l' := #[.val (.int p1), .val (.int p2), .val (.int p3), .val (.long p4), .second, .val (.int pr), .val (.int sg), .val (.int ct), .val (.int ai), .val (.int bi), .val (.ref b357), .val (.ref b362), .val (.ref b366), .val (.ref pa370), .val (.ref pa372), .val (.int bi), .val (.int bi), .val (.int (((t0 + t1) + t2) + t3))]) rfl ?_
    refine XS.iload X388.here hx rfl (hb hby at_250) rfl ?_
    show Steps p.tables e below (T388.setTop (mkF m 252 #[.val (.int p1), .val (.int p2), .val (.int p3), .val (.long p4), .second, .val (.int pr), .val (.int sg), .val (.int ct), .val (.int ai), .val (.int bi), .val (.ref b357), .val (.ref b362), .val (.ref b366), .val (.ref pa370), .val (.ref pa372), .val (.int bi), .val (.int bi), .val (.int (((t0 + t1) + t2) + t3))] [(.int (((t0 + t1) + t2) + t3))])) _
    refine XS.iconst X388.here hx rfl (hb hby at_252) ?_
    exact k
  have hsum : (((t0 + t1) + t2) + t3) = 1 := by
    have hq4 : q = 0 ∨ q = 1 ∨ q = 2 ∨ q = 3 := by omega
    rcases hq4 with g | g | g | g <;> subst g et0 et1 et2 et3 <;> rfl
  have C390 : ∀ t, Steps p.tables e below (T388.setTop (mkF m 275 #[.val (.int p1), .val (.int p2), .val (.int p3), .val (.long p4), .second, .val (.int pr), .val (.int sg), .val (.int ct), .val (.int ai), .val (.int bi), .val (.ref b357), .val (.ref b362), .val (.ref b366), .val (.ref pa370), .val (.ref pa372), .val (.int bi), .val (.int bi), .val (.int (((t0 + t1) + t2) + t3))] [(.int (1 : Int32))])) t → Steps p.tables e below (s₁.setTop (entryFrame m #[(.int p1), (.int p2), (.int p3), (.long p4)] maxLocals)) t := by
    intro t k
    refine C389 t ?_
    refine XS.icmpNo X388.here hx rfl (hb hby at_253) rfl (XT.ii_ne_f hsum) ?_
    refine XS.iload X388.here hx rfl (hb hby at_256) rfl ?_
    refine XS.iload X388.here hx rfl (hb hby at_258) rfl ?_
    show Steps p.tables e below (T388.setTop (mkF m 260 #[.val (.int p1), .val (.int p2), .val (.int p3), .val (.long p4), .second, .val (.int pr), .val (.int sg), .val (.int ct), .val (.int ai), .val (.int bi), .val (.ref b357), .val (.ref b362), .val (.ref b366), .val (.ref pa370), .val (.ref pa372), .val (.int bi), .val (.int bi), .val (.int (((t0 + t1) + t2) + t3))] [(.int bi), (.int bi)])) _
    refine XS.icmpNo X388.here hx rfl (hb hby at_260) rfl (XT.ii_ne_f rfl) ?_
    refine XS.iload X388.here hx rfl (hb hby at_263) rfl ?_
    refine XS.iload X388.here hx rfl (hb hby at_265) rfl ?_
    refine XS.icmpNo X388.here hx rfl (hb hby at_267) rfl (XT.ii_ne_f rfl) ?_
    show Steps p.tables e below (T388.setTop (mkF m 270 #[.val (.int p1), .val (.int p2), .val (.int p3), .val (.long p4), .second, .val (.int pr), .val (.int sg), .val (.int ct), .val (.int ai), .val (.int bi), .val (.ref b357), .val (.ref b362), .val (.ref b366), .val (.ref pa370), .val (.ref pa372), .val (.int bi), .val (.int bi), .val (.int (((t0 + t1) + t2) + t3))] [])) _
    refine XS.iconst X388.here hx rfl (hb hby at_270) ?_
    refine XS.goto X388.here hx rfl (pc0 := 271) (pc' := 275) rfl (hb hby at_271) (by decide) (by decide) ?_
    exact k
  obtain ⟨fs, hr, hrun, hended, hW, hsame⟩ := X388.leave (v := some (.int (1 : Int32))) (fun h => by rw [Bd.returns] at h; cases h)
  refine ⟨_, _, C390 _ ?_, hrun, hended, _, _, rfl, ?_, ⟨_, rfl⟩, hW, hsame.mono (by decide) (by decide)⟩
  · show Steps p.tables e below (T388.setTop (mkF m 275 #[.val (.int p1), .val (.int p2), .val (.int p3), .val (.long p4), .second, .val (.int pr), .val (.int sg), .val (.int ct), .val (.int ai), .val (.int bi), .val (.ref b357), .val (.ref b362), .val (.ref b366), .val (.ref pa370), .val (.ref pa372), .val (.int bi), .val (.int bi), .val (.int (((t0 + t1) + t2) + t3))] [(.int (1 : Int32))])) _
    exact retN X388 hx (t := .boolean) Bd.returns (by simp) (hb hby at_275) hr
  · show Q0 Z p1 p2 p3 p4 h0 n0 _ T388.heap _
    rw [q388]
    exact ⟨rfl, N388⟩
set_option maxRecDepth 65536 in
set_option maxHeartbeats 40000000 in
theorem rm0_22 (l : Launch) (Z : State) (a0 : Array Value) (hw : ∀ d ∈ tables_1, d.before a0 Z = true) (ws : List Jvm.Cond) (p1 p2 p3 : Int32) (p4 : Int64) (h0 : Heap) (n0 : Nat) (Z0 : n0 ≤ h0.size) (hm : ((1 : Int32) + (p1 &&& (1 : Int32))).toInt = ((2 : Nat) : Int)) (hs : (((p1.toUInt32 >>> ((1 : Int32) &&& 31).toUInt32).toInt32) - (((p1.toUInt32 >>> ((1 : Int32) &&& 31).toUInt32).toInt32) / (3 : Int32)) * (3 : Int32)).toInt = ((2 : Nat) : Int)) :
    MetFree l x (head1 (Jvm.Cond.code x code maxLocals ret :: ws) room_1) (fun a U => a = #[(.int p1), (.int p2), (.int p3), (.long p4)] ∧ Z.Warmed39 U.vm ∧ U.heap = h0) (fun _ _ _ _ _ => True) (fun _ U o U' => ∃ v L, o = .returned v ∧ Q0 Z p1 p2 p3 p4 h0 n0 v U'.heap L ∧ FrameEnd U o U' L room_1.cells room_1.slots) := by
  refine MetFree.of_bodySF (plainFor_of_name pn3) hisR ?_
  intro p e s m args below meth c s₁ Bd hml0 hP hK
  obtain ⟨rfl, hZ, hh⟩ := hP
  have hx := Bd.exec
  have hby := Bd.bytes
  have hml : c.maxLocals = 18 := hml0
  have hown : s.vm.findClass "com/example/mutatune/mutatune/engine/UniversalSamplingPairPinLaw" = some m.cls := findClass_of_methodNamed Bd.named
  have hnm := (name_of_methodNamed Bd.named Bd.method).1
  have X0 : Stand p l e room_1 s m #[(.int p1), (.int p2), (.int p3), (.long p4)] below meth c s₁ [] 0 0 := Stand.of_body Bd
  have e0 : s₁.heap = h0 := by rw [← hh, Bd.state]; rfl
  have N0 := Fr.nil n0
  have pre0 : ∀ t, Steps p.tables e below (s₁.setTop (mkF m 0 #[.val (.int p1), .val (.int p2), .val (.int p3), .val (.long p4), .second, .unset, .unset, .unset, .unset, .unset, .unset, .unset, .unset, .unset, .unset, .unset, .unset, .unset] [])) t → Steps p.tables e below (s₁.setTop (entryFrame m #[(.int p1), (.int p2), (.int p3), (.long p4)] maxLocals)) t := fun t k => castTop (ef0 m p1 p2 p3 p4) k
  have C391 : ∀ t, Steps p.tables e below (s₁.setTop (mkF m 7 #[.val (.int p1), .val (.int p2), .val (.int p3), .val (.long p4), .second, .val (.int ((1 : Int32) + (p1 &&& (1 : Int32)))), .unset, .unset, .unset, .unset, .unset, .unset, .unset, .unset, .unset, .unset, .unset, .unset] [])) t → Steps p.tables e below (s₁.setTop (entryFrame m #[(.int p1), (.int p2), (.int p3), (.long p4)] maxLocals)) t := by
    intro t k
    refine pre0 t ?_
    refine XS.iconst X0.here hx rfl (hb hby at_0) ?_
    refine XS.iloadN X0.here hx rfl (hb hby at_1) rfl ?_
    refine XS.iconst X0.here hx rfl (hb hby at_2) ?_
    show Steps p.tables e below (s₁.setTop (mkF m 3 #[.val (.int p1), .val (.int p2), .val (.int p3), .val (.long p4), .second, .unset, .unset, .unset, .unset, .unset, .unset, .unset, .unset, .unset, .unset, .unset, .unset, .unset] [(.int (1 : Int32)), (.int p1), (.int (1 : Int32))])) _
    refine XS.iand X0.here hx rfl (hb hby at_3) rfl ?_
    refine XS.iadd X0.here hx rfl (hb hby at_4) rfl ?_
    refine XS.istore X0.here hx rfl (hb hby at_5) rfl (l' := #[.val (.int p1), .val (.int p2), .val (.int p3), .val (.long p4), .second, .val (.int ((1 : Int32) + (p1 &&& (1 : Int32)))), .unset, .unset, .unset, .unset, .unset, .unset, .unset, .unset, .unset, .unset, .unset, .unset]) rfl ?_
    exact k
  obtain ⟨pr, h_pr⟩ : ∃ z : Int32, z = ((1 : Int32) + (p1 &&& (1 : Int32))) := ⟨_, rfl⟩
  rw [← h_pr] at C391
  have hpr : pr.toInt = ((2 : Nat) : Int) := by rw [h_pr]; exact hm
  have C392 : ∀ t, Steps p.tables e below (s₁.setTop (mkF m 14 #[.val (.int p1), .val (.int p2), .val (.int p3), .val (.long p4), .second, .val (.int pr), .val (.int (((p1.toUInt32 >>> ((1 : Int32) &&& 31).toUInt32).toInt32) - (((p1.toUInt32 >>> ((1 : Int32) &&& 31).toUInt32).toInt32) / (3 : Int32)) * (3 : Int32))), .unset, .unset, .unset, .unset, .unset, .unset, .unset, .unset, .unset, .unset, .unset] [])) t → Steps p.tables e below (s₁.setTop (entryFrame m #[(.int p1), (.int p2), (.int p3), (.long p4)] maxLocals)) t := by
    intro t k
    refine C391 t ?_
    refine XS.iloadN X0.here hx rfl (hb hby at_7) rfl ?_
    refine XS.iconst X0.here hx rfl (hb hby at_8) ?_
    refine XS.iushr X0.here hx rfl (hb hby at_9) rfl ?_
    show Steps p.tables e below (s₁.setTop (mkF m 10 #[.val (.int p1), .val (.int p2), .val (.int p3), .val (.long p4), .second, .val (.int pr), .unset, .unset, .unset, .unset, .unset, .unset, .unset, .unset, .unset, .unset, .unset, .unset] [(.int ((p1.toUInt32 >>> ((1 : Int32) &&& 31).toUInt32).toInt32))])) _
    refine XS.iconst X0.here hx rfl (hb hby at_10) ?_
    refine XS.irem X0.here hx rfl (hb hby at_11) rfl (by decide) ?_
    refine XS.istore X0.here hx rfl (hb hby at_12) rfl (l' := #[.val (.int p1), .val (.int p2), .val (.int p3), .val (.long p4), .second, .val (.int pr), .val (.int (((p1.toUInt32 >>> ((1 : Int32) &&& 31).toUInt32).toInt32) - (((p1.toUInt32 >>> ((1 : Int32) &&& 31).toUInt32).toInt32) / (3 : Int32)) * (3 : Int32))), .unset, .unset, .unset, .unset, .unset, .unset, .unset, .unset, .unset, .unset, .unset]) rfl ?_
    exact k
  obtain ⟨sg, h_sg⟩ : ∃ z : Int32, z = (((p1.toUInt32 >>> ((1 : Int32) &&& 31).toUInt32).toInt32) - (((p1.toUInt32 >>> ((1 : Int32) &&& 31).toUInt32).toInt32) / (3 : Int32)) * (3 : Int32)) := ⟨_, rfl⟩
  rw [← h_sg] at C392
  have hsg : sg.toInt = ((2 : Nat) : Int) := by rw [h_sg]; exact hs
  have hct0 : (((2 : Int32) * pr) + sg).toInt = ((6 : Nat) : Int) := by have y := own_add_c (own_two_c hpr (by decide) (by decide)) hsg (by decide) (by decide); exact y
  have C393 : ∀ t, Steps p.tables e below (s₁.setTop (mkF m 23 #[.val (.int p1), .val (.int p2), .val (.int p3), .val (.long p4), .second, .val (.int pr), .val (.int sg), .val (.int (((2 : Int32) * pr) + sg)), .unset, .unset, .unset, .unset, .unset, .unset, .unset, .unset, .unset, .unset] [])) t → Steps p.tables e below (s₁.setTop (entryFrame m #[(.int p1), (.int p2), (.int p3), (.long p4)] maxLocals)) t := by
    intro t k
    refine C392 t ?_
    refine XS.iconst X0.here hx rfl (hb hby at_14) ?_
    refine XS.iload X0.here hx rfl (hb hby at_15) rfl ?_
    refine XS.imul X0.here hx rfl (hb hby at_17) rfl ?_
    show Steps p.tables e below (s₁.setTop (mkF m 18 #[.val (.int p1), .val (.int p2), .val (.int p3), .val (.long p4), .second, .val (.int pr), .val (.int sg), .unset, .unset, .unset, .unset, .unset, .unset, .unset, .unset, .unset, .unset, .unset] [(.int ((2 : Int32) * pr))])) _
    refine XS.iload X0.here hx rfl (hb hby at_18) rfl ?_
    refine XS.iadd X0.here hx rfl (hb hby at_20) rfl ?_
    refine XS.istore X0.here hx rfl (hb hby at_21) rfl (l' := #[.val (.int p1), .val (.int p2), .val (.int p3), .val (.long p4), .second, .val (.int pr), .val (.int sg), .val (.int (((2 : Int32) * pr) + sg)), .unset, .unset, .unset, .unset, .unset, .unset, .unset, .unset, .unset, .unset]) rfl ?_
    exact k
  obtain ⟨ct, h_ct⟩ : ∃ z : Int32, z = (((2 : Int32) * pr) + sg) := ⟨_, rfl⟩
  rw [← h_ct] at C393
  have hct := hct0
  rw [← h_ct] at hct
  have C394 : ∀ t, Steps p.tables e below (s₁.setTop (mkF m 31 #[.val (.int p1), .val (.int p2), .val (.int p3), .val (.long p4), .second, .val (.int pr), .val (.int sg), .val (.int ct), .val (.int ((p2 &&& (2147483647 : Int32)) - ((p2 &&& (2147483647 : Int32)) / (3 : Int32)) * (3 : Int32))), .unset, .unset, .unset, .unset, .unset, .unset, .unset, .unset, .unset] [])) t → Steps p.tables e below (s₁.setTop (entryFrame m #[(.int p1), (.int p2), (.int p3), (.long p4)] maxLocals)) t := by
    intro t k
    refine C393 t ?_
    refine XS.iloadN X0.here hx rfl (hb hby at_23) rfl ?_
    refine X0.ldcInt hx hown (mvT hZ (hw _ (List.mem_of_getElem? (i := 0) rfl))) (g := (mkF m 24 #[.val (.int p1), .val (.int p2), .val (.int p3), .val (.long p4), .second, .val (.int pr), .val (.int sg), .val (.int ct), .unset, .unset, .unset, .unset, .unset, .unset, .unset, .unset, .unset, .unset] [(.int p2)])) rfl (hb hby at_24) _ ?_
    refine XS.iand X0.here hx rfl (hb hby at_26) rfl ?_
    show Steps p.tables e below (s₁.setTop (mkF m 27 #[.val (.int p1), .val (.int p2), .val (.int p3), .val (.long p4), .second, .val (.int pr), .val (.int sg), .val (.int ct), .unset, .unset, .unset, .unset, .unset, .unset, .unset, .unset, .unset, .unset] [(.int (p2 &&& (2147483647 : Int32)))])) _
    refine XS.iconst X0.here hx rfl (hb hby at_27) ?_
    refine XS.irem X0.here hx rfl (hb hby at_28) rfl (by decide) ?_
    refine XS.istore X0.here hx rfl (hb hby at_29) rfl (l' := #[.val (.int p1), .val (.int p2), .val (.int p3), .val (.long p4), .second, .val (.int pr), .val (.int sg), .val (.int ct), .val (.int ((p2 &&& (2147483647 : Int32)) - ((p2 &&& (2147483647 : Int32)) / (3 : Int32)) * (3 : Int32))), .unset, .unset, .unset, .unset, .unset, .unset, .unset, .unset, .unset]) rfl ?_
    exact k
  obtain ⟨ai, h_ai⟩ : ∃ z : Int32, z = ((p2 &&& (2147483647 : Int32)) - ((p2 &&& (2147483647 : Int32)) / (3 : Int32)) * (3 : Int32)) := ⟨_, rfl⟩
  rw [← h_ai] at C394
  have hai := own_ai p2
  rw [← h_ai] at hai
  have h3a := own_sub_c (show (3 : Int32).toInt = 3 from rfl) (rfl : ai.toInt = ai.toInt) (by omega) (by omega)
  have hnz : (3 : Int32) - ai ≠ 0 := fun y => by rw [y, show (0 : Int32).toInt = 0 from rfl] at h3a; omega
  have C395 : ∀ t, Steps p.tables e below (s₁.setTop (mkF m 47 #[.val (.int p1), .val (.int p2), .val (.int p3), .val (.long p4), .second, .val (.int pr), .val (.int sg), .val (.int ct), .val (.int ai), .val (.int ((ai + (1 : Int32)) + ((p3 &&& (2147483647 : Int32)) - ((p3 &&& (2147483647 : Int32)) / ((3 : Int32) - ai)) * ((3 : Int32) - ai)))), .unset, .unset, .unset, .unset, .unset, .unset, .unset, .unset] [])) t → Steps p.tables e below (s₁.setTop (entryFrame m #[(.int p1), (.int p2), (.int p3), (.long p4)] maxLocals)) t := by
    intro t k
    refine C394 t ?_
    refine XS.iload X0.here hx rfl (hb hby at_31) rfl ?_
    refine XS.iconst X0.here hx rfl (hb hby at_33) ?_
    refine XS.iadd X0.here hx rfl (hb hby at_34) rfl ?_
    show Steps p.tables e below (s₁.setTop (mkF m 35 #[.val (.int p1), .val (.int p2), .val (.int p3), .val (.long p4), .second, .val (.int pr), .val (.int sg), .val (.int ct), .val (.int ai), .unset, .unset, .unset, .unset, .unset, .unset, .unset, .unset, .unset] [(.int (ai + (1 : Int32)))])) _
    refine XS.iloadN X0.here hx rfl (hb hby at_35) rfl ?_
    refine X0.ldcInt hx hown (mvT hZ (hw _ (List.mem_of_getElem? (i := 0) rfl))) (g := (mkF m 36 #[.val (.int p1), .val (.int p2), .val (.int p3), .val (.long p4), .second, .val (.int pr), .val (.int sg), .val (.int ct), .val (.int ai), .unset, .unset, .unset, .unset, .unset, .unset, .unset, .unset, .unset] [(.int p3), (.int (ai + (1 : Int32)))])) rfl (hb hby at_36) _ ?_
    refine XS.iand X0.here hx rfl (hb hby at_38) rfl ?_
    refine XS.iconst X0.here hx rfl (hb hby at_39) ?_
    show Steps p.tables e below (s₁.setTop (mkF m 40 #[.val (.int p1), .val (.int p2), .val (.int p3), .val (.long p4), .second, .val (.int pr), .val (.int sg), .val (.int ct), .val (.int ai), .unset, .unset, .unset, .unset, .unset, .unset, .unset, .unset, .unset] [(.int (3 : Int32)), (.int (p3 &&& (2147483647 : Int32))), (.int (ai + (1 : Int32)))])) _
    refine XS.iload X0.here hx rfl (hb hby at_40) rfl ?_
    refine XS.isub X0.here hx rfl (hb hby at_42) rfl ?_
    refine XS.irem X0.here hx rfl (hb hby at_43) rfl hnz ?_
    refine XS.iadd X0.here hx rfl (hb hby at_44) rfl ?_
    show Steps p.tables e below (s₁.setTop (mkF m 45 #[.val (.int p1), .val (.int p2), .val (.int p3), .val (.long p4), .second, .val (.int pr), .val (.int sg), .val (.int ct), .val (.int ai), .unset, .unset, .unset, .unset, .unset, .unset, .unset, .unset, .unset] [(.int ((ai + (1 : Int32)) + ((p3 &&& (2147483647 : Int32)) - ((p3 &&& (2147483647 : Int32)) / ((3 : Int32) - ai)) * ((3 : Int32) - ai))))])) _
    refine XS.istore X0.here hx rfl (hb hby at_45) rfl (l' := #[.val (.int p1), .val (.int p2), .val (.int p3), .val (.long p4), .second, .val (.int pr), .val (.int sg), .val (.int ct), .val (.int ai), .val (.int ((ai + (1 : Int32)) + ((p3 &&& (2147483647 : Int32)) - ((p3 &&& (2147483647 : Int32)) / ((3 : Int32) - ai)) * ((3 : Int32) - ai)))), .unset, .unset, .unset, .unset, .unset, .unset, .unset, .unset]) rfl ?_
    exact k
  obtain ⟨bi, h_bi⟩ : ∃ z : Int32, z = ((ai + (1 : Int32)) + ((p3 &&& (2147483647 : Int32)) - ((p3 &&& (2147483647 : Int32)) / ((3 : Int32) - ai)) * ((3 : Int32) - ai))) := ⟨_, rfl⟩
  rw [← h_bi] at C395
  have hbi := own_bi p3 hai
  rw [← h_bi] at hbi
  obtain ⟨na, hna⟩ : ∃ y : Nat, y = ai.toInt.toNat := ⟨_, rfl⟩
  obtain ⟨nb, hnb⟩ : ∃ y : Nat, y = bi.toInt.toNat := ⟨_, rfl⟩
  have hA : ai.toInt = (na : Int) := by omega
  have hB : bi.toInt = (nb : Int) := by omega
  have hab : na < nb := by omega
  have hb4 : nb < 4 := by omega
  have hAB : ai ≠ bi := fun y => by rw [y] at hA; omega
  have hia : ¬ ai < 0 ∧ ai.toNatClampNeg < 4 := own_idx hA (by omega)
  have hib : ¬ bi < 0 ∧ bi.toNatClampNeg < 4 := own_idx hB hb4
  have C396 : ∀ t, Steps p.tables e below (s₁.setTop (mkF m 48 #[.val (.int p1), .val (.int p2), .val (.int p3), .val (.long p4), .second, .val (.int pr), .val (.int sg), .val (.int ct), .val (.int ai), .val (.int bi), .unset, .unset, .unset, .unset, .unset, .unset, .unset, .unset] [(.int (4 : Int32))])) t → Steps p.tables e below (s₁.setTop (entryFrame m #[(.int p1), (.int p2), (.int p3), (.long p4)] maxLocals)) t := by
    intro t k
    refine C395 t ?_
    refine XS.iconst X0.here hx rfl (hb hby at_47) ?_
    exact k
  obtain ⟨T397, h397, k397, X397, e397, E397, A397, st397⟩ := newP X0 hx hZ (hw _ (List.mem_of_getElem? (i := 1) rfl)) e0 (g := (mkF m 48 #[.val (.int p1), .val (.int p2), .val (.int p3), .val (.long p4), .second, .val (.int pr), .val (.int sg), .val (.int ct), .val (.int ai), .val (.int bi), .unset, .unset, .unset, .unset, .unset, .unset, .unset, .unset] [(.int (4 : Int32))])) rfl (hb hby at_48) rfl (by decide) (cap := 4) (by decide) (by decide) (by decide) (by decide)
  obtain ⟨b397, g397⟩ : ∃ z, z = h0.size := ⟨_, rfl⟩
  rw [← g397] at A397 st397
  have C397 : ∀ t, Steps p.tables e below (T397.setTop (mkF m 50 #[.val (.int p1), .val (.int p2), .val (.int p3), .val (.long p4), .second, .val (.int pr), .val (.int sg), .val (.int ct), .val (.int ai), .val (.int bi), .unset, .unset, .unset, .unset, .unset, .unset, .unset, .unset] [(.ref b397)])) t → Steps p.tables e below (s₁.setTop (entryFrame m #[(.int p1), (.int p2), (.int p3), (.long p4)] maxLocals)) t := fun t k => C396 t (st397 t k)
  have V0 : OwnA Z h397 b397 .double 4 (fun _ => .double 0) := OwnA.new A397 rfl
  have Z1 : n0 ≤ h397.size := Nat.le_trans Z0 E397.1
  have gw : n0 ≤ b397 := Nat.le_trans Z0 (Nat.le_of_eq g397.symm)
  have C398 : ∀ t, Steps p.tables e below (T397.setTop (mkF m 57 #[.val (.int p1), .val (.int p2), .val (.int p3), .val (.long p4), .second, .val (.int pr), .val (.int sg), .val (.int ct), .val (.int ai), .val (.int bi), .val (.ref b397), .unset, .unset, .unset, .unset, .unset, .unset, .unset] [(.double 4607182418800017408), (.int ai), (.ref b397)])) t → Steps p.tables e below (s₁.setTop (entryFrame m #[(.int p1), (.int p2), (.int p3), (.long p4)] maxLocals)) t := by
    intro t k
    refine C397 t ?_
    refine XS.astore X397.here hx rfl (hb hby at_50) rfl rfl (l' := #[.val (.int p1), .val (.int p2), .val (.int p3), .val (.long p4), .second, .val (.int pr), .val (.int sg), .val (.int ct), .val (.int ai), .val (.int bi), .val (.ref b397), .unset, .unset, .unset, .unset, .unset, .unset, .unset]) rfl ?_
    refine XS.aload X397.here hx rfl (hb hby at_52) rfl rfl ?_
    refine XS.iload X397.here hx rfl (hb hby at_54) rfl ?_
    show Steps p.tables e below (T397.setTop (mkF m 56 #[.val (.int p1), .val (.int p2), .val (.int p3), .val (.long p4), .second, .val (.int pr), .val (.int sg), .val (.int ct), .val (.int ai), .val (.int bi), .val (.ref b397), .unset, .unset, .unset, .unset, .unset, .unset, .unset] [(.int ai), (.ref b397)])) _
    refine XS.dconst1 X397.here hx rfl (hb hby at_56) (v := 4607182418800017408) rfl ?_
    exact k
  obtain ⟨c399, A399, S399, V399⟩ := id V0
  obtain ⟨T399, h399, X399, e399, W399, st399⟩ := stD X397 hx hZ e397 A399 (j := ai) (own_in hia S399) (g := (mkF m 57 #[.val (.int p1), .val (.int p2), .val (.int p3), .val (.long p4), .second, .val (.int pr), .val (.int sg), .val (.int ct), .val (.int ai), .val (.int bi), .val (.ref b397), .unset, .unset, .unset, .unset, .unset, .unset, .unset] [(.double 4607182418800017408), (.int ai), (.ref b397)])) rfl rfl (hb hby at_57)
  have N399 := Fr.snoc X399 N0 gw
  have C399 : ∀ t, Steps p.tables e below (T399.setTop (mkF m 58 #[.val (.int p1), .val (.int p2), .val (.int p3), .val (.long p4), .second, .val (.int pr), .val (.int sg), .val (.int ct), .val (.int ai), .val (.int bi), .val (.ref b397), .unset, .unset, .unset, .unset, .unset, .unset, .unset] [])) t → Steps p.tables e below (s₁.setTop (entryFrame m #[(.int p1), (.int p2), (.int p3), (.long p4)] maxLocals)) t := fun t k => C398 t (st399 t k)
  have V1 := V0.set W399
  have zb : OwnZ (FP.i2d (ct - (1 : Int32))) ((6 - 1) * Jvm.FP.Core.one64) := by
    have hc1 : (ct - (1 : Int32)).toInt = ((6 - 1 : Nat) : Int) := own_sub_c hct (show (1 : Int32).toInt = 1 from rfl) (by decide) (by decide)
    have y := own_i2d (v := ct - (1 : Int32)) (by rw [hc1]; decide)
    rw [hc1, Int.toNat_natCast] at y
    exact y
  have C400 : ∀ t, Steps p.tables e below (T399.setTop (mkF m 67 #[.val (.int p1), .val (.int p2), .val (.int p3), .val (.long p4), .second, .val (.int pr), .val (.int sg), .val (.int ct), .val (.int ai), .val (.int bi), .val (.ref b397), .unset, .unset, .unset, .unset, .unset, .unset, .unset] [(.double (FP.i2d (ct - (1 : Int32)))), (.int bi), (.ref b397)])) t → Steps p.tables e below (s₁.setTop (entryFrame m #[(.int p1), (.int p2), (.int p3), (.long p4)] maxLocals)) t := by
    intro t k
    refine C399 t ?_
    refine XS.aload X399.here hx rfl (hb hby at_58) rfl rfl ?_
    refine XS.iload X399.here hx rfl (hb hby at_60) rfl ?_
    refine XS.iload X399.here hx rfl (hb hby at_62) rfl ?_
    show Steps p.tables e below (T399.setTop (mkF m 64 #[.val (.int p1), .val (.int p2), .val (.int p3), .val (.long p4), .second, .val (.int pr), .val (.int sg), .val (.int ct), .val (.int ai), .val (.int bi), .val (.ref b397), .unset, .unset, .unset, .unset, .unset, .unset, .unset] [(.int ct), (.int bi), (.ref b397)])) _
    refine XS.iconst X399.here hx rfl (hb hby at_64) ?_
    refine XS.isub X399.here hx rfl (hb hby at_65) rfl ?_
    refine XS.i2dS X399.here hx rfl (hb hby at_66) rfl rfl ?_
    exact k
  obtain ⟨c401, A401, S401, V401⟩ := id V1
  obtain ⟨T401, h401, X401, e401, W401, st401⟩ := stD X399 hx hZ e399 A401 (j := bi) (own_in hib S401) (g := (mkF m 67 #[.val (.int p1), .val (.int p2), .val (.int p3), .val (.long p4), .second, .val (.int pr), .val (.int sg), .val (.int ct), .val (.int ai), .val (.int bi), .val (.ref b397), .unset, .unset, .unset, .unset, .unset, .unset, .unset] [(.double (FP.i2d (ct - (1 : Int32)))), (.int bi), (.ref b397)])) rfl rfl (hb hby at_67)
  have N401 := Fr.snoc X401 N399 gw
  have C401 : ∀ t, Steps p.tables e below (T401.setTop (mkF m 68 #[.val (.int p1), .val (.int p2), .val (.int p3), .val (.long p4), .second, .val (.int pr), .val (.int sg), .val (.int ct), .val (.int ai), .val (.int bi), .val (.ref b397), .unset, .unset, .unset, .unset, .unset, .unset, .unset] [])) t → Steps p.tables e below (s₁.setTop (entryFrame m #[(.int p1), (.int p2), (.int p3), (.long p4)] maxLocals)) t := fun t k => C400 t (st401 t k)
  have V2 : OwnA Z h401 b397 .double 4 (fun i => .double (own_wt na nb (FP.i2d (ct - (1 : Int32))) i)) := (V1.set W401).congr (fun i _ => by rw [own_cl hA, own_cl hB]; exact own_wt_set i)
  have Z2 : n0 ≤ h401.size := by rw [Wr.size W401, Wr.size W399]; exact Z1
  obtain ⟨T402, h402, X402, e402, E402, A402, D402, -, st402⟩ := newO X401 hx hZ hown (hw _ (List.mem_of_getElem? (i := 2) rfl)) (hw _ (List.mem_of_getElem? (i := 3) rfl)) (hw _ (List.mem_of_getElem? (i := 4) rfl)) e401 (g := (mkF m 68 #[.val (.int p1), .val (.int p2), .val (.int p3), .val (.long p4), .second, .val (.int pr), .val (.int sg), .val (.int ct), .val (.int ai), .val (.int bi), .val (.ref b397), .unset, .unset, .unset, .unset, .unset, .unset, .unset] [])) rfl (hb hby at_68) (by decide) (by decide)
  obtain ⟨b402, g402⟩ : ∃ z, z = h401.size := ⟨_, rfl⟩
  rw [← g402] at A402 D402 st402
  have C402 : ∀ t, Steps p.tables e below (T402.setTop (mkF m 71 #[.val (.int p1), .val (.int p2), .val (.int p3), .val (.long p4), .second, .val (.int pr), .val (.int sg), .val (.int ct), .val (.int ai), .val (.int bi), .val (.ref b397), .unset, .unset, .unset, .unset, .unset, .unset, .unset] [(.ref b402)])) t → Steps p.tables e below (s₁.setTop (entryFrame m #[(.int p1), (.int p2), (.int p3), (.long p4)] maxLocals)) t := fun t k => C401 t (st402 t k)
  have F_s0 : Fld Z h402 b402 "com/example/mutatune/mutatune/engine/SeededRandom" "s0" "J" (.long 0) := D402 (Or.inl (hw _ (List.mem_of_getElem? (i := 18) rfl))) (ty := .long) (by decide)
  have F_s1 : Fld Z h402 b402 "com/example/mutatune/mutatune/engine/SeededRandom" "s1" "J" (.long 0) := D402 (Or.inl (hw _ (List.mem_of_getElem? (i := 20) rfl))) (ty := .long) (by decide)
  have F_s2 : Fld Z h402 b402 "com/example/mutatune/mutatune/engine/SeededRandom" "s2" "J" (.long 0) := D402 (Or.inl (hw _ (List.mem_of_getElem? (i := 22) rfl))) (ty := .long) (by decide)
  have F_s3 : Fld Z h402 b402 "com/example/mutatune/mutatune/engine/SeededRandom" "s3" "J" (.long 0) := D402 (Or.inl (hw _ (List.mem_of_getElem? (i := 24) rfl))) (ty := .long) (by decide)
  have Z3 : n0 ≤ h402.size := Nat.le_trans Z2 E402.1
  have gra : n0 ≤ b402 := Nat.le_trans Z2 (Nat.le_of_eq g402.symm)
  have C403 : ∀ t, Steps p.tables e below (T402.setTop (mkF m 73 #[.val (.int p1), .val (.int p2), .val (.int p3), .val (.long p4), .second, .val (.int pr), .val (.int sg), .val (.int ct), .val (.int ai), .val (.int bi), .val (.ref b397), .unset, .unset, .unset, .unset, .unset, .unset, .unset] [(.long p4), (.ref b402), (.ref b402)])) t → Steps p.tables e below (s₁.setTop (entryFrame m #[(.int p1), (.int p2), (.int p3), (.long p4)] maxLocals)) t := by
    intro t k
    refine C402 t ?_
    refine XS.dup X402.here hx rfl (hb hby at_71) rfl rfl ?_
    refine XS.lloadN X402.here hx rfl (hb hby at_72) rfl ?_
    exact k
  obtain ⟨_, _, ⟨T404, L404, k404, n404⟩, -, X404, ⟨Lc404, hQ404, l404, y404, z404⟩, st404⟩ := X402.specialBack hx (y := (⟨"com/example/mutatune/mutatune/engine/SeededRandom", "<init>", "(J)V"⟩ : MethodName)) rfl hown (mvT hZ (hw _ (List.mem_of_getElem? (i := 5) rfl))) (mvT hZ (hw _ (List.mem_of_getElem? (i := 6) rfl))) (mvT hZ (hw _ (List.mem_of_getElem? (i := 7) rfl))) (by decide) (backOf (W := 1) (rm1 l Z a0 hw [] b402 p4 h402 n0 Z3 F_s0 F_s1 F_s2 F_s3 A402 gra) hZ (hw _ (List.mem_of_getElem? (i := 7) rfl)) (hw _ (List.mem_of_getElem? (i := 4) rfl)) (by decide) (by decide)) (g := (mkF m 73 #[.val (.int p1), .val (.int p2), .val (.int p3), .val (.long p4), .second, .val (.int pr), .val (.int sg), .val (.int ct), .val (.int ai), .val (.int bi), .val (.ref b397), .unset, .unset, .unset, .unset, .unset, .unset, .unset] [(.long p4), (.ref b402), (.ref b402)])) rfl (by rw [hml]; rfl) (Steps.refl _) (a := b402) (argsL := [(.long p4)]) (rest := [(.ref b402)]) (lenOf pd8 rfl) rfl (by show 2 * 0 + _ ≤ _; exact Nat.le_of_eq rfl) (hb hby at_73) (fun _ _ => ⟨rfl, e402, (by decide : 2 + 0 ≤ _), (by decide : 8 + 0 ≤ _)⟩)
  dsimp only [Pt.U, Pt.locs, Pt.cells, Pt.slots] at X404 l404 y404 z404 st404 hQ404
  subst l404 y404 z404
  obtain ⟨rfl, N404q, R404, K404⟩ := hQ404
  have N404 := Fr.app N401 N404q
  have C404 : ∀ t, Steps p.tables e below (T404.setTop (mkF m 76 #[.val (.int p1), .val (.int p2), .val (.int p3), .val (.long p4), .second, .val (.int pr), .val (.int sg), .val (.int ct), .val (.int ai), .val (.int bi), .val (.ref b397), .unset, .unset, .unset, .unset, .unset, .unset, .unset] [(.ref b402)])) t → Steps p.tables e below (s₁.setTop (entryFrame m #[(.int p1), (.int p2), (.int p3), (.long p4)] maxLocals)) t := fun t k => C403 t (st404.trans k)
  have Z4 : n0 ≤ T404.heap.size := Nat.le_trans Z3 K404.1
  have V3 := (V2.ext E402).keep K404 (own_nin1 (own_natne (by have y := own_natlt V2.lt; omega)))
  have NZ : OwnNZ (own_mix (p4 + (-7046029254386353131 : Int64))) (own_mix ((p4 + (-7046029254386353131 : Int64)) + (-7046029254386353131 : Int64))) (own_mix (((p4 + (-7046029254386353131 : Int64)) + (-7046029254386353131 : Int64)) + (-7046029254386353131 : Int64))) (own_mix ((((p4 + (-7046029254386353131 : Int64)) + (-7046029254386353131 : Int64)) + (-7046029254386353131 : Int64)) + (-7046029254386353131 : Int64))) := own_seed_nz _ _ _
  have C405 : ∀ t, Steps p.tables e below (T404.setTop (mkF m 78 #[.val (.int p1), .val (.int p2), .val (.int p3), .val (.long p4), .second, .val (.int pr), .val (.int sg), .val (.int ct), .val (.int ai), .val (.int bi), .val (.ref b397), .val (.ref b402), .unset, .unset, .unset, .unset, .unset, .unset] [])) t → Steps p.tables e below (s₁.setTop (entryFrame m #[(.int p1), (.int p2), (.int p3), (.long p4)] maxLocals)) t := by
    intro t k
    refine C404 t ?_
    refine XS.astore X404.here hx rfl (hb hby at_76) rfl rfl (l' := #[.val (.int p1), .val (.int p2), .val (.int p3), .val (.long p4), .second, .val (.int pr), .val (.int sg), .val (.int ct), .val (.int ai), .val (.int bi), .val (.ref b397), .val (.ref b402), .unset, .unset, .unset, .unset, .unset, .unset]) rfl ?_
    exact k
  obtain ⟨T406, h406, X406, e406, E406, A406, D406, -, st406⟩ := newO X404 hx hZ hown (hw _ (List.mem_of_getElem? (i := 25) rfl)) (hw _ (List.mem_of_getElem? (i := 26) rfl)) (hw _ (List.mem_of_getElem? (i := 27) rfl)) rfl (g := (mkF m 78 #[.val (.int p1), .val (.int p2), .val (.int p3), .val (.long p4), .second, .val (.int pr), .val (.int sg), .val (.int ct), .val (.int ai), .val (.int bi), .val (.ref b397), .val (.ref b402), .unset, .unset, .unset, .unset, .unset, .unset] [])) rfl (hb hby at_78) (by decide) (by decide)
  obtain ⟨b406, g406⟩ : ∃ z, z = T404.heap.size := ⟨_, rfl⟩
  rw [← g406] at A406 D406 st406
  have C406 : ∀ t, Steps p.tables e below (T406.setTop (mkF m 81 #[.val (.int p1), .val (.int p2), .val (.int p3), .val (.long p4), .second, .val (.int pr), .val (.int sg), .val (.int ct), .val (.int ai), .val (.int bi), .val (.ref b397), .val (.ref b402), .unset, .unset, .unset, .unset, .unset, .unset] [(.ref b406)])) t → Steps p.tables e below (s₁.setTop (entryFrame m #[(.int p1), (.int p2), (.int p3), (.long p4)] maxLocals)) t := fun t k => C405 t (st406 t k)
  have G1 : Fld Z h406 b406 "com/example/mutatune/mutatune/engine/UniversalSampling" "slots" "[I" .null := D406 (Or.inr (hw _ (List.mem_of_getElem? (i := 52) rfl))) (ty := (.array .int)) (by decide)
  have G2 : Fld Z h406 b406 "com/example/mutatune/mutatune/engine/UniversalSampling" "next" "I" (.int 0) := D406 (Or.inl (hw _ (List.mem_of_getElem? (i := 73) rfl))) (ty := .int) (by decide)
  have Z5 : n0 ≤ h406.size := Nat.le_trans Z4 E406.1
  have gu : n0 ≤ b406 := Nat.le_trans Z4 (Nat.le_of_eq g406.symm)
  have C407 : ∀ t, Steps p.tables e below (T406.setTop (mkF m 90 #[.val (.int p1), .val (.int p2), .val (.int p3), .val (.long p4), .second, .val (.int pr), .val (.int sg), .val (.int ct), .val (.int ai), .val (.int bi), .val (.ref b397), .val (.ref b402), .unset, .unset, .unset, .unset, .unset, .unset] [(.ref b402), (.int sg), (.int pr), (.ref b397), (.ref b406), (.ref b406)])) t → Steps p.tables e below (s₁.setTop (entryFrame m #[(.int p1), (.int p2), (.int p3), (.long p4)] maxLocals)) t := by
    intro t k
    refine C406 t ?_
    refine XS.dup X406.here hx rfl (hb hby at_81) rfl rfl ?_
    refine XS.aload X406.here hx rfl (hb hby at_82) rfl rfl ?_
    refine XS.iload X406.here hx rfl (hb hby at_84) rfl ?_
    show Steps p.tables e below (T406.setTop (mkF m 86 #[.val (.int p1), .val (.int p2), .val (.int p3), .val (.long p4), .second, .val (.int pr), .val (.int sg), .val (.int ct), .val (.int ai), .val (.int bi), .val (.ref b397), .val (.ref b402), .unset, .unset, .unset, .unset, .unset, .unset] [(.int pr), (.ref b397), (.ref b406), (.ref b406)])) _
    refine XS.iload X406.here hx rfl (hb hby at_86) rfl ?_
    refine XS.aload X406.here hx rfl (hb hby at_88) rfl rfl ?_
    exact k
  obtain ⟨_, _, ⟨T408, L408, k408, n408⟩, -, X408, ⟨Lc408, hQ408, l408, y408, z408⟩, st408⟩ := X406.specialBack hx (y := (⟨"com/example/mutatune/mutatune/engine/UniversalSampling", "<init>", "([DIILcom/example/mutatune/mutatune/engine/SeededRandom;)V"⟩ : MethodName)) rfl hown (mvT hZ (hw _ (List.mem_of_getElem? (i := 28) rfl))) (mvT hZ (hw _ (List.mem_of_getElem? (i := 29) rfl))) (mvT hZ (hw _ (List.mem_of_getElem? (i := 30) rfl))) (by decide) (backOf (W := 1) (rm4 l Z a0 hw [] b406 b397 pr sg b402 na nb 6 2 ai bi (FP.i2d (ct - (1 : Int32))) (own_mix (p4 + (-7046029254386353131 : Int64))) (own_mix ((p4 + (-7046029254386353131 : Int64)) + (-7046029254386353131 : Int64))) (own_mix (((p4 + (-7046029254386353131 : Int64)) + (-7046029254386353131 : Int64)) + (-7046029254386353131 : Int64))) (own_mix ((((p4 + (-7046029254386353131 : Int64)) + (-7046029254386353131 : Int64)) + (-7046029254386353131 : Int64)) + (-7046029254386353131 : Int64))) h406 n0 Z5 G1 G2 A406 gu gra (V3.ext E406) (R404.ext E406) NZ hct0 (by decide) (by decide) hab hb4 hA hB hAB zb hpr (by decide) (by decide) (by decide)) hZ (hw _ (List.mem_of_getElem? (i := 30) rfl)) (hw _ (List.mem_of_getElem? (i := 27) rfl)) (by decide) (by decide)) (g := (mkF m 90 #[.val (.int p1), .val (.int p2), .val (.int p3), .val (.long p4), .second, .val (.int pr), .val (.int sg), .val (.int ct), .val (.int ai), .val (.int bi), .val (.ref b397), .val (.ref b402), .unset, .unset, .unset, .unset, .unset, .unset] [(.ref b402), (.int sg), (.int pr), (.ref b397), (.ref b406), (.ref b406)])) rfl (by rw [hml]; rfl) (Steps.refl _) (a := b406) (argsL := [(.ref b397), (.int pr), (.int sg), (.ref b402)]) (rest := [(.ref b406)]) (lenOf pd9 rfl) rfl (by show 2 * 0 + _ ≤ _; exact Nat.le_of_eq rfl) (hb hby at_90) (fun _ _ => ⟨rfl, e406, (by decide : 3 + 1 ≤ _), (by decide : 10 + 6 ≤ _)⟩)
  dsimp only [Pt.U, Pt.locs, Pt.cells, Pt.slots] at X408 l408 y408 z408 st408 hQ408
  subst l408 y408 z408
  obtain ⟨rfl, N408q, r, q, U408, hq, fr408, s408⟩ := hQ408
  have N408 := Fr.app N404 N408q
  have C408 : ∀ t, Steps p.tables e below (T408.setTop (mkF m 93 #[.val (.int p1), .val (.int p2), .val (.int p3), .val (.long p4), .second, .val (.int pr), .val (.int sg), .val (.int ct), .val (.int ai), .val (.int bi), .val (.ref b397), .val (.ref b402), .unset, .unset, .unset, .unset, .unset, .unset] [(.ref b406)])) t → Steps p.tables e below (s₁.setTop (entryFrame m #[(.int p1), (.int p2), (.int p3), (.long p4)] maxLocals)) t := fun t k => C407 t (st408.trans k)
  have Z6 : n0 ≤ T408.heap.size := Nat.le_trans Z5 s408
  obtain ⟨y0, hy0⟩ : ∃ y : Int32, y = (if 0 = q then ai else bi) := ⟨_, rfl⟩
  obtain ⟨y1, hy1⟩ : ∃ y : Int32, y = (if 1 = q then ai else bi) := ⟨_, rfl⟩
  obtain ⟨y2, hy2⟩ : ∃ y : Int32, y = (if 2 = q then ai else bi) := ⟨_, rfl⟩
  obtain ⟨y3, hy3⟩ : ∃ y : Int32, y = (if 3 = q then ai else bi) := ⟨_, rfl⟩
  obtain ⟨y4, hy4⟩ : ∃ y : Int32, y = (if 4 = q then ai else bi) := ⟨_, rfl⟩
  obtain ⟨y5, hy5⟩ : ∃ y : Int32, y = (if 5 = q then ai else bi) := ⟨_, rfl⟩
  have C409 : ∀ t, Steps p.tables e below (T408.setTop (mkF m 99 #[.val (.int p1), .val (.int p2), .val (.int p3), .val (.long p4), .second, .val (.int pr), .val (.int sg), .val (.int ct), .val (.int ai), .val (.int bi), .val (.ref b397), .val (.ref b402), .val (.ref b406), .unset, .unset, .unset, .unset, .unset] [(.ref b402), (.ref b406)])) t → Steps p.tables e below (s₁.setTop (entryFrame m #[(.int p1), (.int p2), (.int p3), (.long p4)] maxLocals)) t := by
    intro t k
    refine C408 t ?_
    refine XS.astore X408.here hx rfl (hb hby at_93) rfl rfl (l' := #[.val (.int p1), .val (.int p2), .val (.int p3), .val (.long p4), .second, .val (.int pr), .val (.int sg), .val (.int ct), .val (.int ai), .val (.int bi), .val (.ref b397), .val (.ref b402), .val (.ref b406), .unset, .unset, .unset, .unset, .unset]) rfl ?_
    refine XS.aload X408.here hx rfl (hb hby at_95) rfl rfl ?_
    refine XS.aload X408.here hx rfl (hb hby at_97) rfl rfl ?_
    exact k
  obtain ⟨cq410, kq410, q410a, q410b, q410c⟩ := isOf hZ rfl U408.1
  obtain ⟨_, _, ⟨T410, L410, k410, n410⟩, -, X410, ⟨Lc410, hQ410, l410, y410, z410⟩, st410⟩ := X408.virtualBack hx (y := (⟨"com/example/mutatune/mutatune/engine/UniversalSampling", "pair", "(Lcom/example/mutatune/mutatune/engine/SeededRandom;)[I"⟩ : MethodName)) (z := (⟨"com/example/mutatune/mutatune/engine/UniversalSampling", "pair", "(Lcom/example/mutatune/mutatune/engine/SeededRandom;)[I"⟩ : MethodName)) hown (mvT hZ (hw _ (List.mem_of_getElem? (i := 67) rfl))) (mvT hZ (hw _ (List.mem_of_getElem? (i := 68) rfl))) (notFace_of_selects (args := #[]) (mvT hZ (hw _ (List.mem_of_getElem? (i := 70) rfl)))) (mvT hZ (hw _ (List.mem_of_getElem? (i := 70) rfl))) (mvT hZ (hw _ (List.mem_of_getElem? (i := 69) rfl))) (by decide) (backOf (W := 0) (rm12 l Z a0 hw [] b406 b402 r 6 0 1 2 0 q ai bi y0 y1 T408.heap n0 Z6 U408 gu rfl rfl (by decide) (by decide) (by decide) hy0 hy1) hZ (hw _ (List.mem_of_getElem? (i := 71) rfl)) (hw _ (List.mem_of_getElem? (i := 27) rfl)) (by decide) (by decide)) q410a q410c (g := (mkF m 99 #[.val (.int p1), .val (.int p2), .val (.int p3), .val (.long p4), .second, .val (.int pr), .val (.int sg), .val (.int ct), .val (.int ai), .val (.int bi), .val (.ref b397), .val (.ref b402), .val (.ref b406), .unset, .unset, .unset, .unset, .unset] [(.ref b402), (.ref b406)])) rfl (by rw [hml]; rfl) (Steps.refl _) (argsL := [(.ref b402)]) (rest := []) (lenOf pd10 rfl) rfl (by show 2 * 0 + _ ≤ _; exact Nat.le_of_eq rfl) (hb hby at_99) (fun _ _ => ⟨rfl, rfl, (by decide : 4 + 1 ≤ _), (by decide : 16 + 2 ≤ _)⟩)
  dsimp only [Pt.U, Pt.locs, Pt.cells, Pt.slots] at X410 l410 y410 z410 st410 hQ410
  subst l410 y410 z410
  obtain ⟨pa410, rfl, N410q, P410, U410, fp410, K410⟩ := hQ410
  have N410 := Fr.app N408 N410q
  have C410 : ∀ t, Steps p.tables e below (T410.setTop (mkF m 102 #[.val (.int p1), .val (.int p2), .val (.int p3), .val (.long p4), .second, .val (.int pr), .val (.int sg), .val (.int ct), .val (.int ai), .val (.int bi), .val (.ref b397), .val (.ref b402), .val (.ref b406), .unset, .unset, .unset, .unset, .unset] [(.ref pa410)])) t → Steps p.tables e below (s₁.setTop (entryFrame m #[(.int p1), (.int p2), (.int p3), (.long p4)] maxLocals)) t := fun t k => C409 t (st410.trans k)
  have Z410 : n0 ≤ T410.heap.size := Nat.le_trans Z6 K410.1
  have C411 : ∀ t, Steps p.tables e below (T410.setTop (mkF m 114 #[.val (.int p1), .val (.int p2), .val (.int p3), .val (.long p4), .second, .val (.int pr), .val (.int sg), .val (.int ct), .val (.int ai), .val (.int bi), .val (.ref b397), .val (.ref b402), .val (.ref b406), .val (.ref pa410), .unset, .unset, .unset, .unset] [(.ref b402), (.ref b406)])) t → Steps p.tables e below (s₁.setTop (entryFrame m #[(.int p1), (.int p2), (.int p3), (.long p4)] maxLocals)) t := by
    intro t k
    refine C410 t ?_
    refine XS.astore X410.here hx rfl (hb hby at_102) rfl rfl (l' := #[.val (.int p1), .val (.int p2), .val (.int p3), .val (.long p4), .second, .val (.int pr), .val (.int sg), .val (.int ct), .val (.int ai), .val (.int bi), .val (.ref b397), .val (.ref b402), .val (.ref b406), .val (.ref pa410), .unset, .unset, .unset, .unset]) rfl ?_
    refine XS.iload X410.here hx rfl (hb hby at_104) rfl ?_
    refine XS.iconst X410.here hx rfl (hb hby at_106) ?_
    show Steps p.tables e below (T410.setTop (mkF m 107 #[.val (.int p1), .val (.int p2), .val (.int p3), .val (.long p4), .second, .val (.int pr), .val (.int sg), .val (.int ct), .val (.int ai), .val (.int bi), .val (.ref b397), .val (.ref b402), .val (.ref b406), .val (.ref pa410), .unset, .unset, .unset, .unset] [(.int (2 : Int32)), (.int pr)])) _
    refine XS.icmpNo X410.here hx rfl (hb hby at_107) rfl (XT.ii_lt_f (by rw [own_lt32, hpr]; decide)) ?_
    refine XS.aload X410.here hx rfl (hb hby at_110) rfl rfl ?_
    refine XS.aload X410.here hx rfl (hb hby at_112) rfl rfl ?_
    exact k
  obtain ⟨cq412, kq412, q412a, q412b, q412c⟩ := isOf hZ rfl U410.1
  obtain ⟨_, _, ⟨T412, L412, k412, n412⟩, -, X412, ⟨Lc412, hQ412, l412, y412, z412⟩, st412⟩ := X410.virtualBack hx (y := (⟨"com/example/mutatune/mutatune/engine/UniversalSampling", "pair", "(Lcom/example/mutatune/mutatune/engine/SeededRandom;)[I"⟩ : MethodName)) (z := (⟨"com/example/mutatune/mutatune/engine/UniversalSampling", "pair", "(Lcom/example/mutatune/mutatune/engine/SeededRandom;)[I"⟩ : MethodName)) hown (mvT hZ (hw _ (List.mem_of_getElem? (i := 67) rfl))) (mvT hZ (hw _ (List.mem_of_getElem? (i := 68) rfl))) (notFace_of_selects (args := #[]) (mvT hZ (hw _ (List.mem_of_getElem? (i := 70) rfl)))) (mvT hZ (hw _ (List.mem_of_getElem? (i := 70) rfl))) (mvT hZ (hw _ (List.mem_of_getElem? (i := 69) rfl))) (by decide) (backOf (W := 0) (rm12 l Z a0 hw [] b406 b402 r 6 2 3 4 2 q ai bi y2 y3 T410.heap n0 Z410 U410 gu rfl rfl (by decide) (by decide) (by decide) hy2 hy3) hZ (hw _ (List.mem_of_getElem? (i := 71) rfl)) (hw _ (List.mem_of_getElem? (i := 27) rfl)) (by decide) (by decide)) q412a q412c (g := (mkF m 114 #[.val (.int p1), .val (.int p2), .val (.int p3), .val (.long p4), .second, .val (.int pr), .val (.int sg), .val (.int ct), .val (.int ai), .val (.int bi), .val (.ref b397), .val (.ref b402), .val (.ref b406), .val (.ref pa410), .unset, .unset, .unset, .unset] [(.ref b402), (.ref b406)])) rfl (by rw [hml]; rfl) (Steps.refl _) (argsL := [(.ref b402)]) (rest := []) (lenOf pd10 rfl) rfl (by show 2 * 0 + _ ≤ _; exact Nat.le_of_eq rfl) (hb hby at_114) (fun _ _ => ⟨rfl, rfl, (by decide : 5 + 1 ≤ _), (by decide : 18 + 2 ≤ _)⟩)
  dsimp only [Pt.U, Pt.locs, Pt.cells, Pt.slots] at X412 l412 y412 z412 st412 hQ412
  subst l412 y412 z412
  obtain ⟨pa412, rfl, N412q, P412, U412, fp412, K412⟩ := hQ412
  have N412 := Fr.app N410 N412q
  have C412 : ∀ t, Steps p.tables e below (T412.setTop (mkF m 117 #[.val (.int p1), .val (.int p2), .val (.int p3), .val (.long p4), .second, .val (.int pr), .val (.int sg), .val (.int ct), .val (.int ai), .val (.int bi), .val (.ref b397), .val (.ref b402), .val (.ref b406), .val (.ref pa410), .unset, .unset, .unset, .unset] [(.ref pa412)])) t → Steps p.tables e below (s₁.setTop (entryFrame m #[(.int p1), (.int p2), (.int p3), (.long p4)] maxLocals)) t := fun t k => C411 t (st412.trans k)
  have Z412 : n0 ≤ T412.heap.size := Nat.le_trans Z410 K412.1
  have P0k := P410.keep K412 (own_nin1 (Ne.symm (own_ne U410.1 (hw _ (List.mem_of_getElem? (i := 26) rfl)) P410)))
  have hyb4 : y4 = bi := by rw [hy4, if_neg (by omega)]
  have C413 : ∀ t, Steps p.tables e below (T412.setTop (mkF m 145 #[.val (.int p1), .val (.int p2), .val (.int p3), .val (.long p4), .second, .val (.int pr), .val (.int sg), .val (.int ct), .val (.int ai), .val (.int bi), .val (.ref b397), .val (.ref b402), .val (.ref b406), .val (.ref pa410), .val (.ref pa412), .unset, .unset, .unset] [(.ref b402), (.ref b406)])) t → Steps p.tables e below (s₁.setTop (entryFrame m #[(.int p1), (.int p2), (.int p3), (.long p4)] maxLocals)) t := by
    intro t k
    refine C412 t ?_
    refine XS.goto X412.here hx rfl (pc0 := 117) (pc' := 133) rfl (hb hby at_117) (by decide) (by decide) ?_
    refine XS.astore X412.here hx rfl (hb hby at_133) rfl rfl (l' := #[.val (.int p1), .val (.int p2), .val (.int p3), .val (.long p4), .second, .val (.int pr), .val (.int sg), .val (.int ct), .val (.int ai), .val (.int bi), .val (.ref b397), .val (.ref b402), .val (.ref b406), .val (.ref pa410), .val (.ref pa412), .unset, .unset, .unset]) rfl ?_
    refine XS.iload X412.here hx rfl (hb hby at_135) rfl ?_
    show Steps p.tables e below (T412.setTop (mkF m 137 #[.val (.int p1), .val (.int p2), .val (.int p3), .val (.long p4), .second, .val (.int pr), .val (.int sg), .val (.int ct), .val (.int ai), .val (.int bi), .val (.ref b397), .val (.ref b402), .val (.ref b406), .val (.ref pa410), .val (.ref pa412), .unset, .unset, .unset] [(.int sg)])) _
    refine XS.iconst X412.here hx rfl (hb hby at_137) ?_
    refine XS.icmpNo X412.here hx rfl (hb hby at_138) rfl (XT.ii_lt_f (by rw [own_lt32, hsg]; decide)) ?_
    refine XS.aload X412.here hx rfl (hb hby at_141) rfl rfl ?_
    refine XS.aload X412.here hx rfl (hb hby at_143) rfl rfl ?_
    exact k
  obtain ⟨cq414, kq414, q414a, q414b, q414c⟩ := isOf hZ rfl U412.1
  obtain ⟨_, _, ⟨T414, L414, k414, n414⟩, -, X414, ⟨Lc414, hQ414, l414, y414, z414⟩, st414⟩ := X412.virtualBack hx (y := (⟨"com/example/mutatune/mutatune/engine/UniversalSampling", "single", "(Lcom/example/mutatune/mutatune/engine/SeededRandom;)I"⟩ : MethodName)) (z := (⟨"com/example/mutatune/mutatune/engine/UniversalSampling", "single", "(Lcom/example/mutatune/mutatune/engine/SeededRandom;)I"⟩ : MethodName)) hown (mvT hZ (hw _ (List.mem_of_getElem? (i := 78) rfl))) (mvT hZ (hw _ (List.mem_of_getElem? (i := 79) rfl))) (notFace_of_selects (args := #[]) (mvT hZ (hw _ (List.mem_of_getElem? (i := 81) rfl)))) (mvT hZ (hw _ (List.mem_of_getElem? (i := 81) rfl))) (mvT hZ (hw _ (List.mem_of_getElem? (i := 80) rfl))) (by decide) (backOf (W := 0) (rm14 l Z a0 hw [] b406 b402 r 6 4 5 4 q ai bi y4 T412.heap n0 Z412 U412 gu rfl (by decide) (by decide) hy4) hZ (hw _ (List.mem_of_getElem? (i := 82) rfl)) (hw _ (List.mem_of_getElem? (i := 27) rfl)) (by decide) (by decide)) q414a q414c (g := (mkF m 145 #[.val (.int p1), .val (.int p2), .val (.int p3), .val (.long p4), .second, .val (.int pr), .val (.int sg), .val (.int ct), .val (.int ai), .val (.int bi), .val (.ref b397), .val (.ref b402), .val (.ref b406), .val (.ref pa410), .val (.ref pa412), .unset, .unset, .unset] [(.ref b402), (.ref b406)])) rfl (by rw [hml]; rfl) (Steps.refl _) (argsL := [(.ref b402)]) (rest := []) (lenOf pd12 rfl) rfl (by show 2 * 0 + _ ≤ _; exact Nat.le_of_eq rfl) (hb hby at_145) (fun _ _ => ⟨rfl, rfl, (by decide : 6 + 0 ≤ _), (by decide : 20 + 0 ≤ _)⟩)
  dsimp only [Pt.U, Pt.locs, Pt.cells, Pt.slots] at X414 l414 y414 z414 st414 hQ414
  subst l414 y414 z414
  obtain ⟨rfl, N414q, U414, s414, K414⟩ := hQ414
  have N414 := Fr.app N412 N414q
  have C414 : ∀ t, Steps p.tables e below (T414.setTop (mkF m 148 #[.val (.int p1), .val (.int p2), .val (.int p3), .val (.long p4), .second, .val (.int pr), .val (.int sg), .val (.int ct), .val (.int ai), .val (.int bi), .val (.ref b397), .val (.ref b402), .val (.ref b406), .val (.ref pa410), .val (.ref pa412), .unset, .unset, .unset] [(.int y4)])) t → Steps p.tables e below (s₁.setTop (entryFrame m #[(.int p1), (.int p2), (.int p3), (.long p4)] maxLocals)) t := fun t k => C413 t (st414.trans k)
  have Z414 : n0 ≤ T414.heap.size := Nat.le_trans Z412 s414
  have P0k_414 := P0k.keep K414 (own_nin1 (Ne.symm (own_ne U412.1 (hw _ (List.mem_of_getElem? (i := 26) rfl)) P0k)))
  have P412_414 := P412.keep K414 (own_nin1 (Ne.symm (own_ne U412.1 (hw _ (List.mem_of_getElem? (i := 26) rfl)) P412)))
  rw [hyb4] at C414
  have hyb5 : y5 = bi := by rw [hy5, if_neg (by omega)]
  have C415 : ∀ t, Steps p.tables e below (T414.setTop (mkF m 165 #[.val (.int p1), .val (.int p2), .val (.int p3), .val (.long p4), .second, .val (.int pr), .val (.int sg), .val (.int ct), .val (.int ai), .val (.int bi), .val (.ref b397), .val (.ref b402), .val (.ref b406), .val (.ref pa410), .val (.ref pa412), .val (.int bi), .unset, .unset] [(.ref b402), (.ref b406)])) t → Steps p.tables e below (s₁.setTop (entryFrame m #[(.int p1), (.int p2), (.int p3), (.long p4)] maxLocals)) t := by
    intro t k
    refine C414 t ?_
    refine XS.goto X414.here hx rfl (pc0 := 148) (pc' := 153) rfl (hb hby at_148) (by decide) (by decide) ?_
    refine XS.istore X414.here hx rfl (hb hby at_153) rfl (l' := #[.val (.int p1), .val (.int p2), .val (.int p3), .val (.long p4), .second, .val (.int pr), .val (.int sg), .val (.int ct), .val (.int ai), .val (.int bi), .val (.ref b397), .val (.ref b402), .val (.ref b406), .val (.ref pa410), .val (.ref pa412), .val (.int bi), .unset, .unset]) rfl ?_
    refine XS.iload X414.here hx rfl (hb hby at_155) rfl ?_
    show Steps p.tables e below (T414.setTop (mkF m 157 #[.val (.int p1), .val (.int p2), .val (.int p3), .val (.long p4), .second, .val (.int pr), .val (.int sg), .val (.int ct), .val (.int ai), .val (.int bi), .val (.ref b397), .val (.ref b402), .val (.ref b406), .val (.ref pa410), .val (.ref pa412), .val (.int bi), .unset, .unset] [(.int sg)])) _
    refine XS.iconst X414.here hx rfl (hb hby at_157) ?_
    refine XS.icmpNo X414.here hx rfl (hb hby at_158) rfl (XT.ii_lt_f (by rw [own_lt32, hsg]; decide)) ?_
    refine XS.aload X414.here hx rfl (hb hby at_161) rfl rfl ?_
    refine XS.aload X414.here hx rfl (hb hby at_163) rfl rfl ?_
    exact k
  obtain ⟨cq416, kq416, q416a, q416b, q416c⟩ := isOf hZ rfl U414.1
  obtain ⟨_, _, ⟨T416, L416, k416, n416⟩, -, X416, ⟨Lc416, hQ416, l416, y416, z416⟩, st416⟩ := X414.virtualBack hx (y := (⟨"com/example/mutatune/mutatune/engine/UniversalSampling", "single", "(Lcom/example/mutatune/mutatune/engine/SeededRandom;)I"⟩ : MethodName)) (z := (⟨"com/example/mutatune/mutatune/engine/UniversalSampling", "single", "(Lcom/example/mutatune/mutatune/engine/SeededRandom;)I"⟩ : MethodName)) hown (mvT hZ (hw _ (List.mem_of_getElem? (i := 78) rfl))) (mvT hZ (hw _ (List.mem_of_getElem? (i := 79) rfl))) (notFace_of_selects (args := #[]) (mvT hZ (hw _ (List.mem_of_getElem? (i := 81) rfl)))) (mvT hZ (hw _ (List.mem_of_getElem? (i := 81) rfl))) (mvT hZ (hw _ (List.mem_of_getElem? (i := 80) rfl))) (by decide) (backOf (W := 0) (rm14 l Z a0 hw [] b406 b402 r 6 5 6 5 q ai bi y5 T414.heap n0 Z414 U414 gu rfl (by decide) (by decide) hy5) hZ (hw _ (List.mem_of_getElem? (i := 82) rfl)) (hw _ (List.mem_of_getElem? (i := 27) rfl)) (by decide) (by decide)) q416a q416c (g := (mkF m 165 #[.val (.int p1), .val (.int p2), .val (.int p3), .val (.long p4), .second, .val (.int pr), .val (.int sg), .val (.int ct), .val (.int ai), .val (.int bi), .val (.ref b397), .val (.ref b402), .val (.ref b406), .val (.ref pa410), .val (.ref pa412), .val (.int bi), .unset, .unset] [(.ref b402), (.ref b406)])) rfl (by rw [hml]; rfl) (Steps.refl _) (argsL := [(.ref b402)]) (rest := []) (lenOf pd12 rfl) rfl (by show 2 * 0 + _ ≤ _; exact Nat.le_of_eq rfl) (hb hby at_165) (fun _ _ => ⟨rfl, rfl, (by decide : 6 + 0 ≤ _), (by decide : 20 + 0 ≤ _)⟩)
  dsimp only [Pt.U, Pt.locs, Pt.cells, Pt.slots] at X416 l416 y416 z416 st416 hQ416
  subst l416 y416 z416
  obtain ⟨rfl, N416q, U416, s416, K416⟩ := hQ416
  have N416 := Fr.app N414 N416q
  have C416 : ∀ t, Steps p.tables e below (T416.setTop (mkF m 168 #[.val (.int p1), .val (.int p2), .val (.int p3), .val (.long p4), .second, .val (.int pr), .val (.int sg), .val (.int ct), .val (.int ai), .val (.int bi), .val (.ref b397), .val (.ref b402), .val (.ref b406), .val (.ref pa410), .val (.ref pa412), .val (.int bi), .unset, .unset] [(.int y5)])) t → Steps p.tables e below (s₁.setTop (entryFrame m #[(.int p1), (.int p2), (.int p3), (.long p4)] maxLocals)) t := fun t k => C415 t (st416.trans k)
  have Z416 : n0 ≤ T416.heap.size := Nat.le_trans Z414 s416
  have P0k_414_416 := P0k_414.keep K416 (own_nin1 (Ne.symm (own_ne U414.1 (hw _ (List.mem_of_getElem? (i := 26) rfl)) P0k_414)))
  have P412_414_416 := P412_414.keep K416 (own_nin1 (Ne.symm (own_ne U414.1 (hw _ (List.mem_of_getElem? (i := 26) rfl)) P412_414)))
  rw [hyb5] at C416
  obtain ⟨c417, A417, S417, V417⟩ := id P0k_414_416
  obtain ⟨c418, A418, S418, V418⟩ := id P412_414_416
  obtain ⟨c419, A419, S419, V419⟩ := id P0k_414_416
  obtain ⟨t0, et0, ht0⟩ := own_tal hAB hy0
  have C420 : ∀ t, Steps p.tables e below (T416.setTop (mkF m 209 #[.val (.int p1), .val (.int p2), .val (.int p3), .val (.long p4), .second, .val (.int pr), .val (.int sg), .val (.int ct), .val (.int ai), .val (.int bi), .val (.ref b397), .val (.ref b402), .val (.ref b406), .val (.ref pa410), .val (.ref pa412), .val (.int bi), .val (.int bi), .unset] [(.int bi), (.int ai), (.int y0)])) t → Steps p.tables e below (s₁.setTop (entryFrame m #[(.int p1), (.int p2), (.int p3), (.long p4)] maxLocals)) t := by
    intro t k
    refine C416 t ?_
    refine XS.goto X416.here hx rfl (pc0 := 168) (pc' := 173) rfl (hb hby at_168) (by decide) (by decide) ?_
    refine XS.istore X416.here hx rfl (hb hby at_173) rfl (l' := #[.val (.int p1), .val (.int p2), .val (.int p3), .val (.long p4), .second, .val (.int pr), .val (.int sg), .val (.int ct), .val (.int ai), .val (.int bi), .val (.ref b397), .val (.ref b402), .val (.ref b406), .val (.ref pa410), .val (.ref pa412), .val (.int bi), .val (.int bi), .unset]) rfl ?_
    refine XS.aload X416.here hx rfl (hb hby at_175) rfl rfl ?_
    show Steps p.tables e below (T416.setTop (mkF m 177 #[.val (.int p1), .val (.int p2), .val (.int p3), .val (.long p4), .second, .val (.int pr), .val (.int sg), .val (.int ct), .val (.int ai), .val (.int bi), .val (.ref b397), .val (.ref b402), .val (.ref b406), .val (.ref pa410), .val (.ref pa412), .val (.int bi), .val (.int bi), .unset] [(.ref pa410)])) _
    refine XS.ifnullNo X416.here hx rfl (hb hby at_177) rfl  ?_
    refine XS.aload X416.here hx rfl (hb hby at_180) rfl rfl ?_
    refine XS.ifnullNo X416.here hx rfl (hb hby at_182) rfl  ?_
    refine XS.aload X416.here hx rfl (hb hby at_185) rfl rfl ?_
    show Steps p.tables e below (T416.setTop (mkF m 187 #[.val (.int p1), .val (.int p2), .val (.int p3), .val (.long p4), .second, .val (.int pr), .val (.int sg), .val (.int ct), .val (.int ai), .val (.int bi), .val (.ref b397), .val (.ref b402), .val (.ref b406), .val (.ref pa410), .val (.ref pa412), .val (.int bi), .val (.int bi), .unset] [(.ref pa410)])) _
    refine X416.arraylength hx A417.1 (State.isArrayOf_alike hZ.alike A417.2.1) (g := (mkF m 187 #[.val (.int p1), .val (.int p2), .val (.int p3), .val (.long p4), .second, .val (.int pr), .val (.int sg), .val (.int ct), .val (.int ai), .val (.int bi), .val (.ref b397), .val (.ref b402), .val (.ref b406), .val (.ref pa410), .val (.ref pa412), .val (.int bi), .val (.int bi), .unset] [(.ref pa410)])) rfl rfl (hb hby at_187) _ ?_
    rw [S417, (rfl : (2 : Nat).toInt32 = (2 : Int32))]
    refine XS.iconst X416.here hx rfl (hb hby at_188) ?_
    refine XS.icmpNo X416.here hx rfl (hb hby at_189) rfl (XT.ii_ne_f rfl) ?_
    refine XS.aload X416.here hx rfl (hb hby at_192) rfl rfl ?_
    show Steps p.tables e below (T416.setTop (mkF m 194 #[.val (.int p1), .val (.int p2), .val (.int p3), .val (.long p4), .second, .val (.int pr), .val (.int sg), .val (.int ct), .val (.int ai), .val (.int bi), .val (.ref b397), .val (.ref b402), .val (.ref b406), .val (.ref pa410), .val (.ref pa412), .val (.int bi), .val (.int bi), .unset] [(.ref pa412)])) _
    refine X416.arraylength hx A418.1 (State.isArrayOf_alike hZ.alike A418.2.1) (g := (mkF m 194 #[.val (.int p1), .val (.int p2), .val (.int p3), .val (.long p4), .second, .val (.int pr), .val (.int sg), .val (.int ct), .val (.int ai), .val (.int bi), .val (.ref b397), .val (.ref b402), .val (.ref b406), .val (.ref pa410), .val (.ref pa412), .val (.int bi), .val (.int bi), .unset] [(.ref pa412)])) rfl rfl (hb hby at_194) _ ?_
    rw [S418, (rfl : (2 : Nat).toInt32 = (2 : Int32))]
    refine XS.iconst X416.here hx rfl (hb hby at_195) ?_
    refine XS.icmpYes X416.here hx rfl (pc0 := 196) (pc' := 201) rfl (hb hby at_196) rfl (XT.ii_eq_t rfl) (by decide) (by decide) ?_
    refine XS.aload X416.here hx rfl (hb hby at_201) rfl rfl ?_
    show Steps p.tables e below (T416.setTop (mkF m 203 #[.val (.int p1), .val (.int p2), .val (.int p3), .val (.long p4), .second, .val (.int pr), .val (.int sg), .val (.int ct), .val (.int ai), .val (.int bi), .val (.ref b397), .val (.ref b402), .val (.ref b406), .val (.ref pa410), .val (.ref pa412), .val (.int bi), .val (.int bi), .unset] [(.ref pa410)])) _
    refine XS.iconst X416.here hx rfl (hb hby at_203) ?_
    refine X416.iaload hx (j := (0 : Int32)) (v := (.int y0)) A419.1 (State.isArrayOf_alike hZ.alike A419.2.1) A419.2.2 (own_in own_i20 S419) (V419 _ (own_i20).2) (g := (mkF m 204 #[.val (.int p1), .val (.int p2), .val (.int p3), .val (.long p4), .second, .val (.int pr), .val (.int sg), .val (.int ct), .val (.int ai), .val (.int bi), .val (.ref b397), .val (.ref b402), .val (.ref b406), .val (.ref pa410), .val (.ref pa412), .val (.int bi), .val (.int bi), .unset] [(.int (0 : Int32)), (.ref pa410)])) rfl rfl (hb hby at_204) _ ?_
    refine XS.iload X416.here hx rfl (hb hby at_205) rfl ?_
    refine XS.iload X416.here hx rfl (hb hby at_207) rfl ?_
    exact k
  obtain ⟨_, _, ⟨T421, L421, k421, n421⟩, -, X421, ⟨Lc421, hQ421, l421, y421, z421⟩, st421⟩ := Jvm.LawKit.callS X416 hx (y := (⟨"com/example/mutatune/mutatune/engine/UniversalSamplingPairPinLaw", "tally", "(III)I"⟩ : MethodName)) hown (mvT hZ (hw _ (List.mem_of_getElem? (i := 74) rfl))) (mvT hZ (hw _ (List.mem_of_getElem? (i := 75) rfl))) (mvT hZ (hw _ (List.mem_of_getElem? (i := 76) rfl))) (mvT hZ (hw _ (List.mem_of_getElem? (i := 77) rfl))) (by decide) (backOf (W := 0) (rm13 l Z a0 hw [] y0 ai bi t0 T416.heap n0 Z416 ht0) hZ (hw _ (List.mem_of_getElem? (i := 77) rfl)) (hw _ (List.mem_of_getElem? (i := 76) rfl)) (by decide) (by decide)) (g := (mkF m 209 #[.val (.int p1), .val (.int p2), .val (.int p3), .val (.long p4), .second, .val (.int pr), .val (.int sg), .val (.int ct), .val (.int ai), .val (.int bi), .val (.ref b397), .val (.ref b402), .val (.ref b406), .val (.ref pa410), .val (.ref pa412), .val (.int bi), .val (.int bi), .unset] [(.int bi), (.int ai), (.int y0)])) rfl (by rw [hml]; rfl) (argsL := [(.int y0), (.int ai), (.int bi)]) (rest := []) (lenOf pd11 rfl) rfl (by show 2 * 0 + _ ≤ _; exact Nat.le_of_eq rfl) (hb hby at_209) (fun _ _ => ⟨rfl, rfl, (by decide : 6 + 0 ≤ _), (by decide : 20 + 0 ≤ _)⟩)
  dsimp only [Pt.U, Pt.locs, Pt.cells, Pt.slots] at X421 l421 y421 z421 st421 hQ421
  subst l421 y421 z421
  obtain ⟨rfl, N421q, q421⟩ := hQ421
  have N421 := Fr.app N416 N421q
  have C421 : ∀ t, Steps p.tables e below (T421.setTop (mkF m 212 #[.val (.int p1), .val (.int p2), .val (.int p3), .val (.long p4), .second, .val (.int pr), .val (.int sg), .val (.int ct), .val (.int ai), .val (.int bi), .val (.ref b397), .val (.ref b402), .val (.ref b406), .val (.ref pa410), .val (.ref pa412), .val (.int bi), .val (.int bi), .unset] [(.int t0)])) t → Steps p.tables e below (s₁.setTop (entryFrame m #[(.int p1), (.int p2), (.int p3), (.long p4)] maxLocals)) t := fun t k => C420 t (st421 t k)
  obtain ⟨c422, A422, S422, V422⟩ := id P0k_414_416
  obtain ⟨t1, et1, ht1⟩ := own_tal hAB hy1
  have C423 : ∀ t, Steps p.tables e below (T421.setTop (mkF m 220 #[.val (.int p1), .val (.int p2), .val (.int p3), .val (.long p4), .second, .val (.int pr), .val (.int sg), .val (.int ct), .val (.int ai), .val (.int bi), .val (.ref b397), .val (.ref b402), .val (.ref b406), .val (.ref pa410), .val (.ref pa412), .val (.int bi), .val (.int bi), .unset] [(.int bi), (.int ai), (.int y1), (.int t0)])) t → Steps p.tables e below (s₁.setTop (entryFrame m #[(.int p1), (.int p2), (.int p3), (.long p4)] maxLocals)) t := by
    intro t k
    refine C421 t ?_
    refine XS.aload X421.here hx rfl (hb hby at_212) rfl rfl ?_
    refine XS.iconst X421.here hx rfl (hb hby at_214) ?_
    refine X421.iaload hx (j := (1 : Int32)) (v := (.int y1)) (by rw [q421]; exact A422.1) (State.isArrayOf_alike hZ.alike A422.2.1) A422.2.2 (own_in own_i21 S422) (V422 _ (own_i21).2) (g := (mkF m 215 #[.val (.int p1), .val (.int p2), .val (.int p3), .val (.long p4), .second, .val (.int pr), .val (.int sg), .val (.int ct), .val (.int ai), .val (.int bi), .val (.ref b397), .val (.ref b402), .val (.ref b406), .val (.ref pa410), .val (.ref pa412), .val (.int bi), .val (.int bi), .unset] [(.int (1 : Int32)), (.ref pa410), (.int t0)])) rfl rfl (hb hby at_215) _ ?_
    show Steps p.tables e below (T421.setTop (mkF m 216 #[.val (.int p1), .val (.int p2), .val (.int p3), .val (.long p4), .second, .val (.int pr), .val (.int sg), .val (.int ct), .val (.int ai), .val (.int bi), .val (.ref b397), .val (.ref b402), .val (.ref b406), .val (.ref pa410), .val (.ref pa412), .val (.int bi), .val (.int bi), .unset] [(.int y1), (.int t0)])) _
    refine XS.iload X421.here hx rfl (hb hby at_216) rfl ?_
    refine XS.iload X421.here hx rfl (hb hby at_218) rfl ?_
    exact k
  obtain ⟨_, _, ⟨T424, L424, k424, n424⟩, -, X424, ⟨Lc424, hQ424, l424, y424, z424⟩, st424⟩ := Jvm.LawKit.callS X421 hx (y := (⟨"com/example/mutatune/mutatune/engine/UniversalSamplingPairPinLaw", "tally", "(III)I"⟩ : MethodName)) hown (mvT hZ (hw _ (List.mem_of_getElem? (i := 74) rfl))) (mvT hZ (hw _ (List.mem_of_getElem? (i := 75) rfl))) (mvT hZ (hw _ (List.mem_of_getElem? (i := 76) rfl))) (mvT hZ (hw _ (List.mem_of_getElem? (i := 77) rfl))) (by decide) (backOf (W := 1) (rm13 l Z a0 hw [] y1 ai bi t1 T416.heap n0 Z416 ht1) hZ (hw _ (List.mem_of_getElem? (i := 77) rfl)) (hw _ (List.mem_of_getElem? (i := 76) rfl)) (by decide) (by decide)) (g := (mkF m 220 #[.val (.int p1), .val (.int p2), .val (.int p3), .val (.long p4), .second, .val (.int pr), .val (.int sg), .val (.int ct), .val (.int ai), .val (.int bi), .val (.ref b397), .val (.ref b402), .val (.ref b406), .val (.ref pa410), .val (.ref pa412), .val (.int bi), .val (.int bi), .unset] [(.int bi), (.int ai), (.int y1), (.int t0)])) rfl (by rw [hml]; rfl) (argsL := [(.int y1), (.int ai), (.int bi)]) (rest := [(.int t0)]) (lenOf pd11 rfl) rfl (by show 2 * 0 + _ ≤ _; exact Nat.le_of_eq rfl) (hb hby at_220) (fun _ _ => ⟨rfl, q421, (by decide : 6 + 0 ≤ _), (by decide : 20 + 0 ≤ _)⟩)
  dsimp only [Pt.U, Pt.locs, Pt.cells, Pt.slots] at X424 l424 y424 z424 st424 hQ424
  subst l424 y424 z424
  obtain ⟨rfl, N424q, q424⟩ := hQ424
  have N424 := Fr.app N421 N424q
  have C424 : ∀ t, Steps p.tables e below (T424.setTop (mkF m 223 #[.val (.int p1), .val (.int p2), .val (.int p3), .val (.long p4), .second, .val (.int pr), .val (.int sg), .val (.int ct), .val (.int ai), .val (.int bi), .val (.ref b397), .val (.ref b402), .val (.ref b406), .val (.ref pa410), .val (.ref pa412), .val (.int bi), .val (.int bi), .unset] [(.int t1), (.int t0)])) t → Steps p.tables e below (s₁.setTop (entryFrame m #[(.int p1), (.int p2), (.int p3), (.long p4)] maxLocals)) t := fun t k => C423 t (st424 t k)
  obtain ⟨c425, A425, S425, V425⟩ := id P412_414_416
  obtain ⟨t2, et2, ht2⟩ := own_tal hAB hy2
  have C426 : ∀ t, Steps p.tables e below (T424.setTop (mkF m 232 #[.val (.int p1), .val (.int p2), .val (.int p3), .val (.long p4), .second, .val (.int pr), .val (.int sg), .val (.int ct), .val (.int ai), .val (.int bi), .val (.ref b397), .val (.ref b402), .val (.ref b406), .val (.ref pa410), .val (.ref pa412), .val (.int bi), .val (.int bi), .unset] [(.int bi), (.int ai), (.int y2), (.int (t0 + t1))])) t → Steps p.tables e below (s₁.setTop (entryFrame m #[(.int p1), (.int p2), (.int p3), (.long p4)] maxLocals)) t := by
    intro t k
    refine C424 t ?_
    refine XS.iadd X424.here hx rfl (hb hby at_223) rfl ?_
    refine XS.aload X424.here hx rfl (hb hby at_224) rfl rfl ?_
    refine XS.iconst X424.here hx rfl (hb hby at_226) ?_
    show Steps p.tables e below (T424.setTop (mkF m 227 #[.val (.int p1), .val (.int p2), .val (.int p3), .val (.long p4), .second, .val (.int pr), .val (.int sg), .val (.int ct), .val (.int ai), .val (.int bi), .val (.ref b397), .val (.ref b402), .val (.ref b406), .val (.ref pa410), .val (.ref pa412), .val (.int bi), .val (.int bi), .unset] [(.int (0 : Int32)), (.ref pa412), (.int (t0 + t1))])) _
    refine X424.iaload hx (j := (0 : Int32)) (v := (.int y2)) (by rw [q424]; exact A425.1) (State.isArrayOf_alike hZ.alike A425.2.1) A425.2.2 (own_in own_i20 S425) (V425 _ (own_i20).2) (g := (mkF m 227 #[.val (.int p1), .val (.int p2), .val (.int p3), .val (.long p4), .second, .val (.int pr), .val (.int sg), .val (.int ct), .val (.int ai), .val (.int bi), .val (.ref b397), .val (.ref b402), .val (.ref b406), .val (.ref pa410), .val (.ref pa412), .val (.int bi), .val (.int bi), .unset] [(.int (0 : Int32)), (.ref pa412), (.int (t0 + t1))])) rfl rfl (hb hby at_227) _ ?_
    refine XS.iload X424.here hx rfl (hb hby at_228) rfl ?_
    refine XS.iload X424.here hx rfl (hb hby at_230) rfl ?_
    exact k
  obtain ⟨_, _, ⟨T427, L427, k427, n427⟩, -, X427, ⟨Lc427, hQ427, l427, y427, z427⟩, st427⟩ := Jvm.LawKit.callS X424 hx (y := (⟨"com/example/mutatune/mutatune/engine/UniversalSamplingPairPinLaw", "tally", "(III)I"⟩ : MethodName)) hown (mvT hZ (hw _ (List.mem_of_getElem? (i := 74) rfl))) (mvT hZ (hw _ (List.mem_of_getElem? (i := 75) rfl))) (mvT hZ (hw _ (List.mem_of_getElem? (i := 76) rfl))) (mvT hZ (hw _ (List.mem_of_getElem? (i := 77) rfl))) (by decide) (backOf (W := 1) (rm13 l Z a0 hw [] y2 ai bi t2 T416.heap n0 Z416 ht2) hZ (hw _ (List.mem_of_getElem? (i := 77) rfl)) (hw _ (List.mem_of_getElem? (i := 76) rfl)) (by decide) (by decide)) (g := (mkF m 232 #[.val (.int p1), .val (.int p2), .val (.int p3), .val (.long p4), .second, .val (.int pr), .val (.int sg), .val (.int ct), .val (.int ai), .val (.int bi), .val (.ref b397), .val (.ref b402), .val (.ref b406), .val (.ref pa410), .val (.ref pa412), .val (.int bi), .val (.int bi), .unset] [(.int bi), (.int ai), (.int y2), (.int (t0 + t1))])) rfl (by rw [hml]; rfl) (argsL := [(.int y2), (.int ai), (.int bi)]) (rest := [(.int (t0 + t1))]) (lenOf pd11 rfl) rfl (by show 2 * 0 + _ ≤ _; exact Nat.le_of_eq rfl) (hb hby at_232) (fun _ _ => ⟨rfl, q424, (by decide : 6 + 0 ≤ _), (by decide : 20 + 0 ≤ _)⟩)
  dsimp only [Pt.U, Pt.locs, Pt.cells, Pt.slots] at X427 l427 y427 z427 st427 hQ427
  subst l427 y427 z427
  obtain ⟨rfl, N427q, q427⟩ := hQ427
  have N427 := Fr.app N424 N427q
  have C427 : ∀ t, Steps p.tables e below (T427.setTop (mkF m 235 #[.val (.int p1), .val (.int p2), .val (.int p3), .val (.long p4), .second, .val (.int pr), .val (.int sg), .val (.int ct), .val (.int ai), .val (.int bi), .val (.ref b397), .val (.ref b402), .val (.ref b406), .val (.ref pa410), .val (.ref pa412), .val (.int bi), .val (.int bi), .unset] [(.int t2), (.int (t0 + t1))])) t → Steps p.tables e below (s₁.setTop (entryFrame m #[(.int p1), (.int p2), (.int p3), (.long p4)] maxLocals)) t := fun t k => C426 t (st427 t k)
  obtain ⟨c428, A428, S428, V428⟩ := id P412_414_416
  obtain ⟨t3, et3, ht3⟩ := own_tal hAB hy3
  have C429 : ∀ t, Steps p.tables e below (T427.setTop (mkF m 244 #[.val (.int p1), .val (.int p2), .val (.int p3), .val (.long p4), .second, .val (.int pr), .val (.int sg), .val (.int ct), .val (.int ai), .val (.int bi), .val (.ref b397), .val (.ref b402), .val (.ref b406), .val (.ref pa410), .val (.ref pa412), .val (.int bi), .val (.int bi), .unset] [(.int bi), (.int ai), (.int y3), (.int ((t0 + t1) + t2))])) t → Steps p.tables e below (s₁.setTop (entryFrame m #[(.int p1), (.int p2), (.int p3), (.long p4)] maxLocals)) t := by
    intro t k
    refine C427 t ?_
    refine XS.iadd X427.here hx rfl (hb hby at_235) rfl ?_
    refine XS.aload X427.here hx rfl (hb hby at_236) rfl rfl ?_
    refine XS.iconst X427.here hx rfl (hb hby at_238) ?_
    show Steps p.tables e below (T427.setTop (mkF m 239 #[.val (.int p1), .val (.int p2), .val (.int p3), .val (.long p4), .second, .val (.int pr), .val (.int sg), .val (.int ct), .val (.int ai), .val (.int bi), .val (.ref b397), .val (.ref b402), .val (.ref b406), .val (.ref pa410), .val (.ref pa412), .val (.int bi), .val (.int bi), .unset] [(.int (1 : Int32)), (.ref pa412), (.int ((t0 + t1) + t2))])) _
    refine X427.iaload hx (j := (1 : Int32)) (v := (.int y3)) (by rw [q427]; exact A428.1) (State.isArrayOf_alike hZ.alike A428.2.1) A428.2.2 (own_in own_i21 S428) (V428 _ (own_i21).2) (g := (mkF m 239 #[.val (.int p1), .val (.int p2), .val (.int p3), .val (.long p4), .second, .val (.int pr), .val (.int sg), .val (.int ct), .val (.int ai), .val (.int bi), .val (.ref b397), .val (.ref b402), .val (.ref b406), .val (.ref pa410), .val (.ref pa412), .val (.int bi), .val (.int bi), .unset] [(.int (1 : Int32)), (.ref pa412), (.int ((t0 + t1) + t2))])) rfl rfl (hb hby at_239) _ ?_
    refine XS.iload X427.here hx rfl (hb hby at_240) rfl ?_
    refine XS.iload X427.here hx rfl (hb hby at_242) rfl ?_
    exact k
  obtain ⟨_, _, ⟨T430, L430, k430, n430⟩, -, X430, ⟨Lc430, hQ430, l430, y430, z430⟩, st430⟩ := Jvm.LawKit.callS X427 hx (y := (⟨"com/example/mutatune/mutatune/engine/UniversalSamplingPairPinLaw", "tally", "(III)I"⟩ : MethodName)) hown (mvT hZ (hw _ (List.mem_of_getElem? (i := 74) rfl))) (mvT hZ (hw _ (List.mem_of_getElem? (i := 75) rfl))) (mvT hZ (hw _ (List.mem_of_getElem? (i := 76) rfl))) (mvT hZ (hw _ (List.mem_of_getElem? (i := 77) rfl))) (by decide) (backOf (W := 1) (rm13 l Z a0 hw [] y3 ai bi t3 T416.heap n0 Z416 ht3) hZ (hw _ (List.mem_of_getElem? (i := 77) rfl)) (hw _ (List.mem_of_getElem? (i := 76) rfl)) (by decide) (by decide)) (g := (mkF m 244 #[.val (.int p1), .val (.int p2), .val (.int p3), .val (.long p4), .second, .val (.int pr), .val (.int sg), .val (.int ct), .val (.int ai), .val (.int bi), .val (.ref b397), .val (.ref b402), .val (.ref b406), .val (.ref pa410), .val (.ref pa412), .val (.int bi), .val (.int bi), .unset] [(.int bi), (.int ai), (.int y3), (.int ((t0 + t1) + t2))])) rfl (by rw [hml]; rfl) (argsL := [(.int y3), (.int ai), (.int bi)]) (rest := [(.int ((t0 + t1) + t2))]) (lenOf pd11 rfl) rfl (by show 2 * 0 + _ ≤ _; exact Nat.le_of_eq rfl) (hb hby at_244) (fun _ _ => ⟨rfl, q427, (by decide : 6 + 0 ≤ _), (by decide : 20 + 0 ≤ _)⟩)
  dsimp only [Pt.U, Pt.locs, Pt.cells, Pt.slots] at X430 l430 y430 z430 st430 hQ430
  subst l430 y430 z430
  obtain ⟨rfl, N430q, q430⟩ := hQ430
  have N430 := Fr.app N427 N430q
  have C430 : ∀ t, Steps p.tables e below (T430.setTop (mkF m 247 #[.val (.int p1), .val (.int p2), .val (.int p3), .val (.long p4), .second, .val (.int pr), .val (.int sg), .val (.int ct), .val (.int ai), .val (.int bi), .val (.ref b397), .val (.ref b402), .val (.ref b406), .val (.ref pa410), .val (.ref pa412), .val (.int bi), .val (.int bi), .unset] [(.int t3), (.int ((t0 + t1) + t2))])) t → Steps p.tables e below (s₁.setTop (entryFrame m #[(.int p1), (.int p2), (.int p3), (.long p4)] maxLocals)) t := fun t k => C429 t (st430 t k)
  have C431 : ∀ t, Steps p.tables e below (T430.setTop (mkF m 253 #[.val (.int p1), .val (.int p2), .val (.int p3), .val (.long p4), .second, .val (.int pr), .val (.int sg), .val (.int ct), .val (.int ai), .val (.int bi), .val (.ref b397), .val (.ref b402), .val (.ref b406), .val (.ref pa410), .val (.ref pa412), .val (.int bi), .val (.int bi), .val (.int (((t0 + t1) + t2) + t3))] [(.int (1 : Int32)), (.int (((t0 + t1) + t2) + t3))])) t → Steps p.tables e below (s₁.setTop (entryFrame m #[(.int p1), (.int p2), (.int p3), (.long p4)] maxLocals)) t := by
    intro t k
    refine C430 t ?_
    refine XS.iadd X430.here hx rfl (hb hby at_247) rfl ?_
    refine XS.istore X430.here hx rfl (hb hby at_248) rfl (l' := #[.val (.int p1), .val (.int p2), .val (.int p3), .val (.long p4), .second, .val (.int pr), .val (.int sg), .val (.int ct), .val (.int ai), .val (.int bi), .val (.ref b397), .val (.ref b402), .val (.ref b406), .val (.ref pa410), .val (.ref pa412), .val (.int bi), .val (.int bi), .val (.int (((t0 + t1) + t2) + t3))]) rfl ?_
    refine XS.iload X430.here hx rfl (hb hby at_250) rfl ?_
    show Steps p.tables e below (T430.setTop (mkF m 252 #[.val (.int p1), .val (.int p2), .val (.int p3), .val (.long p4), .second, .val (.int pr), .val (.int sg), .val (.int ct), .val (.int ai), .val (.int bi), .val (.ref b397), .val (.ref b402), .val (.ref b406), .val (.ref pa410), .val (.ref pa412), .val (.int bi), .val (.int bi), .val (.int (((t0 + t1) + t2) + t3))] [(.int (((t0 + t1) + t2) + t3))])) _
    refine XS.iconst X430.here hx rfl (hb hby at_252) ?_
    exact k
  have hsum : (((t0 + t1) + t2) + t3) = 1 := by
    have hq4 : q = 0 ∨ q = 1 ∨ q = 2 ∨ q = 3 := by omega
    rcases hq4 with g | g | g | g <;> subst g et0 et1 et2 et3 <;> rfl
  have C432 : ∀ t, Steps p.tables e below (T430.setTop (mkF m 275 #[.val (.int p1), .val (.int p2), .val (.int p3), .val (.long p4), .second, .val (.int pr), .val (.int sg), .val (.int ct), .val (.int ai), .val (.int bi), .val (.ref b397), .val (.ref b402), .val (.ref b406), .val (.ref pa410), .val (.ref pa412), .val (.int bi), .val (.int bi), .val (.int (((t0 + t1) + t2) + t3))] [(.int (1 : Int32))])) t → Steps p.tables e below (s₁.setTop (entryFrame m #[(.int p1), (.int p2), (.int p3), (.long p4)] maxLocals)) t := by
    intro t k
    refine C431 t ?_
    refine XS.icmpNo X430.here hx rfl (hb hby at_253) rfl (XT.ii_ne_f hsum) ?_
    refine XS.iload X430.here hx rfl (hb hby at_256) rfl ?_
    refine XS.iload X430.here hx rfl (hb hby at_258) rfl ?_
    show Steps p.tables e below (T430.setTop (mkF m 260 #[.val (.int p1), .val (.int p2), .val (.int p3), .val (.long p4), .second, .val (.int pr), .val (.int sg), .val (.int ct), .val (.int ai), .val (.int bi), .val (.ref b397), .val (.ref b402), .val (.ref b406), .val (.ref pa410), .val (.ref pa412), .val (.int bi), .val (.int bi), .val (.int (((t0 + t1) + t2) + t3))] [(.int bi), (.int bi)])) _
    refine XS.icmpNo X430.here hx rfl (hb hby at_260) rfl (XT.ii_ne_f rfl) ?_
    refine XS.iload X430.here hx rfl (hb hby at_263) rfl ?_
    refine XS.iload X430.here hx rfl (hb hby at_265) rfl ?_
    refine XS.icmpNo X430.here hx rfl (hb hby at_267) rfl (XT.ii_ne_f rfl) ?_
    show Steps p.tables e below (T430.setTop (mkF m 270 #[.val (.int p1), .val (.int p2), .val (.int p3), .val (.long p4), .second, .val (.int pr), .val (.int sg), .val (.int ct), .val (.int ai), .val (.int bi), .val (.ref b397), .val (.ref b402), .val (.ref b406), .val (.ref pa410), .val (.ref pa412), .val (.int bi), .val (.int bi), .val (.int (((t0 + t1) + t2) + t3))] [])) _
    refine XS.iconst X430.here hx rfl (hb hby at_270) ?_
    refine XS.goto X430.here hx rfl (pc0 := 271) (pc' := 275) rfl (hb hby at_271) (by decide) (by decide) ?_
    exact k
  obtain ⟨fs, hr, hrun, hended, hW, hsame⟩ := X430.leave (v := some (.int (1 : Int32))) (fun h => by rw [Bd.returns] at h; cases h)
  refine ⟨_, _, C432 _ ?_, hrun, hended, _, _, rfl, ?_, ⟨_, rfl⟩, hW, hsame.mono (by decide) (by decide)⟩
  · show Steps p.tables e below (T430.setTop (mkF m 275 #[.val (.int p1), .val (.int p2), .val (.int p3), .val (.long p4), .second, .val (.int pr), .val (.int sg), .val (.int ct), .val (.int ai), .val (.int bi), .val (.ref b397), .val (.ref b402), .val (.ref b406), .val (.ref pa410), .val (.ref pa412), .val (.int bi), .val (.int bi), .val (.int (((t0 + t1) + t2) + t3))] [(.int (1 : Int32))])) _
    exact retN X430 hx (t := .boolean) Bd.returns (by simp) (hb hby at_275) hr
  · show Q0 Z p1 p2 p3 p4 h0 n0 _ T430.heap _
    rw [q430]
    exact ⟨rfl, N430⟩
theorem rm0 (l : Launch) (Z : State) (a0 : Array Value) (hw : ∀ d ∈ tables_1, d.before a0 Z = true) (ws : List Jvm.Cond) (p1 p2 p3 : Int32) (p4 : Int64) (h0 : Heap) (n0 : Nat) (Z0 : n0 ≤ h0.size) :
    MetFree l x (head1 (Jvm.Cond.code x code maxLocals ret :: ws) room_1) (fun a U => a = #[(.int p1), (.int p2), (.int p3), (.long p4)] ∧ Z.Warmed39 U.vm ∧ U.heap = h0) (fun _ _ _ _ _ => True) (fun _ U o U' => ∃ v L, o = .returned v ∧ Q0 Z p1 p2 p3 p4 h0 n0 v U'.heap L ∧ FrameEnd U o U' L room_1.cells room_1.slots) := by
  rcases own_prr p1 with hm | hm
  · rcases own_sgr p1 with hs | hs | hs
    · exact rm0_10 l Z a0 hw ws p1 p2 p3 p4 h0 n0 Z0 hm hs
    · exact rm0_11 l Z a0 hw ws p1 p2 p3 p4 h0 n0 Z0 hm hs
    · exact rm0_12 l Z a0 hw ws p1 p2 p3 p4 h0 n0 Z0 hm hs
  · rcases own_sgr p1 with hs | hs | hs
    · exact rm0_20 l Z a0 hw ws p1 p2 p3 p4 h0 n0 Z0 hm hs
    · exact rm0_21 l Z a0 hw ws p1 p2 p3 p4 h0 n0 Z0 hm hs
    · exact rm0_22 l Z a0 hw ws p1 p2 p3 p4 h0 n0 Z0 hm hs
set_option maxRecDepth 65536 in
set_option maxHeartbeats 40000000 in
theorem comes_1 {Post : Tables → Env → Array Value → State → Outcome → State → Prop} (hpost : ∀ tb e args s v u, (limb_1_1.after args s (.returned v) u = true ∧ limb_1_2.after args s (.returned v) u = true ∧ True) → FrameEnd s (.returned v) u (Jvm.fieldLocs frame_1_writes args s ++ Jvm.arrayLocs frame_1_arrays args s ++ Jvm.staticLocs frame_1_statics s) 24 128 → Post tb e args s (.returned v) u) :
    ArmFor flags0 classFile x code maxLocals ret World_1 tables_1 room_1 Calls_1 rest_1 Pre_1 Post := by
  intro l hfl _ _ p e ha hc hk s m args below hf hA hF happ hP
  obtain ⟨hcalls, hrest, hpre⟩ := hP
  obtain ⟨-, -, -, hnamed, -, -, -, hat⟩ := (Spec.applies_iff hf).mp happ
  obtain ⟨hg, hn⟩ := and_e (Cond.before_iff.mp (show (Jvm.Cond.and given_1 narrow_1).before args s = true from hpre))
  obtain ⟨hcount, r0⟩ := and_e hg
  obtain ⟨q0, r1⟩ := and_e r0
  obtain ⟨q1, r2⟩ := and_e r1
  obtain ⟨q2, r3⟩ := and_e r2
  have q3 := r3
  obtain ⟨w0, w1, w2, w3, rfl⟩ : ∃ w0 w1 w2 w3 : Value, args = #[w0, w1, w2, w3] := by
    have hs : args.size = 4 := by simpa [Cond.value, given_1] using hcount
    obtain ⟨L⟩ := args
    match L, hs with
    | [w0, w1, w2, w3], _ => exact ⟨w0, w1, w2, w3, rfl⟩
  have hw := fun d (hd : d ∈ tables_1) => atoms_spec (ws := Jvm.Cond.code x code maxLocals ret :: tables_1) hat d (List.mem_cons_of_mem _ hd)
  obtain ⟨i0, ei0⟩ := is_v q0
  obtain rfl : w0 = (.int i0) := Option.some.inj ei0
  obtain ⟨i1, ei1⟩ := is_v q1
  obtain rfl : w1 = (.int i1) := Option.some.inj ei1
  obtain ⟨i2, ei2⟩ := is_v q2
  obtain rfl : w2 = (.int i2) := Option.some.inj ei2
  obtain ⟨i3, ei3⟩ := isL_v q3
  obtain rfl : w3 = (.long i3) := Option.some.inj ei3
  obtain ⟨n, o, h1, h2, h3, _, L, rfl, ⟨rfl, N⟩, hq⟩ := rm0 l s _ hw tables_1 i0 i1 i2 i3 s.heap s.heap.size (Nat.le_refl _)  p e ha hc hk s m _ below hf ((Spec.applies_iff_loose hf).mp happ).1 ⟨rfl, State.Warmed39.refl s, rfl⟩ trivial
  refine ⟨n, _, h1, h2, h3, hpost _ _ _ _ _ _ ⟨Cond.after_iff.mpr rfl, Cond.after_iff.mpr (eq_i res_at (Term.int_eval (1)) rfl), trivial⟩ ⟨hq.1, hq.2.1, (hq.2.2.sift fun y hy => Or.inr (N y hy)).mono (by decide) (by decide)⟩⟩
theorem main_1_1 : Claimed_1_1 := comes_1 fun _ _ _ _ _ _ h hF => ⟨h.1, hF⟩
theorem main_1_2 : Claimed_1_2 := comes_1 fun _ _ _ _ _ _ h hF => ⟨h.2.1, hF⟩
end Jvm.Pilot.@@N@@
namespace Jvm.Pilot.@@N@@
open Jvm Jvm.ClassFile Sem Op Lib Jvm.Free Jvm.Stand Jvm.Pilot.@@N@@.Jvm.D
/-! MADE BY PROGRAM (witnessworld.py) out of the Statement's table words and the real class files: 18 classes; the members and pool entries that the words name. The judged class is class 1, her method 1. -/
namespace start1
open Jvm.ClassFile
def u (s : String) : CpInfo := .utf8 (stringToUtf16 s)
/-- a pool by its gaps: so many unusable entries, then the entry; so many at the end -/
def gap : Nat → List CpInfo → List CpInfo
  | 0, r => r
  | n + 1, r => .unusable :: gap n r
def poolList (es : List (Nat × CpInfo)) (last : Nat) : List CpInfo := es.foldr (fun e r => gap e.1 (e.2 :: r)) (gap last [])
def pool (es : List (Nat × CpInfo)) (last : Nat) : Array CpInfo := ⟨poolList es last⟩
def fileOf (pool : Array CpInfo) (this : Nat) (attrs : Array Attribute := #[]) (ms : Array MethodInfo := #[]) (fl : Nat := 33) (sup : Nat := 0) (ifs : Array Nat := #[]) (fds : Array FieldInfo := #[]) : ClassFile where
  minorVersion := 0
  majorVersion := 65
  constantPool := pool
  accessFlags := fl
  thisClass := this
  superClass := sup
  interfaces := ifs
  fields := fds
  methods := ms
  attributes := attrs
def plain (name : String) (sup : Option ClassId) : Class where
  name := name
  kind := .ordinary
  loader := none
  accessFlags := 33
  super := sup
  interfaces := #[]
  cf := none
  fields := #[]
  methods := #[]
  instanceTypes := #[]
  staticTypes := #[]
  resolved := #[]
  callSites := []
  init := .initialized
  statics := none
  mirror := none

def pool0 : Array CpInfo := pool [(5, u "<init>"), (0, u "()V"), (1, .class_ 10), (1, u "java/lang/Object")] 113

def k0c0 : Code := { maxStack := 0, maxLocals := 1, code := object_method_1_code, exceptionTable := #[], attributes := #[] }
def k0m0 : Method := { name := "<init>", desc := "()V", sig := { parameters := [], returnType := none }, accessFlags := 1, code := some k0c0 }
/-- java/lang/Object -/
def k0 : Class := { plain "java/lang/Object" none with
  accessFlags := 33
  interfaces := #[]
  cf := some (fileOf pool0 8 #[] #[{ accessFlags := 1, nameIndex := 5, descriptorIndex := 6, attributes := #[] }] 33 0 #[] #[])
  fields := #[]
  methods := #[k0m0]
  instanceTypes := #[]
  staticTypes := #[]
  resolved := Array.replicate 124 none
  statics := none }

def pool1 : Array CpInfo := pool [(2, .class_ 4), (1, u "java/lang/Object"), (0, u "<init>"), (0, u "()V"), (0, .integer 2147483647), (0, .class_ 9), (0, u "com/example/mutatune/mutatune/engine/SeededRandom"), (0, .methodref 8 11), (0, .nameAndType 5 12), (0, u "(J)V"), (0, .class_ 14), (0, u "com/example/mutatune/mutatune/engine/UniversalSampling"), (0, .methodref 13 16), (0, .nameAndType 5 17), (0, u "([DIILcom/example/mutatune/mutatune/engine/SeededRandom;)V"), (0, .methodref 13 19), (0, .nameAndType 20 21), (0, u "pair"), (0, u "(Lcom/example/mutatune/mutatune/engine/SeededRandom;)[I"), (0, .methodref 13 23), (0, .nameAndType 24 25), (0, u "single"), (0, u "(Lcom/example/mutatune/mutatune/engine/SeededRandom;)I"), (0, .methodref 27 28), (0, .class_ 29), (0, .nameAndType 30 31), (0, u "com/example/mutatune/mutatune/engine/UniversalSamplingPairPinLaw"), (0, u "tally"), (0, u "(III)I"), (2, u "law"), (0, u "(IIIJ)Z")] 7

def k1m0 : Method := { name := "<init>", desc := "()V", sig := { parameters := [], returnType := none }, accessFlags := 1, code := none }
def k1c1 : Code := { maxStack := 6, maxLocals := 18, code := code, exceptionTable := #[], attributes := #[] }
def k1m1 : Method := { name := "law", desc := "(IIIJ)Z", sig := { parameters := [.int, .int, .int, .long], returnType := some .boolean }, accessFlags := 9, code := some k1c1 }
def k1c2 : Code := { maxStack := 2, maxLocals := 3, code := method_3_code, exceptionTable := #[], attributes := #[] }
def k1m2 : Method := { name := "tally", desc := "(III)I", sig := { parameters := [.int, .int, .int], returnType := some .int }, accessFlags := 10, code := some k1c2 }
/-- com/example/mutatune/mutatune/engine/UniversalSamplingPairPinLaw -/
def k1 : Class := { plain "com/example/mutatune/mutatune/engine/UniversalSamplingPairPinLaw" (some 0) with
  accessFlags := 49
  interfaces := #[]
  cf := some (fileOf pool1 27 #[] #[{ accessFlags := 1, nameIndex := 5, descriptorIndex := 6, attributes := #[] }, { accessFlags := 9, nameIndex := 34, descriptorIndex := 35, attributes := #[] }, { accessFlags := 10, nameIndex := 30, descriptorIndex := 31, attributes := #[] }] 49 2 #[] #[])
  fields := #[]
  methods := #[k1m0, k1m1, k1m2]
  instanceTypes := #[]
  staticTypes := #[]
  resolved := Array.replicate 43 none
  statics := none }

def pool2 : Array CpInfo := pool [(1, .methodref 2 3), (0, .class_ 4), (0, .nameAndType 5 6), (0, u "java/lang/Object"), (0, u "<init>"), (0, u "()V"), (0, .class_ 8), (0, u "com/example/mutatune/mutatune/engine/SeededRandom"), (0, .long 11400714819323198485), (1, .methodref 7 12), (0, .nameAndType 13 14), (0, u "mix64"), (0, u "(J)J"), (0, .fieldref 7 16), (0, .nameAndType 17 18), (0, u "s0"), (0, u "J"), (0, .fieldref 7 20), (0, .nameAndType 21 18), (0, u "s1"), (0, .fieldref 7 23), (0, .nameAndType 24 18), (0, u "s2"), (0, .fieldref 7 26), (0, .nameAndType 27 18), (0, u "s3"), (0, .methodref 29 30), (0, .class_ 31), (0, .nameAndType 32 33), (0, u "java/lang/Long"), (0, u "rotateLeft"), (0, u "(JI)J"), (0, .methodref 7 35), (0, .nameAndType 36 37), (0, u "nextLong"), (0, u "()J"), (0, .double 4368491638549381120), (10, .long 4294967295), (1, .long 4294967296), (1, .methodref 7 54), (0, .nameAndType 55 56), (0, u "nextInt"), (0, u "(I)I"), (4, u "nextDouble"), (0, u "()D"), (14, .long 13787848793156543929), (1, .long 10723151780598845931), (1, u "GOLDEN_GAMMA"), (1, u "DOUBLE_UNIT"), (0, u "D"), (0, u "LOW_32_BITS"), (0, u "(J)V"), (3, u "shuffle"), (0, u "([I)V")] 18

def k2c0 : Code := { maxStack := 4, maxLocals := 5, code := prog_47_method_1_code, exceptionTable := #[], attributes := #[] }
def k2m0 : Method := { name := "<init>", desc := "(J)V", sig := { parameters := [.long], returnType := none }, accessFlags := 1, code := some k2c0 }
def k2c1 : Code := { maxStack := 5, maxLocals := 5, code := prog_47_method_2_code, exceptionTable := #[], attributes := #[] }
def k2m1 : Method := { name := "nextLong", desc := "()J", sig := { parameters := [], returnType := some .long }, accessFlags := 1, code := some k2c1 }
def k2c2 : Code := { maxStack := 4, maxLocals := 1, code := prog_47_method_3_code, exceptionTable := #[], attributes := #[] }
def k2m2 : Method := { name := "nextDouble", desc := "()D", sig := { parameters := [], returnType := some .double }, accessFlags := 1, code := some k2c2 }
def k2c3 : Code := { maxStack := 4, maxLocals := 6, code := prog_47_method_4_code, exceptionTable := #[], attributes := #[] }
def k2m3 : Method := { name := "nextInt", desc := "(I)I", sig := { parameters := [.int], returnType := some .int }, accessFlags := 1, code := some k2c3 }
def k2c4 : Code := { maxStack := 4, maxLocals := 5, code := prog_47_method_5_code, exceptionTable := #[], attributes := #[] }
def k2m4 : Method := { name := "shuffle", desc := "([I)V", sig := { parameters := [(.array .int)], returnType := none }, accessFlags := 1, code := some k2c4 }
def k2c5 : Code := { maxStack := 5, maxLocals := 4, code := prog_47_method_7_code, exceptionTable := #[], attributes := #[] }
def k2m5 : Method := { name := "mix64", desc := "(J)J", sig := { parameters := [.long], returnType := some .long }, accessFlags := 10, code := some k2c5 }
/-- com/example/mutatune/mutatune/engine/SeededRandom -/
def k2 : Class := { plain "com/example/mutatune/mutatune/engine/SeededRandom" (some 0) with
  accessFlags := 49
  interfaces := #[]
  cf := some (fileOf pool2 7 #[] #[{ accessFlags := 1, nameIndex := 5, descriptorIndex := 86, attributes := #[] }, { accessFlags := 1, nameIndex := 36, descriptorIndex := 37, attributes := #[] }, { accessFlags := 1, nameIndex := 61, descriptorIndex := 62, attributes := #[] }, { accessFlags := 1, nameIndex := 55, descriptorIndex := 56, attributes := #[] }, { accessFlags := 1, nameIndex := 90, descriptorIndex := 91, attributes := #[] }, { accessFlags := 10, nameIndex := 13, descriptorIndex := 14, attributes := #[] }] 49 2 #[] #[{ accessFlags := 26, nameIndex := 81, descriptorIndex := 18, attributes := #[] }, { accessFlags := 26, nameIndex := 83, descriptorIndex := 84, attributes := #[] }, { accessFlags := 26, nameIndex := 85, descriptorIndex := 18, attributes := #[] }, { accessFlags := 2, nameIndex := 17, descriptorIndex := 18, attributes := #[] }, { accessFlags := 2, nameIndex := 21, descriptorIndex := 18, attributes := #[] }, { accessFlags := 2, nameIndex := 24, descriptorIndex := 18, attributes := #[] }, { accessFlags := 2, nameIndex := 27, descriptorIndex := 18, attributes := #[] }])
  fields := #[{ name := "GOLDEN_GAMMA", type := .long, accessFlags := 26, slot := 0, constantValue := 0 }, { name := "DOUBLE_UNIT", type := .double, accessFlags := 26, slot := 1, constantValue := 0 }, { name := "LOW_32_BITS", type := .long, accessFlags := 26, slot := 2, constantValue := 0 }, { name := "s0", type := .long, accessFlags := 2, slot := 0, constantValue := 0 }, { name := "s1", type := .long, accessFlags := 2, slot := 1, constantValue := 0 }, { name := "s2", type := .long, accessFlags := 2, slot := 2, constantValue := 0 }, { name := "s3", type := .long, accessFlags := 2, slot := 3, constantValue := 0 }]
  methods := #[k2m0, k2m1, k2m2, k2m3, k2m4, k2m5]
  instanceTypes := #[.long, .long, .long, .long]
  staticTypes := #[.long, .double, .long]
  resolved := Array.replicate 110 none
  statics := none }

def pool3 : Array CpInfo := pool [(1, .class_ 2), (0, u "com/example/mutatune/mutatune/engine/ParentDraws"), (0, .class_ 4), (0, u "java/lang/Object")] 6

/-- com/example/mutatune/mutatune/engine/ParentDraws -/
def k3 : Class := { plain "com/example/mutatune/mutatune/engine/ParentDraws" (some 0) with
  accessFlags := 1536
  interfaces := #[]
  cf := some (fileOf pool3 1 #[] #[] 1536 3 #[] #[])
  fields := #[]
  methods := #[]
  instanceTypes := #[]
  staticTypes := #[]
  resolved := Array.replicate 11 none
  statics := none }

def pool4 : Array CpInfo := pool [(1, .methodref 2 3), (0, .class_ 4), (0, .nameAndType 5 6), (0, u "java/lang/Object"), (0, u "<init>"), (0, u "()V"), (0, .methodref 8 9), (0, .class_ 10), (0, .nameAndType 11 12), (0, u "com/example/mutatune/mutatune/engine/UniversalSampling"), (0, u "sample"), (0, u "([DILcom/example/mutatune/mutatune/engine/SeededRandom;)[I"), (0, .fieldref 8 14), (0, .nameAndType 15 16), (0, u "slots"), (0, u "[I"), (0, .methodref 18 19), (0, .class_ 20), (0, .nameAndType 21 22), (0, u "com/example/mutatune/mutatune/engine/SeededRandom"), (0, u "shuffle"), (0, u "([I)V"), (0, .methodref 8 24), (0, .nameAndType 25 26), (0, u "separatePairs"), (0, u "([II)V"), (0, .fieldref 8 28), (0, .nameAndType 29 30), (0, u "next"), (0, u "I"), (0, .methodref 18 32), (0, .nameAndType 33 34), (0, u "nextDouble"), (0, u "()D"), (0, .class_ 36), (0, u "com/example/mutatune/mutatune/engine/ParentDraws"), (0, u "([DIILcom/example/mutatune/mutatune/engine/SeededRandom;)V"), (2, u "pair"), (0, u "(Lcom/example/mutatune/mutatune/engine/SeededRandom;)[I"), (0, u "single"), (0, u "(Lcom/example/mutatune/mutatune/engine/SeededRandom;)I")] 6

def k4c0 : Code := { maxStack := 4, maxLocals := 5, code := prog_59_method_1_code, exceptionTable := #[], attributes := #[] }
def k4m0 : Method := { name := "<init>", desc := "([DIILcom/example/mutatune/mutatune/engine/SeededRandom;)V", sig := { parameters := [(.array .double), .int, .int, (.object "com/example/mutatune/mutatune/engine/SeededRandom")], returnType := none }, accessFlags := 0, code := some k4c0 }
def k4c1 : Code := { maxStack := 8, maxLocals := 3, code := prog_59_method_2_code, exceptionTable := #[], attributes := #[] }
def k4m1 : Method := { name := "pair", desc := "(Lcom/example/mutatune/mutatune/engine/SeededRandom;)[I", sig := { parameters := [(.object "com/example/mutatune/mutatune/engine/SeededRandom")], returnType := some (.array .int) }, accessFlags := 1, code := some k4c1 }
def k4c2 : Code := { maxStack := 5, maxLocals := 2, code := prog_59_method_3_code, exceptionTable := #[], attributes := #[] }
def k4m2 : Method := { name := "single", desc := "(Lcom/example/mutatune/mutatune/engine/SeededRandom;)I", sig := { parameters := [(.object "com/example/mutatune/mutatune/engine/SeededRandom")], returnType := some .int }, accessFlags := 1, code := some k4c2 }
def k4c3 : Code := { maxStack := 4, maxLocals := 15, code := prog_59_method_4_code, exceptionTable := #[], attributes := #[] }
def k4m3 : Method := { name := "sample", desc := "([DILcom/example/mutatune/mutatune/engine/SeededRandom;)[I", sig := { parameters := [(.array .double), .int, (.object "com/example/mutatune/mutatune/engine/SeededRandom")], returnType := some (.array .int) }, accessFlags := 8, code := some k4c3 }
def k4c4 : Code := { maxStack := 4, maxLocals := 7, code := prog_59_method_5_code, exceptionTable := #[], attributes := #[] }
def k4m4 : Method := { name := "separatePairs", desc := "([II)V", sig := { parameters := [(.array .int), .int], returnType := none }, accessFlags := 8, code := some k4c4 }
/-- com/example/mutatune/mutatune/engine/UniversalSampling -/
def k4 : Class := { plain "com/example/mutatune/mutatune/engine/UniversalSampling" (some 0) with
  accessFlags := 48
  interfaces := #[3]
  cf := some (fileOf pool4 8 #[] #[{ accessFlags := 0, nameIndex := 5, descriptorIndex := 37, attributes := #[] }, { accessFlags := 1, nameIndex := 40, descriptorIndex := 41, attributes := #[] }, { accessFlags := 1, nameIndex := 42, descriptorIndex := 43, attributes := #[] }, { accessFlags := 8, nameIndex := 11, descriptorIndex := 12, attributes := #[] }, { accessFlags := 8, nameIndex := 25, descriptorIndex := 26, attributes := #[] }] 48 2 #[35] #[{ accessFlags := 18, nameIndex := 15, descriptorIndex := 16, attributes := #[] }, { accessFlags := 2, nameIndex := 29, descriptorIndex := 30, attributes := #[] }])
  fields := #[{ name := "slots", type := (.array .int), accessFlags := 18, slot := 0, constantValue := 0 }, { name := "next", type := .int, accessFlags := 2, slot := 1, constantValue := 0 }]
  methods := #[k4m0, k4m1, k4m2, k4m3, k4m4]
  instanceTypes := #[(.array .int), .int]
  staticTypes := #[]
  resolved := Array.replicate 50 none
  statics := none }

def pool5 : Array CpInfo := pool [(1, .class_ 2), (0, u "java/io/Serializable"), (0, .class_ 4), (0, u "java/lang/Object")] 2

/-- java/io/Serializable -/
def k5 : Class := { plain "java/io/Serializable" (some 0) with
  accessFlags := 1537
  interfaces := #[]
  cf := some (fileOf pool5 1 #[] #[] 1537 3 #[] #[])
  fields := #[]
  methods := #[]
  instanceTypes := #[]
  staticTypes := #[]
  resolved := Array.replicate 7 none
  statics := none }

def pool6 : Array CpInfo := pool [(2, .class_ 4), (1, u "java/lang/Object"), (0, u "<init>"), (0, u "()V"), (1, .class_ 10), (1, u "java/lang/Number"), (2, .class_ 14), (0, u "java/io/Serializable"), (0, u "serialVersionUID"), (0, u "J")] 20

def k6m0 : Method := { name := "<init>", desc := "()V", sig := { parameters := [], returnType := none }, accessFlags := 1, code := none }
/-- java/lang/Number -/
def k6 : Class := { plain "java/lang/Number" (some 0) with
  accessFlags := 1057
  interfaces := #[5]
  cf := some (fileOf pool6 8 #[] #[{ accessFlags := 1, nameIndex := 5, descriptorIndex := 6, attributes := #[] }] 1057 2 #[13] #[{ accessFlags := 26, nameIndex := 15, descriptorIndex := 16, attributes := #[] }])
  fields := #[{ name := "serialVersionUID", type := .long, accessFlags := 26, slot := 0, constantValue := 0 }]
  methods := #[k6m0]
  instanceTypes := #[]
  staticTypes := #[.long]
  resolved := Array.replicate 37 none
  statics := none }

def pool7 : Array CpInfo := pool [(1, .class_ 2), (0, u "java/lang/Comparable"), (0, .class_ 4), (0, u "java/lang/Object")] 7

/-- java/lang/Comparable -/
def k7 : Class := { plain "java/lang/Comparable" (some 0) with
  accessFlags := 1537
  interfaces := #[]
  cf := some (fileOf pool7 1 #[] #[] 1537 3 #[] #[])
  fields := #[]
  methods := #[]
  instanceTypes := #[]
  staticTypes := #[]
  resolved := Array.replicate 12 none
  statics := none }

def pool8 : Array CpInfo := pool [(1, .class_ 2), (0, u "java/lang/constant/Constable"), (0, .class_ 4), (0, u "java/lang/Object")] 6

/-- java/lang/constant/Constable -/
def k8 : Class := { plain "java/lang/constant/Constable" (some 0) with
  accessFlags := 1537
  interfaces := #[]
  cf := some (fileOf pool8 1 #[] #[] 1537 3 #[] #[])
  fields := #[]
  methods := #[]
  instanceTypes := #[]
  staticTypes := #[]
  resolved := Array.replicate 11 none
  statics := none }

def pool9 : Array CpInfo := pool [(1, .class_ 2), (0, u "java/lang/constant/ConstantDesc"), (0, .class_ 4), (0, u "java/lang/Object")] 32

/-- java/lang/constant/ConstantDesc -/
def k9 : Class := { plain "java/lang/constant/ConstantDesc" (some 0) with
  accessFlags := 1537
  interfaces := #[]
  cf := some (fileOf pool9 1 #[] #[] 1537 3 #[] #[])
  fields := #[]
  methods := #[]
  instanceTypes := #[]
  staticTypes := #[]
  resolved := Array.replicate 37 none
  statics := none }

def pool10 : Array CpInfo := pool [(1, .class_ 2), (0, u "java/lang/Long"), (232, .class_ 237), (1, u "java/lang/Long$LongCache"), (33, .class_ 272), (0, u "java/lang/Number"), (2, u "value"), (0, u "J"), (84, u "TYPE"), (0, u "Ljava/lang/Class;"), (0, .class_ 364), (0, u "java/lang/Comparable"), (0, .class_ 366), (0, u "java/lang/constant/Constable"), (0, .class_ 368), (0, u "java/lang/constant/ConstantDesc"), (0, u "MIN_VALUE"), (1, u "MAX_VALUE"), (4, u "SIZE"), (0, u "I"), (1, u "BYTES"), (1, u "serialVersionUID"), (95, u "rotateLeft"), (0, u "(JI)J")] 45

def k10c0 : Code := { maxStack := 5, maxLocals := 3, code := jdk_35_method_51_code, exceptionTable := #[], attributes := #[] }
def k10m0 : Method := { name := "rotateLeft", desc := "(JI)J", sig := { parameters := [.long, .int], returnType := some .long }, accessFlags := 9, code := some k10c0 }
/-- java/lang/Long -/
def k10 : Class := { plain "java/lang/Long" (some 6) with
  accessFlags := 49
  interfaces := #[7, 8, 9]
  cf := some (fileOf pool10 1 #[.nestMembers #[235]] #[{ accessFlags := 9, nameIndex := 477, descriptorIndex := 478, attributes := #[] }] 49 271 #[363, 365, 367] #[{ accessFlags := 25, nameIndex := 369, descriptorIndex := 276, attributes := #[] }, { accessFlags := 25, nameIndex := 371, descriptorIndex := 276, attributes := #[] }, { accessFlags := 25, nameIndex := 361, descriptorIndex := 362, attributes := #[] }, { accessFlags := 18, nameIndex := 275, descriptorIndex := 276, attributes := #[] }, { accessFlags := 25, nameIndex := 376, descriptorIndex := 377, attributes := #[] }, { accessFlags := 25, nameIndex := 379, descriptorIndex := 377, attributes := #[] }, { accessFlags := 26, nameIndex := 381, descriptorIndex := 276, attributes := #[] }])
  fields := #[{ name := "MIN_VALUE", type := .long, accessFlags := 25, slot := 0, constantValue := 0 }, { name := "MAX_VALUE", type := .long, accessFlags := 25, slot := 1, constantValue := 0 }, { name := "TYPE", type := (.object "java/lang/Class"), accessFlags := 25, slot := 2, constantValue := 0 }, { name := "value", type := .long, accessFlags := 18, slot := 0, constantValue := 0 }, { name := "SIZE", type := .int, accessFlags := 25, slot := 3, constantValue := 0 }, { name := "BYTES", type := .int, accessFlags := 25, slot := 4, constantValue := 0 }, { name := "serialVersionUID", type := .long, accessFlags := 26, slot := 5, constantValue := 0 }]
  methods := #[k10m0]
  instanceTypes := #[.long]
  staticTypes := #[.long, .long, (.object "java/lang/Class"), .int, .int, .long]
  resolved := Array.replicate 524 none
  statics := none }

def pool11 : Array CpInfo := pool [(1, u "java/lang/Cloneable"), (0, .class_ 1), (0, u "java/lang/Object"), (0, .class_ 3)] 3

/-- java/lang/Cloneable -/
def k11 : Class := { plain "java/lang/Cloneable" (some 0) with
  accessFlags := 1537
  interfaces := #[]
  cf := some (fileOf pool11 2 #[] #[] 1537 4 #[] #[])
  fields := #[]
  methods := #[]
  instanceTypes := #[]
  staticTypes := #[]
  resolved := Array.replicate 8 none
  statics := none }

/-- the primitive byte -/
def k12 : Class := { plain "byte" none with kind := .primitive 'B', accessFlags := 0x411 }
/-- [B -/
def k13 : Class := { plain "[B" (some 0) with kind := .array 12 .byte, interfaces := #[11, 5], accessFlags := 1041 }

/-- the primitive double -/
def k14 : Class := { plain "double" none with kind := .primitive 'D', accessFlags := 0x411 }
/-- [D -/
def k15 : Class := { plain "[D" (some 0) with kind := .array 14 .double, interfaces := #[11, 5], accessFlags := 1041 }

/-- the primitive int -/
def k16 : Class := { plain "int" none with kind := .primitive 'I', accessFlags := 0x411 }
/-- [I -/
def k17 : Class := { plain "[I" (some 0) with kind := .array 16 .int, interfaces := #[11, 5], accessFlags := 1041 }

def heap : Heap := #[]
def classes : Array Class := #[k0, k1, k2, k3, k4, k5, k6, k7, k8, k9, k10, k11, k12, k13, k14, k15, k16, k17]
def interned : List (Array UInt16 × Addr) := []
def slotsUsed : Nat := 0
def theMethod : MethodId := ⟨1, 1⟩
def args0 : Array Value := #[.int 5, .int 5, .int 5, .long 5]
def aboutOver (below : List Frame) : State where
  vm := { classes := classes, interned := interned.toArray }
  heap := heap
  slotsUsed := slotsUsed
  threads := #[{ frames := .invoking theMethod args0 :: below }]
def below0 : List Frame := [.native { method := ⟨0, 0⟩, args := #[] }]
def about1 : State := aboutOver below0
def p0 : Program := .bare "" "" ""
def e0 : Env := launch0.env 0 0 0
theorem w_frames : about1.frames = Frame.invoking theMethod args0 :: below0 := rfl
set_option maxRecDepth 65536 in
theorem w_args : argsFit about1.vm theMethod args0 = true := by decide +kernel
set_option maxRecDepth 65536 in
theorem w_heap : heapFits about1 = true := by decide +kernel
set_option maxRecDepth 65536 in
theorem w_runnable : about1.curStatus? = some .runnable := by decide +kernel
set_option maxRecDepth 65536 in
theorem w_alone : about1.alone = true := by decide +kernel
set_option maxRecDepth 65536 in
theorem w_named : about1.methodNamed? x = some theMethod := by decide +kernel
set_option maxRecDepth 65536 in
theorem w_hears : about1.hears theMethod below0 = true := by decide +kernel
set_option maxRecDepth 65536 in
theorem w_ripe : about1.ripe theMethod args0 below0 = true := by decide +kernel
theorem w_running : about1.status = .running := rfl
set_option maxRecDepth 65536 in
theorem w_room : about1.hasRoom e0.platform room_1 = true :=
  launch0.hasRoom_least _ room_1 (by decide +kernel) (by decide +kernel) (by decide +kernel) (by decide +kernel) (by decide +kernel) (by decide +kernel)
theorem allAtoms_all (ts : List Jvm.Cond) (a : Array Jvm.Value) (st : Jvm.State) : (allAtoms ts).before a st = ts.all (fun c => c.before a st) := by
  induction ts with
  | nil => rfl
  | cons c t ih =>
    show (Jvm.Cond.and c (allAtoms t)).before a st = _
    rw [Jvm.Cond.before_and, ih, List.all_cons]
def words1 : List Jvm.Cond := Jvm.Cond.code x code maxLocals ret :: tables_1
/-- a 'code' word, met by the world's own term for the bytes: nothing is compared byte by byte -/
theorem code_word {y : MethodName} {bytes : ByteArray} {mx : Nat} {rt : Option FieldType} {a : Array Value} {s : State} {m : MethodId} {meth : Method} {c : Code} (h1 : s.methodNamed? y = some m) (h2 : s.vm.method? m = some meth) (h3 : meth.code = some c) (h4 : c.code = bytes)
    (h5 : (c.maxLocals == mx && c.exceptionTable.isEmpty && decide (c.maxStack ≤ mostOperands) && decide (meth.sig.returnType = rt) && !meth.locks && decide (parseMethodDescriptor y.desc = some meth.sig)) = true) : (Jvm.Cond.code y bytes mx rt).before a s = true := by
  simp only [Bool.and_eq_true, beq_iff_eq, Bool.not_eq_true', decide_eq_true_eq] at h5
  obtain ⟨⟨⟨⟨⟨g1, g2⟩, g3⟩, g4⟩, g5⟩, g6⟩ := h5
  simp [Cond.before, Cond.holds, Cond.value, h1, h2, h3, h4, g1, g2, g3, g4, g5, g6]
def isCode : Jvm.Cond → Bool
  | .code _ _ _ _ => true
  | _ => false
theorem all_split {L : List Jvm.Cond} {P : Jvm.Cond → Bool} (h1 : L.all (fun c => isCode c || P c) = true) (h2 : ∀ c ∈ L.filter isCode, P c = true) : L.all P = true := by
  refine List.all_eq_true.mpr fun c hc => ?_
  have h := List.all_eq_true.mp h1 c hc
  rcases Bool.eq_false_or_eq_true (isCode c) with hi | hi
  · exact h2 c (List.mem_filter.mpr ⟨hc, hi⟩)
  · simpa [hi] using h
set_option maxRecDepth 65536 in
theorem w_c0 : (Jvm.Cond.code x code maxLocals ret).before args0 about1 = true := code_word (m := ⟨1, 1⟩) (meth := k1m1) (c := k1c1) (by decide +kernel) rfl rfl rfl (by decide +kernel)
set_option maxRecDepth 65536 in
theorem w_c1 : (Jvm.Cond.code ({ cls := "com/example/mutatune/mutatune/engine/SeededRandom", name := "<init>", desc := "(J)V" } : Jvm.MethodName) prog_47_method_1_code (5 : Nat) (Option.none : Option Jvm.ClassFile.FieldType)).before args0 about1 = true := code_word (m := ⟨2, 0⟩) (meth := k2m0) (c := k2c0) (by decide +kernel) rfl rfl rfl (by decide +kernel)
set_option maxRecDepth 65536 in
theorem w_c2 : (Jvm.Cond.code ({ cls := "java/lang/Object", name := "<init>", desc := "()V" } : Jvm.MethodName) object_method_1_code (1 : Nat) (Option.none : Option Jvm.ClassFile.FieldType)).before args0 about1 = true := code_word (m := ⟨0, 0⟩) (meth := k0m0) (c := k0c0) (by decide +kernel) rfl rfl rfl (by decide +kernel)
set_option maxRecDepth 65536 in
theorem w_c3 : (Jvm.Cond.code ({ cls := "com/example/mutatune/mutatune/engine/SeededRandom", name := "mix64", desc := "(J)J" } : Jvm.MethodName) prog_47_method_7_code (4 : Nat) (Option.some Jvm.ClassFile.FieldType.long)).before args0 about1 = true := code_word (m := ⟨2, 5⟩) (meth := k2m5) (c := k2c5) (by decide +kernel) rfl rfl rfl (by decide +kernel)
set_option maxRecDepth 65536 in
theorem w_c4 : (Jvm.Cond.code ({ cls := "com/example/mutatune/mutatune/engine/UniversalSampling", name := "<init>", desc := "([DIILcom/example/mutatune/mutatune/engine/SeededRandom;)V" } : Jvm.MethodName) prog_59_method_1_code (5 : Nat) (Option.none : Option Jvm.ClassFile.FieldType)).before args0 about1 = true := code_word (m := ⟨4, 0⟩) (meth := k4m0) (c := k4c0) (by decide +kernel) rfl rfl rfl (by decide +kernel)
set_option maxRecDepth 65536 in
theorem w_c5 : (Jvm.Cond.code ({ cls := "com/example/mutatune/mutatune/engine/UniversalSampling", name := "sample", desc := "([DILcom/example/mutatune/mutatune/engine/SeededRandom;)[I" } : Jvm.MethodName) prog_59_method_4_code (15 : Nat) (Option.some (Jvm.ClassFile.FieldType.array Jvm.ClassFile.FieldType.int))).before args0 about1 = true := code_word (m := ⟨4, 3⟩) (meth := k4m3) (c := k4c3) (by decide +kernel) rfl rfl rfl (by decide +kernel)
set_option maxRecDepth 65536 in
theorem w_c6 : (Jvm.Cond.code ({ cls := "com/example/mutatune/mutatune/engine/SeededRandom", name := "nextDouble", desc := "()D" } : Jvm.MethodName) prog_47_method_3_code (1 : Nat) (Option.some Jvm.ClassFile.FieldType.double)).before args0 about1 = true := code_word (m := ⟨2, 2⟩) (meth := k2m2) (c := k2c2) (by decide +kernel) rfl rfl rfl (by decide +kernel)
set_option maxRecDepth 65536 in
theorem w_c7 : (Jvm.Cond.code ({ cls := "com/example/mutatune/mutatune/engine/SeededRandom", name := "nextLong", desc := "()J" } : Jvm.MethodName) prog_47_method_2_code (5 : Nat) (Option.some Jvm.ClassFile.FieldType.long)).before args0 about1 = true := code_word (m := ⟨2, 1⟩) (meth := k2m1) (c := k2c1) (by decide +kernel) rfl rfl rfl (by decide +kernel)
set_option maxRecDepth 65536 in
theorem w_c8 : (Jvm.Cond.code ({ cls := "java/lang/Long", name := "rotateLeft", desc := "(JI)J" } : Jvm.MethodName) jdk_35_method_51_code (3 : Nat) (Option.some Jvm.ClassFile.FieldType.long)).before args0 about1 = true := code_word (m := ⟨10, 0⟩) (meth := k10m0) (c := k10c0) (by decide +kernel) rfl rfl rfl (by decide +kernel)
set_option maxRecDepth 65536 in
theorem w_c9 : (Jvm.Cond.code ({ cls := "com/example/mutatune/mutatune/engine/SeededRandom", name := "shuffle", desc := "([I)V" } : Jvm.MethodName) prog_47_method_5_code (5 : Nat) (Option.none : Option Jvm.ClassFile.FieldType)).before args0 about1 = true := code_word (m := ⟨2, 4⟩) (meth := k2m4) (c := k2c4) (by decide +kernel) rfl rfl rfl (by decide +kernel)
set_option maxRecDepth 65536 in
theorem w_c10 : (Jvm.Cond.code ({ cls := "com/example/mutatune/mutatune/engine/SeededRandom", name := "nextInt", desc := "(I)I" } : Jvm.MethodName) prog_47_method_4_code (6 : Nat) (Option.some Jvm.ClassFile.FieldType.int)).before args0 about1 = true := code_word (m := ⟨2, 3⟩) (meth := k2m3) (c := k2c3) (by decide +kernel) rfl rfl rfl (by decide +kernel)
set_option maxRecDepth 65536 in
theorem w_c11 : (Jvm.Cond.code ({ cls := "com/example/mutatune/mutatune/engine/UniversalSampling", name := "separatePairs", desc := "([II)V" } : Jvm.MethodName) prog_59_method_5_code (7 : Nat) (Option.none : Option Jvm.ClassFile.FieldType)).before args0 about1 = true := code_word (m := ⟨4, 4⟩) (meth := k4m4) (c := k4c4) (by decide +kernel) rfl rfl rfl (by decide +kernel)
set_option maxRecDepth 65536 in
theorem w_c12 : (Jvm.Cond.code ({ cls := "com/example/mutatune/mutatune/engine/UniversalSampling", name := "pair", desc := "(Lcom/example/mutatune/mutatune/engine/SeededRandom;)[I" } : Jvm.MethodName) prog_59_method_2_code (3 : Nat) (Option.some (Jvm.ClassFile.FieldType.array Jvm.ClassFile.FieldType.int))).before args0 about1 = true := code_word (m := ⟨4, 1⟩) (meth := k4m1) (c := k4c1) (by decide +kernel) rfl rfl rfl (by decide +kernel)
set_option maxRecDepth 65536 in
theorem w_c13 : (Jvm.Cond.code ({ cls := "com/example/mutatune/mutatune/engine/UniversalSamplingPairPinLaw", name := "tally", desc := "(III)I" } : Jvm.MethodName) method_3_code (3 : Nat) (Option.some Jvm.ClassFile.FieldType.int)).before args0 about1 = true := code_word (m := ⟨1, 2⟩) (meth := k1m2) (c := k1c2) (by decide +kernel) rfl rfl rfl (by decide +kernel)
set_option maxRecDepth 65536 in
theorem w_c14 : (Jvm.Cond.code ({ cls := "com/example/mutatune/mutatune/engine/UniversalSampling", name := "single", desc := "(Lcom/example/mutatune/mutatune/engine/SeededRandom;)I" } : Jvm.MethodName) prog_59_method_3_code (2 : Nat) (Option.some Jvm.ClassFile.FieldType.int)).before args0 about1 = true := code_word (m := ⟨4, 2⟩) (meth := k4m2) (c := k4c2) (by decide +kernel) rfl rfl rfl (by decide +kernel)
def codes1 : List Jvm.Cond := [Jvm.Cond.code x code maxLocals ret, Jvm.Cond.code ({ cls := "com/example/mutatune/mutatune/engine/SeededRandom", name := "<init>", desc := "(J)V" } : Jvm.MethodName) prog_47_method_1_code (5 : Nat) (Option.none : Option Jvm.ClassFile.FieldType), Jvm.Cond.code ({ cls := "java/lang/Object", name := "<init>", desc := "()V" } : Jvm.MethodName) object_method_1_code (1 : Nat) (Option.none : Option Jvm.ClassFile.FieldType), Jvm.Cond.code ({ cls := "com/example/mutatune/mutatune/engine/SeededRandom", name := "mix64", desc := "(J)J" } : Jvm.MethodName) prog_47_method_7_code (4 : Nat) (Option.some Jvm.ClassFile.FieldType.long), Jvm.Cond.code ({ cls := "com/example/mutatune/mutatune/engine/UniversalSampling", name := "<init>", desc := "([DIILcom/example/mutatune/mutatune/engine/SeededRandom;)V" } : Jvm.MethodName) prog_59_method_1_code (5 : Nat) (Option.none : Option Jvm.ClassFile.FieldType), Jvm.Cond.code ({ cls := "com/example/mutatune/mutatune/engine/UniversalSampling", name := "sample", desc := "([DILcom/example/mutatune/mutatune/engine/SeededRandom;)[I" } : Jvm.MethodName) prog_59_method_4_code (15 : Nat) (Option.some (Jvm.ClassFile.FieldType.array Jvm.ClassFile.FieldType.int)), Jvm.Cond.code ({ cls := "com/example/mutatune/mutatune/engine/SeededRandom", name := "nextDouble", desc := "()D" } : Jvm.MethodName) prog_47_method_3_code (1 : Nat) (Option.some Jvm.ClassFile.FieldType.double), Jvm.Cond.code ({ cls := "com/example/mutatune/mutatune/engine/SeededRandom", name := "nextLong", desc := "()J" } : Jvm.MethodName) prog_47_method_2_code (5 : Nat) (Option.some Jvm.ClassFile.FieldType.long), Jvm.Cond.code ({ cls := "java/lang/Long", name := "rotateLeft", desc := "(JI)J" } : Jvm.MethodName) jdk_35_method_51_code (3 : Nat) (Option.some Jvm.ClassFile.FieldType.long), Jvm.Cond.code ({ cls := "com/example/mutatune/mutatune/engine/SeededRandom", name := "shuffle", desc := "([I)V" } : Jvm.MethodName) prog_47_method_5_code (5 : Nat) (Option.none : Option Jvm.ClassFile.FieldType), Jvm.Cond.code ({ cls := "com/example/mutatune/mutatune/engine/SeededRandom", name := "nextInt", desc := "(I)I" } : Jvm.MethodName) prog_47_method_4_code (6 : Nat) (Option.some Jvm.ClassFile.FieldType.int), Jvm.Cond.code ({ cls := "com/example/mutatune/mutatune/engine/UniversalSampling", name := "separatePairs", desc := "([II)V" } : Jvm.MethodName) prog_59_method_5_code (7 : Nat) (Option.none : Option Jvm.ClassFile.FieldType), Jvm.Cond.code ({ cls := "com/example/mutatune/mutatune/engine/UniversalSampling", name := "pair", desc := "(Lcom/example/mutatune/mutatune/engine/SeededRandom;)[I" } : Jvm.MethodName) prog_59_method_2_code (3 : Nat) (Option.some (Jvm.ClassFile.FieldType.array Jvm.ClassFile.FieldType.int)), Jvm.Cond.code ({ cls := "com/example/mutatune/mutatune/engine/UniversalSamplingPairPinLaw", name := "tally", desc := "(III)I" } : Jvm.MethodName) method_3_code (3 : Nat) (Option.some Jvm.ClassFile.FieldType.int), Jvm.Cond.code ({ cls := "com/example/mutatune/mutatune/engine/UniversalSampling", name := "single", desc := "(Lcom/example/mutatune/mutatune/engine/SeededRandom;)I" } : Jvm.MethodName) prog_59_method_3_code (2 : Nat) (Option.some Jvm.ClassFile.FieldType.int)]
set_option maxRecDepth 65536 in
theorem codes_eq : words1.filter isCode = codes1 := rfl
theorem w_codes : ∀ c ∈ words1.filter isCode, c.before args0 about1 = true := by
  rw [codes_eq]
  intro c hc
  simp only [codes1, List.mem_cons, List.not_mem_nil, or_false] at hc
  rcases hc with rfl | rfl | rfl | rfl | rfl | rfl | rfl | rfl | rfl | rfl | rfl | rfl | rfl | rfl | rfl
  · exact w_c0
  · exact w_c1
  · exact w_c2
  · exact w_c3
  · exact w_c4
  · exact w_c5
  · exact w_c6
  · exact w_c7
  · exact w_c8
  · exact w_c9
  · exact w_c10
  · exact w_c11
  · exact w_c12
  · exact w_c13
  · exact w_c14
set_option maxRecDepth 65536 in
theorem w_t1 : (words1.take 24).all (fun c => isCode c || c.before args0 about1) = true := by decide +kernel
set_option maxRecDepth 65536 in
theorem w_t2 : ((words1.drop 24).take 24).all (fun c => isCode c || c.before args0 about1) = true := by decide +kernel
set_option maxRecDepth 65536 in
theorem w_t3 : (((words1.drop 24).drop 24).take 24).all (fun c => isCode c || c.before args0 about1) = true := by decide +kernel
set_option maxRecDepth 65536 in
theorem w_t4 : (((words1.drop 24).drop 24).drop 24).all (fun c => isCode c || c.before args0 about1) = true := by decide +kernel
theorem w_tables : (allAtoms (Jvm.Cond.code x code maxLocals ret :: tables_1)).before args0 about1 = true := by
  rw [allAtoms_all]
  show words1.all (fun c => c.before args0 about1) = true
  refine all_split ?_ w_codes
  rw [← List.take_append_drop 24 words1, List.all_append, w_t1, ← List.take_append_drop 24 (words1.drop 24), List.all_append, w_t2, ← List.take_append_drop 24 ((words1.drop 24).drop 24), List.all_append, w_t3, w_t4]
  rfl
set_option maxRecDepth 65536 in
theorem w_case : (Jvm.Cond.and given_1 narrow_1).before args0 about1 = true := by decide +kernel
theorem w_applies : (headSpec (Jvm.Cond.code x code maxLocals ret :: tables_1) room_1).applies x e0.platform about1 = true :=
  (Spec.applies_iff w_frames).mpr ⟨w_running, w_runnable, w_alone, w_named, w_hears, w_ripe, w_room, w_tables⟩
theorem atStart : AtStart classFile x code maxLocals ret World_1 tables_1 room_1 Calls_1 rest_1 Pre_1 launch0 p0 e0 about1 theMethod args0 below0 :=
  ⟨lists_1, trivial, launch0.admits_env _ _ _, launch0.least_env, fairChoices_fair.cas, fairChoices_fair.clock, w_frames, w_args, w_heap, w_applies, trivial, trivial, w_case⟩
end start1
theorem witness_1 : WitnessClaimed_1 := ⟨start1.p0, start1.e0, start1.about1, start1.theMethod, start1.args0, start1.below0, start1.atStart⟩
end Jvm.Pilot.@@N@@
