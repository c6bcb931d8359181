import JvmDerived
import JvmDerived.Pilot.@@N@@Statement
import JvmDerived.Pilot.@@N@@Code
set_option linter.unusedVariables false
set_option linter.unusedSimpArgs false
namespace Jvm.Pilot.@@N@@
open Jvm Jvm.ClassFile Sem Op Lib Jvm.Free Jvm.Stand Jvm.LawKit Jvm.RoadKit Bundle Jvm.Pilot.@@N@@.Jvm.D
section OwnJump
open Jvm.FP Jvm.FP.Core
def own_step (st : Int64) : Int64 := (st * (2862933555777941757 : Int64)) + (1 : Int64)
def own_dv (s : Int64) : Int64 := (((s.toUInt64 >>> ((33 : Int32) &&& 0x3f).toInt64.toUInt64).toInt64) + (1 : Int64))
def own_q (s : Int64) : UInt64 := FP.ddiv 4746794007248502784 (FP.l2d (own_dv s))
def own_nxt (b s : Int64) : Int64 := FP.d2l (FP.dmul (FP.l2d (b + (1 : Int64))) (own_q s))
theorem own_p33 : ((2 ^ 33 : Nat) : Int) = 8589934592 := by decide
theorem own_dv_rng (s : Int64) : 1 ≤ (own_dv s).toInt ∧ (own_dv s).toInt ≤ 2147483648 := by
  obtain ⟨v, hv⟩ : ∃ v : Int64, v = ((s.toUInt64 >>> ((33 : Int32) &&& 0x3f).toInt64.toUInt64).toInt64) := ⟨_, rfl⟩
  have h1 := c_lushr s 33 33 (by decide) (by decide)
  rw [← hv, own_p33] at h1
  have h2 := c_ladd v (1 : Int64)
  have h3 : (1 : Int64).toInt = 1 := rfl
  have h4 : own_dv s = v + 1 := by rw [hv]; rfl
  rw [h3, ← h4] at h2
  have h5 := (own_dv s).toInt_lt
  have h6 := (own_dv s).le_toInt
  omega
theorem own_jval : val64 4746794007248502784 = .fin false (2 ^ 52) (-21) := by decide +kernel
theorem own_oneval : val64 4607182418800017408 = .fin false (2 ^ 52) (-52) := by decide +kernel
theorem own_zmag_fin (s : Bool) (c : Nat) (q : Int) : zmag b64 (.fin s c q) = c * 2 ^ (q - b64.qmin).toNat := rfl
theorem own_qmin : b64.qmin = -1074 := by decide
theorem own_qmax : b64.qmax = 971 := by decide
theorem own_quot2 (s t : Bool) (c d : Nat) (q r : Int) (hd : d ≠ 0) : quotient b64 (.fin s c q) (.fin t d r) = roundRatio b64 (s != t) c d (q - r) := by
  show (if d = 0 then _ else roundRatio b64 (s != t) c d (q - r)) = _
  rw [if_neg hd]
/-- a quotient of finite doubles is at least V, if V times the divisor is at most the dividend -/
theorem own_div_ge {a b : UInt64} {s t : Bool} {c d : Nat} {q r : Int} {V : Datum} (ha : val64 a = .fin s c q) (hb : val64 b = .fin t d r) (hd : d ≠ 0) (fV : Core.fits b64 V)
    (h : zmag b64 V * zmag b64 (val64 b) ≤ zmag b64 (val64 a) * one64) : zmag b64 V ≤ zmag b64 (val64 (Core.ddiv a b)) := by
  have fa := val64_fits a
  have fb := val64_fits b
  rw [ha] at fa
  rw [hb] at fb
  obtain ⟨a1, a2, a3, -⟩ := fa
  obtain ⟨b1, b2, b3, -⟩ := fb
  rw [own_qmin] at a2 b2
  rw [own_qmax] at a3 b3
  rw [val64_ddiv, ha, hb, own_quot2 _ _ _ _ _ _ hd]
  rw [ha, hb, own_zmag_fin, own_zmag_fin, own_qmin] at h
  refine zmag_roundRatio_ge good_b64 (e0 := -4000) (Nat.pos_of_ne_zero hd) fV (by rw [own_qmin]; omega) (by omega) ?_
  rw [own_qmin, show inUnits c (q - r) (-4000) = c * 2 ^ (q - r - -4000).toNat from rfl, show ((-1074 : Int) - -4000).toNat = 2926 from rfl]
  refine Nat.le_of_mul_le_mul_right (c := 2 ^ (r - -1074).toNat) ?_ (Nat.two_pow_pos _)
  have e1 : c * 2 ^ (q - r - -4000).toNat * 2 ^ (r - -1074).toNat = c * 2 ^ (q - -1074).toNat * one64 * 2 ^ 2926 := by
    rw [show one64 = 2 ^ 1074 from rfl, Nat.mul_assoc, ← Nat.pow_add, Nat.mul_assoc, Nat.mul_assoc, ← Nat.pow_add, ← Nat.pow_add, show (q - r - -4000).toNat + (r - -1074).toNat = (q - -1074).toNat + (1074 + 2926) by omega]
  have e2 : zmag b64 V * 2 ^ 2926 * d * 2 ^ (r - -1074).toNat = zmag b64 V * (d * 2 ^ (r - -1074).toNat) * 2 ^ 2926 := by
    rw [Nat.mul_assoc, Nat.mul_right_comm]
  rw [e1, e2]
  exact Nat.mul_le_mul_right _ h
theorem own_div_mag_le {a b : UInt64} {s t : Bool} {c d : Nat} {q r : Int} {V : Datum} (ha : val64 a = .fin s c q) (hb : val64 b = .fin t d r) (hd : d ≠ 0) (fV : Core.fits b64 V) (nV : V ≠ .nan)
    (h : zmag b64 (val64 a) * one64 ≤ zmag b64 V * zmag b64 (val64 b)) : zmag b64 (val64 (Core.ddiv a b)) ≤ zmag b64 V := by
  have fa := val64_fits a
  have fb := val64_fits b
  rw [ha] at fa
  rw [hb] at fb
  obtain ⟨a1, a2, a3, -⟩ := fa
  obtain ⟨b1, b2, b3, -⟩ := fb
  rw [own_qmin] at a2 b2
  rw [own_qmax] at a3 b3
  rw [val64_ddiv, ha, hb, own_quot2 _ _ _ _ _ _ hd]
  rw [ha, hb, own_zmag_fin, own_zmag_fin, own_qmin] at h
  refine zmag_roundRatio_le good_b64 (e0 := -4000) (Nat.pos_of_ne_zero hd) fV nV (by rw [own_qmin]; omega) (by omega) ?_
  rw [own_qmin, show inUnits c (q - r) (-4000) = c * 2 ^ (q - r - -4000).toNat from rfl, show ((-1074 : Int) - -4000).toNat = 2926 from rfl]
  refine Nat.le_of_mul_le_mul_right (c := 2 ^ (r - -1074).toNat) ?_ (Nat.two_pow_pos _)
  have e1 : c * 2 ^ (q - r - -4000).toNat * 2 ^ (r - -1074).toNat = c * 2 ^ (q - -1074).toNat * one64 * 2 ^ 2926 := by
    rw [show one64 = 2 ^ 1074 from rfl, Nat.mul_assoc, ← Nat.pow_add, Nat.mul_assoc, Nat.mul_assoc, ← Nat.pow_add, ← Nat.pow_add, show (q - r - -4000).toNat + (r - -1074).toNat = (q - -1074).toNat + (1074 + 2926) by omega]
  have e2 : zmag b64 V * 2 ^ 2926 * d * 2 ^ (r - -1074).toNat = zmag b64 V * (d * 2 ^ (r - -1074).toNat) * 2 ^ 2926 := by
    rw [Nat.mul_assoc, Nat.mul_right_comm]
  rw [e1, e2]
  exact Nat.mul_le_mul_right _ h
/-- a product of finite doubles is at least V, if their exact product is -/
theorem own_mul_ge {a b : UInt64} {s t : Bool} {c d : Nat} {q r : Int} {V : Datum} (ha : val64 a = .fin s c q) (hb : val64 b = .fin t d r) (fV : Core.fits b64 V)
    (h : zmag b64 V * one64 ≤ zmag b64 (val64 a) * zmag b64 (val64 b)) : zmag b64 V ≤ zmag b64 (val64 (Core.dmul a b)) := by
  have fa := val64_fits a
  have fb := val64_fits b
  rw [ha] at fa
  rw [hb] at fb
  obtain ⟨e1, e2, e3⟩ := product_units fa fb
  rw [val64_dmul, ha, hb, e1]
  rw [ha, hb] at h
  refine zmag_roundRatio_ge good_b64 (e0 := 2 * b64.qmin) (by decide) fV (by rw [own_qmin]; omega) e2 ?_
  rw [e3, Nat.mul_one, own_qmin]
  exact h
theorem own_mul_sgn {a b : UInt64} {s t : Bool} {c d : Nat} {q r : Int} (ha : val64 a = .fin s c q) (hb : val64 b = .fin t d r) : sgn (val64 (Core.dmul a b)) = (s != t) := by
  rw [val64_dmul, ha, hb]
  exact sgn_roundRatio _ _ _ _ _
theorem own_div_sgn {a b : UInt64} {s t : Bool} {c d : Nat} {q r : Int} (ha : val64 a = .fin s c q) (hb : val64 b = .fin t d r) (hd : d ≠ 0) : sgn (val64 (Core.ddiv a b)) = (s != t) := by
  rw [val64_ddiv, ha, hb, own_quot2 _ _ _ _ _ _ hd]
  exact sgn_roundRatio _ _ _ _ _
/-- l2d of a positive long up to 2^53 -/
theorem own_l2d_pos {v : Int64} (h1 : 0 < v.toInt) (h2 : v.toInt ≤ 9007199254740992) : ∃ c q, val64 (Core.l2d v) = .fin false c q ∧ c ≠ 0 ∧ zmag b64 (val64 (Core.l2d v)) = v.toInt.toNat * one64 := by
  obtain ⟨c, q, hv⟩ := l2d_shape v
  rw [show decide (v.toInt < 0) = false from decide_eq_false (by omega)] at hv
  have hd : DInt v.toInt (Core.l2d v) := l2d_int (by omega)
  have hz := DInt_zval hd
  have hz2 : ((zmag b64 (val64 (Core.l2d v)) : Nat) : Int) = v.toInt * (one64 : Int) := by
    rw [hv] at hz ⊢
    exact hz
  have e1 : zmag b64 (val64 (Core.l2d v)) = v.toInt.toNat * one64 := by
    have h3 : v.toInt = ((v.toInt.toNat : Nat) : Int) := by omega
    rw [h3] at hz2
    exact_mod_cast hz2
  refine ⟨c, q, hv, fun h0 => ?_, e1⟩
  subst h0
  rw [hv, own_zmag_fin, Nat.zero_mul] at e1
  have := Nat.mul_pos (show 0 < v.toInt.toNat by omega) one64_pos
  omega
theorem own_one_zmag : zmag b64 (val64 4607182418800017408) = one64 := by
  rw [own_oneval, own_zmag_fin, own_qmin, show ((-52 : Int) - -1074).toNat = 1022 from rfl, ← Nat.pow_add]
  rfl
theorem own_j_zmag : zmag b64 (val64 4746794007248502784) = 2147483648 * one64 := by
  rw [own_jval, own_zmag_fin, own_qmin, show ((-21 : Int) - -1074).toNat = 1053 from rfl, show one64 = 2 ^ 1074 from rfl, show (2147483648 : Nat) = 2 ^ 31 from rfl, ← Nat.pow_add, ← Nat.pow_add]
theorem own_q_ge (s : Int64) : one64 ≤ zmag b64 (val64 (own_q s)) ∧ sgn (val64 (own_q s)) = false := by
  obtain ⟨h1, h2⟩ := own_dv_rng s
  obtain ⟨c, q, e1, e2, e3⟩ := own_l2d_pos (v := own_dv s) (by omega) (by omega)
  refine ⟨?_, own_div_sgn own_jval e1 e2⟩
  have := own_div_ge own_jval e1 e2 (V := val64 4607182418800017408) (val64_fits _) (by
    rw [e3, own_one_zmag, own_j_zmag, Nat.mul_comm one64]
    refine Nat.mul_le_mul_right _ (Nat.mul_le_mul_right _ ?_)
    omega)
  rw [own_one_zmag] at this
  exact this
theorem own_q_fin (s : Int64) : DFin (own_q s) := by
  obtain ⟨h1, h2⟩ := own_dv_rng s
  obtain ⟨b1, b2⟩ := Core.l2d_big (v := own_dv s) (by omega)
  have := Core.ddiv_mag (a := 4746794007248502784) (b := Core.l2d (own_dv s)) (K := 1055) (L := 1023) (by decide) b1 b2 (by decide) (by decide)
  exact fin_of_lt this (by decide)
theorem own_q_nn (s : Int64) : Jvm.Free.Fl.NoNaN64 (own_q s) := (Jvm.Free.Fl.fin64_core.mpr (own_q_fin s)).noNaN
theorem own_m_nn (b s : Int64) : Jvm.Free.Fl.NoNaN64 (FP.dmul (FP.l2d (b + (1 : Int64))) (own_q s)) :=
  Jvm.Free.Fl.dmul_out (Jvm.Free.Fl.fin64_core.mpr (l2d_fin _)) (Jvm.Free.Fl.fin64_core.mpr (own_q_fin s))
theorem own_nxt_ge {b : Int64} (s : Int64) (h1 : 0 ≤ b.toInt) (h2 : b.toInt < 2147483648) : b.toInt + 1 ≤ (own_nxt b s).toInt := by
  have hb : (b + (1 : Int64)).toInt = b.toInt + 1 := by
    have q1 := c_ladd b (1 : Int64)
    have q2 : (1 : Int64).toInt = 1 := rfl
    have q3 := (b + (1 : Int64)).toInt_lt
    have q4 := (b + (1 : Int64)).le_toInt
    rw [q2] at q1
    omega
  obtain ⟨c, q, e1, e2, e3⟩ := own_l2d_pos (v := b + (1 : Int64)) (by omega) (by omega)
  obtain ⟨s', c', q', f1⟩ := own_q_fin s
  obtain ⟨g1, g2⟩ := own_q_ge s
  rw [f1] at g2
  have g2 : s' = false := g2
  subst g2
  have hnn : Core.dIsNaN (Core.dmul (Core.l2d (b + (1 : Int64))) (own_q s)) = false := Core.dmul_out (l2d_fin _) (own_q_fin s)
  have hm := own_mul_ge e1 f1 (V := val64 (Core.l2d (b + (1 : Int64)))) (val64_fits _) (Nat.mul_le_mul_left _ g1)
  have hs := own_mul_sgn e1 f1
  have hv := d2l_val ((notNaN_iff _).mp hnn)
  show _ ≤ (Core.d2l (Core.dmul (Core.l2d (b + (1 : Int64))) (own_q s))).toInt
  rw [hv, hs]
  rw [e3] at hm
  have hdiv : (b + (1 : Int64)).toInt.toNat ≤ zmag b64 (val64 (Core.dmul (Core.l2d (b + (1 : Int64))) (own_q s))) / one64 := (Nat.le_div_iff_mul_le one64_pos).mpr hm
  generalize zmag b64 (val64 (Core.dmul (Core.l2d (b + (1 : Int64))) (own_q s))) / one64 = w at hdiv ⊢
  rw [show signed (false != false) w = (w : Int) from rfl]
  omega
/-- the loop: by turns left -/
def own_jump : Nat → Int64 → Int64 → Int64 → Int32 → Int64
  | 0, _, b, _, _ => b
  | k + 1, st, b, nx, n => if nx < n.toInt64 then own_jump k (own_step st) nx (own_nxt nx (own_step st)) n else b
theorem own_jump_out (k : Nat) (st b nx : Int64) (n : Int32) (h : ¬ nx < n.toInt64) : own_jump k st b nx n = b := by
  cases k with
  | zero => rfl
  | succ k => exact if_neg h
theorem own_jump_in (k : Nat) (st b nx : Int64) (n : Int32) (h : nx < n.toInt64) : own_jump (k + 1) st b nx n = own_jump k (own_step st) nx (own_nxt nx (own_step st)) n := if_pos h
theorem own_lt64 {x : Int64} {n : Int32} : x < n.toInt64 ↔ x.toInt < n.toInt := by rw [Int64.lt_iff_toInt_lt, c_i2l]
theorem own_jump_rng (n : Int32) : ∀ (k : Nat) (st b nx : Int64), 0 ≤ nx.toInt → nx.toInt < n.toInt → n.toInt - nx.toInt < k → nx.toInt ≤ (own_jump k st b nx n).toInt ∧ (own_jump k st b nx n).toInt < n.toInt := by
  intro k
  induction k with
  | zero => intro st b nx h1 h2 h3; omega
  | succ k ih =>
    intro st b nx h1 h2 h3
    have hn := n.toInt_lt
    rw [own_jump_in k st b nx n (own_lt64.mpr h2)]
    have hg := own_nxt_ge (own_step st) h1 (by omega)
    by_cases h : (own_nxt nx (own_step st)).toInt < n.toInt
    · have := ih (own_step st) nx (own_nxt nx (own_step st)) (by omega) h (by omega)
      omega
    · rw [own_jump_out _ _ _ _ _ (fun q => h (own_lt64.mp q))]
      omega
theorem own_jump_two {n m : Int32} (hnm : n.toInt ≤ m.toInt) : ∀ (k : Nat) (st b nx : Int64), 0 ≤ nx.toInt → nx.toInt < n.toInt → m.toInt - nx.toInt < k → own_jump k st b nx m = own_jump k st b nx n ∨ n.toInt ≤ (own_jump k st b nx m).toInt := by
  intro k
  induction k with
  | zero => intro st b nx h1 h2 h3; omega
  | succ k ih =>
    intro st b nx h1 h2 h3
    have hm := m.toInt_lt
    rw [own_jump_in k st b nx n (own_lt64.mpr h2), own_jump_in k st b nx m (own_lt64.mpr (by omega))]
    have hg := own_nxt_ge (own_step st) h1 (by omega)
    by_cases h : (own_nxt nx (own_step st)).toInt < n.toInt
    · exact ih (own_step st) nx (own_nxt nx (own_step st)) (by omega) h (by omega)
    · rw [own_jump_out _ _ _ _ n (fun q => h (own_lt64.mp q))]
      by_cases h' : (own_nxt nx (own_step st)).toInt < m.toInt
      · right
        have := own_jump_rng m k (own_step st) nx (own_nxt nx (own_step st)) (by omega) h' (by omega)
        omega
      · left
        exact own_jump_out _ _ _ _ m (fun q => h' (own_lt64.mp q))
theorem own_ge_t {x y : Int64} (h : ¬ x < y) : ifCond.holds .ge (lcmpW x y) = true := by
  have h1 := c_lcmp x y
  rw [Int64.lt_iff_toInt_lt] at h
  refine XT.i0_ge_t ?_
  rw [Int32.lt_iff_toInt_lt, show (0 : Int32).toInt = 0 from rfl]
  rcases Int.lt_trichotomy x.toInt y.toInt with q | q | q
  · omega
  · rw [h1.2.1 q]; omega
  · rw [h1.2.2 q]; omega
theorem own_ge_f {x y : Int64} (h : x < y) : ifCond.holds .ge (lcmpW x y) = false := by
  have h1 := c_lcmp x y
  rw [Int64.lt_iff_toInt_lt] at h
  refine XT.i0_ge_f ?_
  rw [Int32.lt_iff_toInt_lt, show (0 : Int32).toInt = 0 from rfl, h1.1 h]
  omega
end OwnJump
def Q1 (Z : State) (ky : Int64) (n : Int32) (K : Nat) (h0 : Heap) (n0 : Nat) (v : Option Value) (h : Heap) (L : List Loc) : Prop := v = some (.int ((own_jump K ky (-1) 0 n).toInt32)) ∧ Fr n0 L ∧ h = h0
theorem pn0 : plainName "com/example/vnode/vnode/jump/JumpHash" = true := by first | (simp [plainName, overriddenIn]; done) | decide +kernel
theorem ef1 (m : MethodId) (x0 : Int64) (x1 : Int32) : entryFrame m #[(.long x0), (.int x1)] 9 = mkF m 0 #[.val (.long x0), .second, .val (.int x1), .unset, .unset, .unset, .unset, .unset, .unset] [] := by first | (simp [entryFrame, mkF, argsToLocals, Value.category]; done) | rfl
theorem d1_0 : decode prog_4_method_2_code 0 = .ok (.iload_n 2, 1) := by decide +kernel
theorem d1_1 : decode prog_4_method_2_code 1 = .ok (.iconst 1, 1) := by decide +kernel
theorem d1_2 : decode prog_4_method_2_code 2 = .ok (.if_icmp .ge 17, 3) := by decide +kernel
theorem d1_19 : decode prog_4_method_2_code 19 = .ok (.lload_n 0, 1) := by decide +kernel
theorem d1_20 : decode prog_4_method_2_code 20 = .ok (.lstore_n 3, 1) := by decide +kernel
theorem d1_21 : decode prog_4_method_2_code 21 = .ok (.ldc2_w 16, 3) := by decide +kernel
theorem d1_24 : decode prog_4_method_2_code 24 = .ok (.lstore 5, 2) := by decide +kernel
theorem d1_26 : decode prog_4_method_2_code 26 = .ok (.lconst 0, 1) := by decide +kernel
theorem d1_27 : decode prog_4_method_2_code 27 = .ok (.lstore 7, 2) := by decide +kernel
theorem d1_29 : decode prog_4_method_2_code 29 = .ok (.lload 7, 2) := by decide +kernel
theorem d1_31 : decode prog_4_method_2_code 31 = .ok (.iload_n 2, 1) := by decide +kernel
theorem d1_32 : decode prog_4_method_2_code 32 = .ok (.i2l, 1) := by decide +kernel
theorem d1_33 : decode prog_4_method_2_code 33 = .ok (.lcmp, 1) := by decide +kernel
theorem d1_34 : decode prog_4_method_2_code 34 = .ok (.ifCond .ge 38, 3) := by decide +kernel
theorem d1_37 : decode prog_4_method_2_code 37 = .ok (.lload 7, 2) := by decide +kernel
theorem d1_39 : decode prog_4_method_2_code 39 = .ok (.lstore 5, 2) := by decide +kernel
theorem d1_41 : decode prog_4_method_2_code 41 = .ok (.lload_n 3, 1) := by decide +kernel
theorem d1_42 : decode prog_4_method_2_code 42 = .ok (.ldc2_w 20, 3) := by decide +kernel
theorem d1_45 : decode prog_4_method_2_code 45 = .ok (.lmul, 1) := by decide +kernel
theorem d1_46 : decode prog_4_method_2_code 46 = .ok (.lconst 1, 1) := by decide +kernel
theorem d1_47 : decode prog_4_method_2_code 47 = .ok (.ladd, 1) := by decide +kernel
theorem d1_48 : decode prog_4_method_2_code 48 = .ok (.lstore_n 3, 1) := by decide +kernel
theorem d1_49 : decode prog_4_method_2_code 49 = .ok (.lload 5, 2) := by decide +kernel
theorem d1_51 : decode prog_4_method_2_code 51 = .ok (.lconst 1, 1) := by decide +kernel
theorem d1_52 : decode prog_4_method_2_code 52 = .ok (.ladd, 1) := by decide +kernel
theorem d1_53 : decode prog_4_method_2_code 53 = .ok (.l2d, 1) := by decide +kernel
theorem d1_54 : decode prog_4_method_2_code 54 = .ok (.ldc2_w 22, 3) := by decide +kernel
theorem d1_57 : decode prog_4_method_2_code 57 = .ok (.lload_n 3, 1) := by decide +kernel
theorem d1_58 : decode prog_4_method_2_code 58 = .ok (.bipush 33, 2) := by decide +kernel
theorem d1_60 : decode prog_4_method_2_code 60 = .ok (.lushr, 1) := by decide +kernel
theorem d1_61 : decode prog_4_method_2_code 61 = .ok (.lconst 1, 1) := by decide +kernel
theorem d1_62 : decode prog_4_method_2_code 62 = .ok (.ladd, 1) := by decide +kernel
theorem d1_63 : decode prog_4_method_2_code 63 = .ok (.l2d, 1) := by decide +kernel
theorem d1_64 : decode prog_4_method_2_code 64 = .ok (.ddiv, 1) := by decide +kernel
theorem d1_65 : decode prog_4_method_2_code 65 = .ok (.dmul, 1) := by decide +kernel
theorem d1_66 : decode prog_4_method_2_code 66 = .ok (.d2l, 1) := by decide +kernel
theorem d1_67 : decode prog_4_method_2_code 67 = .ok (.lstore 7, 2) := by decide +kernel
theorem d1_69 : decode prog_4_method_2_code 69 = .ok (.goto (-40), 3) := by decide +kernel
theorem d1_72 : decode prog_4_method_2_code 72 = .ok (.lload 5, 2) := by decide +kernel
theorem d1_74 : decode prog_4_method_2_code 74 = .ok (.l2i, 1) := by decide +kernel
theorem d1_75 : decode prog_4_method_2_code 75 = .ok (.ireturn, 1) := by decide +kernel
set_option maxRecDepth 65536 in
set_option maxHeartbeats 40000000 in
theorem rm1 (l : Launch) (Z : State) (a0 : Array Value) (hw : ∀ d ∈ tables_1, d.before a0 Z = true) (ws : List Jvm.Cond) (ky : Int64) (n : Int32) (K : Nat) (h0 : Heap) (n0 : Nat) (Z0 : n0 ≤ h0.size) (hn1 : ¬ n < (1 : Int32)) (hK : n.toInt < K) :
    MetFree l (⟨"com/example/vnode/vnode/jump/JumpHash", "bucketOf", "(JI)I"⟩ : MethodName) (head1 (Jvm.Cond.code (⟨"com/example/vnode/vnode/jump/JumpHash", "bucketOf", "(JI)I"⟩ : MethodName) prog_4_method_2_code 9 (some .int) :: ws) ({ frames := 0, cells := 0, slots := 0, locals := 0 } : Room)) (fun a U => a = #[(.long ky), (.int n)] ∧ Z.Warmed39 U.vm ∧ U.heap = h0) (fun _ _ _ _ _ => True) (fun _ U o U' => ∃ v L, o = .returned v ∧ Q1 Z ky n K h0 n0 v U'.heap L ∧ FrameEnd U o U' L ({ frames := 0, cells := 0, slots := 0, locals := 0 } : Room).cells ({ frames := 0, cells := 0, slots := 0, locals := 0 } : Room).slots) := by
  refine MetFree.of_bodySF (plainFor_of_name pn0) hisR ?_
  intro p e s m args below meth c s₁ Bd hml0 hP hK
  obtain ⟨rfl, hZ, hh⟩ := hP
  have hx := Bd.exec
  have hby := Bd.bytes
  have hml : c.maxLocals = 9 := hml0
  have hown : s.vm.findClass "com/example/vnode/vnode/jump/JumpHash" = some m.cls := findClass_of_methodNamed Bd.named
  have hnm := (name_of_methodNamed Bd.named Bd.method).1
  have X0 : Stand p l e ({ frames := 0, cells := 0, slots := 0, locals := 0 } : Room) s m #[(.long ky), (.int n)] below meth c s₁ [] 0 0 := Stand.of_body Bd
  have e0 : s₁.heap = h0 := by rw [← hh, Bd.state]; rfl
  have N0 := Fr.nil n0
  have pre0 : ∀ t, Steps p.tables e below (s₁.setTop (mkF m 0 #[.val (.long ky), .second, .val (.int n), .unset, .unset, .unset, .unset, .unset, .unset] [])) t → Steps p.tables e below (s₁.setTop (entryFrame m #[(.long ky), (.int n)] 9)) t := fun t k => castTop (ef1 m ky n) k
  have C1 : ∀ t, Steps p.tables e below (s₁.setTop (mkF m 29 #[.val (.long ky), .second, .val (.int n), .val (.long ky), .second, .val (.long (-1 : Int64)), .second, .val (.long (0 : Int64)), .second] [])) t → Steps p.tables e below (s₁.setTop (entryFrame m #[(.long ky), (.int n)] 9)) t := by
    intro t k
    refine pre0 t ?_
    show Steps p.tables e below (s₁.setTop (mkF m 0 #[.val (.long ky), .second, .val (.int n), .unset, .unset, .unset, .unset, .unset, .unset] [])) _
    refine XS.iloadN X0.here hx rfl (hb hby d1_0) rfl ?_
    show Steps p.tables e below (s₁.setTop (mkF m 1 #[.val (.long ky), .second, .val (.int n), .unset, .unset, .unset, .unset, .unset, .unset] [(.int n)])) _
    refine XS.iconst X0.here hx rfl (hb hby d1_1) ?_
    show Steps p.tables e below (s₁.setTop (mkF m 2 #[.val (.long ky), .second, .val (.int n), .unset, .unset, .unset, .unset, .unset, .unset] [(.int (1 : Int32)), (.int n)])) _
    refine XS.icmpYes X0.here hx rfl (pc0 := 2) (pc' := 19) rfl (hb hby d1_2) rfl (XT.ii_ge_t hn1) (by decide) (by decide) ?_
    show Steps p.tables e below (s₁.setTop (mkF m 19 #[.val (.long ky), .second, .val (.int n), .unset, .unset, .unset, .unset, .unset, .unset] [])) _
    refine XS.lloadN X0.here hx rfl (hb hby d1_19) rfl ?_
    show Steps p.tables e below (s₁.setTop (mkF m 20 #[.val (.long ky), .second, .val (.int n), .unset, .unset, .unset, .unset, .unset, .unset] [(.long ky)])) _
    refine XS.lstoreN X0.here hx rfl (hb hby d1_20) rfl (l' := #[.val (.long ky), .second, .val (.int n), .val (.long ky), .second, .unset, .unset, .unset, .unset]) rfl ?_
    show Steps p.tables e below (s₁.setTop (mkF m 21 #[.val (.long ky), .second, .val (.int n), .val (.long ky), .second, .unset, .unset, .unset, .unset] [])) _
    refine X0.ldc2Long hx hown (mvT hZ (hw _ (List.mem_of_getElem? (i := 5) rfl))) (g := (mkF m 21 #[.val (.long ky), .second, .val (.int n), .val (.long ky), .second, .unset, .unset, .unset, .unset] [])) rfl (hb hby d1_21) _ ?_
    show Steps p.tables e below (s₁.setTop (mkF m 24 #[.val (.long ky), .second, .val (.int n), .val (.long ky), .second, .unset, .unset, .unset, .unset] [(.long (-1 : Int64))])) _
    refine XS.lstore X0.here hx rfl (hb hby d1_24) rfl (l' := #[.val (.long ky), .second, .val (.int n), .val (.long ky), .second, .val (.long (-1 : Int64)), .second, .unset, .unset]) rfl ?_
    show Steps p.tables e below (s₁.setTop (mkF m 26 #[.val (.long ky), .second, .val (.int n), .val (.long ky), .second, .val (.long (-1 : Int64)), .second, .unset, .unset] [])) _
    refine XS.lconst X0.here hx rfl (hb hby d1_26) ?_
    show Steps p.tables e below (s₁.setTop (mkF m 27 #[.val (.long ky), .second, .val (.int n), .val (.long ky), .second, .val (.long (-1 : Int64)), .second, .unset, .unset] [(.long (0 : Int64))])) _
    refine XS.lstore X0.here hx rfl (hb hby d1_27) rfl (l' := #[.val (.long ky), .second, .val (.int n), .val (.long ky), .second, .val (.long (-1 : Int64)), .second, .val (.long (0 : Int64)), .second]) rfl ?_
    exact k
  have loop : ∀ (k : Nat) (st b nx : Int64), 0 ≤ nx.toInt → n.toInt - nx.toInt < k → ∃ st' nx' : Int64, ∀ t, Steps p.tables e below (s₁.setTop (mkF m 72 #[.val (.long ky), .second, .val (.int n), .val (.long st'), .second, .val (.long (own_jump k st b nx n)), .second, .val (.long nx'), .second] [])) t → Steps p.tables e below (s₁.setTop (mkF m 29 #[.val (.long ky), .second, .val (.int n), .val (.long st), .second, .val (.long b), .second, .val (.long nx), .second] [])) t := by
    intro k
    induction k with
    | zero =>
      intro st b nx h1 h2
      have hlt : ¬ nx < n.toInt64 := fun q => by have := own_lt64.mp q; omega
      refine ⟨st, nx, ?_⟩
      rw [own_jump_out _ _ _ _ _ hlt]
      intro t kk
      show Steps p.tables e below (s₁.setTop (mkF m 29 #[.val (.long ky), .second, .val (.int n), .val (.long st), .second, .val (.long b), .second, .val (.long nx), .second] [])) _
      refine XS.lload X0.here hx rfl (hb hby d1_29) rfl ?_
      show Steps p.tables e below (s₁.setTop (mkF m 31 #[.val (.long ky), .second, .val (.int n), .val (.long st), .second, .val (.long b), .second, .val (.long nx), .second] [(.long nx)])) _
      refine XS.iloadN X0.here hx rfl (hb hby d1_31) rfl ?_
      show Steps p.tables e below (s₁.setTop (mkF m 32 #[.val (.long ky), .second, .val (.int n), .val (.long st), .second, .val (.long b), .second, .val (.long nx), .second] [(.int n), (.long nx)])) _
      refine XS.i2l X0.here hx rfl (hb hby d1_32) rfl ?_
      show Steps p.tables e below (s₁.setTop (mkF m 33 #[.val (.long ky), .second, .val (.int n), .val (.long st), .second, .val (.long b), .second, .val (.long nx), .second] [(.long (n.toInt64)), (.long nx)])) _
      refine XS.lcmp X0.here hx rfl (hb hby d1_33) rfl ?_
      show Steps p.tables e below (s₁.setTop (mkF m 34 #[.val (.long ky), .second, .val (.int n), .val (.long st), .second, .val (.long b), .second, .val (.long nx), .second] [(.int (lcmpW nx (n.toInt64)))])) _
      refine XS.ifYes X0.here hx rfl (pc0 := 34) (pc' := 72) rfl (hb hby d1_34) rfl (own_ge_t hlt) (by decide) (by decide) ?_
      exact kk
    | succ k ih =>
      intro st b nx h1 h2
      by_cases hlt : nx < n.toInt64
      · have hlt' := own_lt64.mp hlt
        have hnb := n.toInt_lt
        have hg := own_nxt_ge (own_step st) h1 (by omega)
        obtain ⟨st', nx', ih'⟩ := ih (own_step st) nx (own_nxt nx (own_step st)) (by omega) (by omega)
        refine ⟨st', nx', ?_⟩
        rw [own_jump_in k st b nx n hlt]
        intro t kk
        show Steps p.tables e below (s₁.setTop (mkF m 29 #[.val (.long ky), .second, .val (.int n), .val (.long st), .second, .val (.long b), .second, .val (.long nx), .second] [])) _
        refine XS.lload X0.here hx rfl (hb hby d1_29) rfl ?_
        show Steps p.tables e below (s₁.setTop (mkF m 31 #[.val (.long ky), .second, .val (.int n), .val (.long st), .second, .val (.long b), .second, .val (.long nx), .second] [(.long nx)])) _
        refine XS.iloadN X0.here hx rfl (hb hby d1_31) rfl ?_
        show Steps p.tables e below (s₁.setTop (mkF m 32 #[.val (.long ky), .second, .val (.int n), .val (.long st), .second, .val (.long b), .second, .val (.long nx), .second] [(.int n), (.long nx)])) _
        refine XS.i2l X0.here hx rfl (hb hby d1_32) rfl ?_
        show Steps p.tables e below (s₁.setTop (mkF m 33 #[.val (.long ky), .second, .val (.int n), .val (.long st), .second, .val (.long b), .second, .val (.long nx), .second] [(.long (n.toInt64)), (.long nx)])) _
        refine XS.lcmp X0.here hx rfl (hb hby d1_33) rfl ?_
        show Steps p.tables e below (s₁.setTop (mkF m 34 #[.val (.long ky), .second, .val (.int n), .val (.long st), .second, .val (.long b), .second, .val (.long nx), .second] [(.int (lcmpW nx (n.toInt64)))])) _
        refine XS.ifNo X0.here hx rfl (hb hby d1_34) rfl (own_ge_f hlt) ?_
        show Steps p.tables e below (s₁.setTop (mkF m 37 #[.val (.long ky), .second, .val (.int n), .val (.long st), .second, .val (.long b), .second, .val (.long nx), .second] [])) _
        refine XS.lload X0.here hx rfl (hb hby d1_37) rfl ?_
        show Steps p.tables e below (s₁.setTop (mkF m 39 #[.val (.long ky), .second, .val (.int n), .val (.long st), .second, .val (.long b), .second, .val (.long nx), .second] [(.long nx)])) _
        refine XS.lstore X0.here hx rfl (hb hby d1_39) rfl (l' := #[.val (.long ky), .second, .val (.int n), .val (.long st), .second, .val (.long nx), .second, .val (.long nx), .second]) rfl ?_
        show Steps p.tables e below (s₁.setTop (mkF m 41 #[.val (.long ky), .second, .val (.int n), .val (.long st), .second, .val (.long nx), .second, .val (.long nx), .second] [])) _
        refine XS.lloadN X0.here hx rfl (hb hby d1_41) rfl ?_
        show Steps p.tables e below (s₁.setTop (mkF m 42 #[.val (.long ky), .second, .val (.int n), .val (.long st), .second, .val (.long nx), .second, .val (.long nx), .second] [(.long st)])) _
        refine X0.ldc2Long hx hown (mvT hZ (hw _ (List.mem_of_getElem? (i := 6) rfl))) (g := (mkF m 42 #[.val (.long ky), .second, .val (.int n), .val (.long st), .second, .val (.long nx), .second, .val (.long nx), .second] [(.long st)])) rfl (hb hby d1_42) _ ?_
        show Steps p.tables e below (s₁.setTop (mkF m 45 #[.val (.long ky), .second, .val (.int n), .val (.long st), .second, .val (.long nx), .second, .val (.long nx), .second] [(.long (2862933555777941757 : Int64)), (.long st)])) _
        refine XS.lmul X0.here hx rfl (hb hby d1_45) rfl ?_
        show Steps p.tables e below (s₁.setTop (mkF m 46 #[.val (.long ky), .second, .val (.int n), .val (.long st), .second, .val (.long nx), .second, .val (.long nx), .second] [(.long (st * (2862933555777941757 : Int64)))])) _
        refine XS.lconst X0.here hx rfl (hb hby d1_46) ?_
        show Steps p.tables e below (s₁.setTop (mkF m 47 #[.val (.long ky), .second, .val (.int n), .val (.long st), .second, .val (.long nx), .second, .val (.long nx), .second] [(.long (1 : Int64)), (.long (st * (2862933555777941757 : Int64)))])) _
        refine XS.ladd X0.here hx rfl (hb hby d1_47) rfl ?_
        show Steps p.tables e below (s₁.setTop (mkF m 48 #[.val (.long ky), .second, .val (.int n), .val (.long st), .second, .val (.long nx), .second, .val (.long nx), .second] [(.long ((st * (2862933555777941757 : Int64)) + (1 : Int64)))])) _
        refine XS.lstoreN X0.here hx rfl (hb hby d1_48) rfl (l' := #[.val (.long ky), .second, .val (.int n), .val (.long ((st * (2862933555777941757 : Int64)) + (1 : Int64))), .second, .val (.long nx), .second, .val (.long nx), .second]) rfl ?_
        show Steps p.tables e below (s₁.setTop (mkF m 49 #[.val (.long ky), .second, .val (.int n), .val (.long (own_step st)), .second, .val (.long nx), .second, .val (.long nx), .second] [])) _
        refine XS.lload X0.here hx rfl (hb hby d1_49) rfl ?_
        show Steps p.tables e below (s₁.setTop (mkF m 51 #[.val (.long ky), .second, .val (.int n), .val (.long (own_step st)), .second, .val (.long nx), .second, .val (.long nx), .second] [(.long nx)])) _
        refine XS.lconst X0.here hx rfl (hb hby d1_51) ?_
        show Steps p.tables e below (s₁.setTop (mkF m 52 #[.val (.long ky), .second, .val (.int n), .val (.long (own_step st)), .second, .val (.long nx), .second, .val (.long nx), .second] [(.long (1 : Int64)), (.long nx)])) _
        refine XS.ladd X0.here hx rfl (hb hby d1_52) rfl ?_
        show Steps p.tables e below (s₁.setTop (mkF m 53 #[.val (.long ky), .second, .val (.int n), .val (.long (own_step st)), .second, .val (.long nx), .second, .val (.long nx), .second] [(.long (nx + (1 : Int64)))])) _
        refine XS.l2dS X0.here hx rfl (hb hby d1_53) rfl rfl ?_
        show Steps p.tables e below (s₁.setTop (mkF m 54 #[.val (.long ky), .second, .val (.int n), .val (.long (own_step st)), .second, .val (.long nx), .second, .val (.long nx), .second] [(.double (FP.l2d (nx + (1 : Int64))))])) _
        refine X0.ldc2DoubleC hx hown (mvT hZ (hw _ (List.mem_of_getElem? (i := 7) rfl))) (g := (mkF m 54 #[.val (.long ky), .second, .val (.int n), .val (.long (own_step st)), .second, .val (.long nx), .second, .val (.long nx), .second] [(.double (FP.l2d (nx + (1 : Int64))))])) rfl (hb hby d1_54) _ ?_
        show Steps p.tables e below (s₁.setTop (mkF m 57 #[.val (.long ky), .second, .val (.int n), .val (.long (own_step st)), .second, .val (.long nx), .second, .val (.long nx), .second] [(.double 4746794007248502784), (.double (FP.l2d (nx + (1 : Int64))))])) _
        refine XS.lloadN X0.here hx rfl (hb hby d1_57) rfl ?_
        show Steps p.tables e below (s₁.setTop (mkF m 58 #[.val (.long ky), .second, .val (.int n), .val (.long (own_step st)), .second, .val (.long nx), .second, .val (.long nx), .second] [(.long (own_step st)), (.double 4746794007248502784), (.double (FP.l2d (nx + (1 : Int64))))])) _
        refine XS.bipush X0.here hx rfl (hb hby d1_58) ?_
        show Steps p.tables e below (s₁.setTop (mkF m 60 #[.val (.long ky), .second, .val (.int n), .val (.long (own_step st)), .second, .val (.long nx), .second, .val (.long nx), .second] [(.int (33 : Int32)), (.long (own_step st)), (.double 4746794007248502784), (.double (FP.l2d (nx + (1 : Int64))))])) _
        refine XS.lushr X0.here hx rfl (hb hby d1_60) rfl ?_
        show Steps p.tables e below (s₁.setTop (mkF m 61 #[.val (.long ky), .second, .val (.int n), .val (.long (own_step st)), .second, .val (.long nx), .second, .val (.long nx), .second] [(.long (((own_step st).toUInt64 >>> ((33 : Int32) &&& 0x3f).toInt64.toUInt64).toInt64)), (.double 4746794007248502784), (.double (FP.l2d (nx + (1 : Int64))))])) _
        refine XS.lconst X0.here hx rfl (hb hby d1_61) ?_
        show Steps p.tables e below (s₁.setTop (mkF m 62 #[.val (.long ky), .second, .val (.int n), .val (.long (own_step st)), .second, .val (.long nx), .second, .val (.long nx), .second] [(.long (1 : Int64)), (.long (((own_step st).toUInt64 >>> ((33 : Int32) &&& 0x3f).toInt64.toUInt64).toInt64)), (.double 4746794007248502784), (.double (FP.l2d (nx + (1 : Int64))))])) _
        refine XS.ladd X0.here hx rfl (hb hby d1_62) rfl ?_
        show Steps p.tables e below (s₁.setTop (mkF m 63 #[.val (.long ky), .second, .val (.int n), .val (.long (own_step st)), .second, .val (.long nx), .second, .val (.long nx), .second] [(.long ((((own_step st).toUInt64 >>> ((33 : Int32) &&& 0x3f).toInt64.toUInt64).toInt64) + (1 : Int64))), (.double 4746794007248502784), (.double (FP.l2d (nx + (1 : Int64))))])) _
        refine XS.l2dS X0.here hx rfl (hb hby d1_63) rfl rfl ?_
        show Steps p.tables e below (s₁.setTop (mkF m 64 #[.val (.long ky), .second, .val (.int n), .val (.long (own_step st)), .second, .val (.long nx), .second, .val (.long nx), .second] [(.double (FP.l2d ((((own_step st).toUInt64 >>> ((33 : Int32) &&& 0x3f).toInt64.toUInt64).toInt64) + (1 : Int64)))), (.double 4746794007248502784), (.double (FP.l2d (nx + (1 : Int64))))])) _
        refine XS.ddivS X0.here hx rfl (hb hby d1_64) rfl (own_q_nn (own_step st)) rfl ?_
        show Steps p.tables e below (s₁.setTop (mkF m 65 #[.val (.long ky), .second, .val (.int n), .val (.long (own_step st)), .second, .val (.long nx), .second, .val (.long nx), .second] [(.double (own_q (own_step st))), (.double (FP.l2d (nx + (1 : Int64))))])) _
        refine XS.dmulS X0.here hx rfl (hb hby d1_65) rfl (own_m_nn nx (own_step st)) rfl ?_
        show Steps p.tables e below (s₁.setTop (mkF m 66 #[.val (.long ky), .second, .val (.int n), .val (.long (own_step st)), .second, .val (.long nx), .second, .val (.long nx), .second] [(.double (FP.dmul (FP.l2d (nx + (1 : Int64))) (own_q (own_step st))))])) _
        refine XS.d2lS X0.here hx rfl (hb hby d1_66) rfl rfl ?_
        show Steps p.tables e below (s₁.setTop (mkF m 67 #[.val (.long ky), .second, .val (.int n), .val (.long (own_step st)), .second, .val (.long nx), .second, .val (.long nx), .second] [(.long (own_nxt nx (own_step st)))])) _
        refine XS.lstore X0.here hx rfl (hb hby d1_67) rfl (l' := #[.val (.long ky), .second, .val (.int n), .val (.long (own_step st)), .second, .val (.long nx), .second, .val (.long (own_nxt nx (own_step st))), .second]) rfl ?_
        show Steps p.tables e below (s₁.setTop (mkF m 69 #[.val (.long ky), .second, .val (.int n), .val (.long (own_step st)), .second, .val (.long nx), .second, .val (.long (own_nxt nx (own_step st))), .second] [])) _
        refine XS.goto X0.here hx rfl (pc0 := 69) (pc' := 29) rfl (hb hby d1_69) (by decide) (by decide) ?_
        exact ih' t kk
      · refine ⟨st, nx, ?_⟩
        rw [own_jump_out _ _ _ _ _ hlt]
        intro t kk
        show Steps p.tables e below (s₁.setTop (mkF m 29 #[.val (.long ky), .second, .val (.int n), .val (.long st), .second, .val (.long b), .second, .val (.long nx), .second] [])) _
        refine XS.lload X0.here hx rfl (hb hby d1_29) rfl ?_
        show Steps p.tables e below (s₁.setTop (mkF m 31 #[.val (.long ky), .second, .val (.int n), .val (.long st), .second, .val (.long b), .second, .val (.long nx), .second] [(.long nx)])) _
        refine XS.iloadN X0.here hx rfl (hb hby d1_31) rfl ?_
        show Steps p.tables e below (s₁.setTop (mkF m 32 #[.val (.long ky), .second, .val (.int n), .val (.long st), .second, .val (.long b), .second, .val (.long nx), .second] [(.int n), (.long nx)])) _
        refine XS.i2l X0.here hx rfl (hb hby d1_32) rfl ?_
        show Steps p.tables e below (s₁.setTop (mkF m 33 #[.val (.long ky), .second, .val (.int n), .val (.long st), .second, .val (.long b), .second, .val (.long nx), .second] [(.long (n.toInt64)), (.long nx)])) _
        refine XS.lcmp X0.here hx rfl (hb hby d1_33) rfl ?_
        show Steps p.tables e below (s₁.setTop (mkF m 34 #[.val (.long ky), .second, .val (.int n), .val (.long st), .second, .val (.long b), .second, .val (.long nx), .second] [(.int (lcmpW nx (n.toInt64)))])) _
        refine XS.ifYes X0.here hx rfl (pc0 := 34) (pc' := 72) rfl (hb hby d1_34) rfl (own_ge_t hlt) (by decide) (by decide) ?_
        exact kk
  obtain ⟨st', nx', hloop⟩ := loop K ky (-1) 0 (by decide) (by have : (0 : Int64).toInt = 0 := rfl; omega)
  have C72 : ∀ t, Steps p.tables e below (s₁.setTop (mkF m 72 #[.val (.long ky), .second, .val (.int n), .val (.long st'), .second, .val (.long (own_jump K ky (-1) 0 n)), .second, .val (.long nx'), .second] [])) t → Steps p.tables e below (s₁.setTop (entryFrame m #[(.long ky), (.int n)] 9)) t := fun t k => C1 t (hloop t k)
  have C2 : ∀ t, Steps p.tables e below (s₁.setTop (mkF m 75 #[.val (.long ky), .second, .val (.int n), .val (.long st'), .second, .val (.long (own_jump K ky (-1) 0 n)), .second, .val (.long nx'), .second] [(.int ((own_jump K ky (-1) 0 n).toInt32))])) t → Steps p.tables e below (s₁.setTop (entryFrame m #[(.long ky), (.int n)] 9)) t := by
    intro t k
    refine C72 t ?_
    show Steps p.tables e below (s₁.setTop (mkF m 72 #[.val (.long ky), .second, .val (.int n), .val (.long st'), .second, .val (.long (own_jump K ky (-1) 0 n)), .second, .val (.long nx'), .second] [])) _
    refine XS.lload X0.here hx rfl (hb hby d1_72) rfl ?_
    show Steps p.tables e below (s₁.setTop (mkF m 74 #[.val (.long ky), .second, .val (.int n), .val (.long st'), .second, .val (.long (own_jump K ky (-1) 0 n)), .second, .val (.long nx'), .second] [(.long (own_jump K ky (-1) 0 n))])) _
    refine XS.l2i X0.here hx rfl (hb hby d1_74) rfl ?_
    exact k
  obtain ⟨fs, hr, hrun, hended, hW, hsame⟩ := X0.leave (v := some (.int ((own_jump K ky (-1) 0 n).toInt32))) (fun h => by rw [Bd.returns] at h; cases h)
  refine ⟨_, _, C2 _ ?_, hrun, hended, _, _, rfl, ?_, ⟨_, rfl⟩, hW, hsame.mono (by decide) (by decide)⟩
  · show Steps p.tables e below (s₁.setTop (mkF m 75 #[.val (.long ky), .second, .val (.int n), .val (.long st'), .second, .val (.long (own_jump K ky (-1) 0 n)), .second, .val (.long nx'), .second] [(.int ((own_jump K ky (-1) 0 n).toInt32))])) _
    exact retOut X0 hx Bd.returns rfl (Or.inl ⟨rfl, Or.inl rfl, _, rfl⟩) (hb hby d1_75) hr
  · show Q1 Z ky n K h0 n0 _ s₁.heap _
    rw [e0]
    exact ⟨rfl, N0, rfl⟩
theorem pd0 : parseMethodDescriptor "(JI)I" = some ⟨[.long, .int], some .int⟩ := by decide +kernel
def Q0 (Z : State) (ky : Int64) (p1 p2 : Int32) (h0 : Heap) (n0 : Nat) (v : Option Value) (h : Heap) (L : List Loc) : Prop := v = some (.int 1) ∧ Fr n0 L
theorem own_l1 : (1 : Int32).toInt = 1 := rfl
theorem own_l0 : (0 : Int32).toInt = 0 := rfl
theorem own_lm : (2147483647 : Int32).toInt = 2147483647 := rfl
theorem own_rem32 (x y : Int32) : x - (x / y) * y = x % y := irem_eq_mod x y
theorem own_n (a : Int32) : 1 ≤ (((1 : Int32) + ((a &&& (2147483647 : Int32)) - ((a &&& (2147483647 : Int32)) / (2147483647 : Int32)) * (2147483647 : Int32)))).toInt ∧ (((1 : Int32) + ((a &&& (2147483647 : Int32)) - ((a &&& (2147483647 : Int32)) / (2147483647 : Int32)) * (2147483647 : Int32)))).toInt ≤ 2147483647 := by
  rw [own_rem32]
  have h1 := c_and a 2147483647 (by decide)
  rw [own_lm] at h1
  have h2 := (c_irem (a &&& 2147483647) 2147483647 2147483647 rfl).1 h1.1
  have h3 := c_iadd 1 ((a &&& 2147483647) % 2147483647)
  rw [own_l1] at h3
  have h4 := (1 + (a &&& 2147483647) % 2147483647 : Int32).toInt_lt
  have h5 := (1 + (a &&& 2147483647) % 2147483647 : Int32).le_toInt
  omega
theorem own_sp {n : Int32} (bn : 1 ≤ n.toInt ∧ n.toInt ≤ 2147483647) : ((((2147483647 : Int32) - n) + (1 : Int32))).toInt = 2147483648 - n.toInt := by
  have h1 := c_isub 2147483647 n
  have h2 := c_iadd (2147483647 - n) 1
  rw [own_lm] at h1
  rw [own_l1] at h2
  have h3 := (2147483647 - n : Int32).toInt_lt
  have h4 := (2147483647 - n : Int32).le_toInt
  have h5 := (2147483647 - n + 1 : Int32).toInt_lt
  have h6 := (2147483647 - n + 1 : Int32).le_toInt
  omega
theorem own_d {sp : Int32} (c : Int32) (b1 : 1 ≤ sp.toInt) (b2 : sp.toInt ≤ 2147483647) : 0 ≤ (((((c.toUInt32 >>> ((1 : Int32) &&& 31).toUInt32).toInt32) &&& (2147483647 : Int32)) - ((((c.toUInt32 >>> ((1 : Int32) &&& 31).toUInt32).toInt32) &&& (2147483647 : Int32)) / sp) * sp)).toInt ∧ (((((c.toUInt32 >>> ((1 : Int32) &&& 31).toUInt32).toInt32) &&& (2147483647 : Int32)) - ((((c.toUInt32 >>> ((1 : Int32) &&& 31).toUInt32).toInt32) &&& (2147483647 : Int32)) / sp) * sp)).toInt < sp.toInt := by
  rw [own_rem32]
  have h1 := c_and ((c.toUInt32 >>> ((1 : Int32) &&& 31).toUInt32).toInt32) 2147483647 (by decide)
  have h2 := (c_irem (((c.toUInt32 >>> ((1 : Int32) &&& 31).toUInt32).toInt32) &&& 2147483647) sp sp.toInt rfl).1 h1.1
  rw [h2]
  exact ⟨Int.emod_nonneg _ (by omega), Int.emod_lt_of_pos _ (by omega)⟩
theorem own_d1 {d sp : Int32} (b : 0 ≤ d.toInt ∧ d.toInt < sp.toInt) : 0 ≤ (d &&& (1 : Int32)).toInt ∧ (d &&& (1 : Int32)).toInt < sp.toInt := by
  have h1 := c_mask d 1 1 (by decide) (by decide)
  rw [h1, show ((2 ^ 1 : Nat) : Int) = 2 from rfl]
  omega
theorem own_m {n d sp : Int32} (bn : 1 ≤ n.toInt ∧ n.toInt ≤ 2147483647) (bd : 0 ≤ d.toInt ∧ d.toInt < sp.toInt) (bsp : sp.toInt = 2147483648 - n.toInt) : n.toInt ≤ (n + d).toInt := by
  have h2 := c_iadd n d
  have h5 := (n + d).toInt_lt
  have h6 := (n + d).le_toInt
  omega
theorem own_law (ky : Int64) {n m : Int32} {K : Nat} (bn : 1 ≤ n.toInt ∧ n.toInt ≤ 2147483647) (bm : n.toInt ≤ m.toInt) (hK : 2147483647 < K) :
    (¬ (own_jump K ky (-1) 0 n).toInt32 < 0 ∧ (own_jump K ky (-1) 0 n).toInt32 < n) ∧ (¬ (own_jump K ky (-1) 0 m).toInt32 < 0 ∧ (own_jump K ky (-1) 0 m).toInt32 < m) ∧ ((own_jump K ky (-1) 0 m).toInt32 = (own_jump K ky (-1) 0 n).toInt32 ∨ ¬ (own_jump K ky (-1) 0 m).toInt32 < n) := by
  have z0 : (0 : Int64).toInt = 0 := rfl
  have hm := m.toInt_lt
  have r1 := own_jump_rng n K ky (-1) 0 (by omega) (by omega) (by omega)
  have r2 := own_jump_rng m K ky (-1) 0 (by omega) (by omega) (by omega)
  have r3 := own_jump_two bm K ky (-1) 0 (by omega) (by omega) (by omega)
  have c1 := c_l2i (own_jump K ky (-1) 0 n)
  have c2 := c_l2i (own_jump K ky (-1) 0 m)
  have t1 := (own_jump K ky (-1) 0 n).toInt32.toInt_lt
  have t2 := (own_jump K ky (-1) 0 n).toInt32.le_toInt
  have t3 := (own_jump K ky (-1) 0 m).toInt32.toInt_lt
  have t4 := (own_jump K ky (-1) 0 m).toInt32.le_toInt
  simp only [Int32.lt_iff_toInt_lt, own_l0]
  refine ⟨⟨by omega, by omega⟩, ⟨by omega, by omega⟩, ?_⟩
  rcases r3 with r3 | r3
  · left; rw [r3]
  · right; omega
theorem pn1 : plainName "com/example/vnode/vnode/jump/JumpHashBucketOfPinLaw" = true := by first | (simp [plainName, overriddenIn]; done) | decide +kernel
theorem ef0 (m : MethodId) (x0 : Int64) (x1 : Int32) (x2 : Int32) : entryFrame m #[(.long x0), (.int x1), (.int x2)] maxLocals = mkF m 0 #[.val (.long x0), .second, .val (.int x1), .val (.int x2), .unset, .unset, .unset, .unset, .unset, .unset, .unset, .unset, .unset, .unset] [] := by first | (simp [entryFrame, mkF, argsToLocals, Value.category, maxLocals]; done) | rfl
set_option maxRecDepth 65536 in
set_option maxHeartbeats 40000000 in
theorem rm0 (l : Launch) (Z : State) (a0 : Array Value) (hw : ∀ d ∈ tables_1, d.before a0 Z = true) (ws : List Jvm.Cond) (ky : Int64) (p1 p2 : Int32) (h0 : Heap) (n0 : Nat) (Z0 : n0 ≤ h0.size)  :
    MetFree l x (head1 (Jvm.Cond.code x code maxLocals ret :: ws) room_1) (fun a U => a = #[(.long ky), (.int p1), (.int p2)] ∧ Z.Warmed39 U.vm ∧ U.heap = h0) (fun _ _ _ _ _ => True) (fun _ U o U' => ∃ v L, o = .returned v ∧ Q0 Z ky p1 p2 h0 n0 v U'.heap L ∧ FrameEnd U o U' L room_1.cells room_1.slots) := by
  refine MetFree.of_bodySF (plainFor_of_name pn1) hisR ?_
  intro p e s m args below meth c s₁ Bd hml0 hP hK
  obtain ⟨rfl, hZ, hh⟩ := hP
  have hx := Bd.exec
  have hby := Bd.bytes
  have hml : c.maxLocals = 14 := hml0
  have hown : s.vm.findClass "com/example/vnode/vnode/jump/JumpHashBucketOfPinLaw" = some m.cls := findClass_of_methodNamed Bd.named
  have hnm := (name_of_methodNamed Bd.named Bd.method).1
  have X0 : Stand p l e room_1 s m #[(.long ky), (.int p1), (.int p2)] below meth c s₁ [] 0 0 := Stand.of_body Bd
  have e0 : s₁.heap = h0 := by rw [← hh, Bd.state]; rfl
  have N0 := Fr.nil n0
  have pre0 : ∀ t, Steps p.tables e below (s₁.setTop (mkF m 0 #[.val (.long ky), .second, .val (.int p1), .val (.int p2), .unset, .unset, .unset, .unset, .unset, .unset, .unset, .unset, .unset, .unset] [])) t → Steps p.tables e below (s₁.setTop (entryFrame m #[(.long ky), (.int p1), (.int p2)] maxLocals)) t := fun t k => castTop (ef0 m ky p1 p2) k
  have C3 : ∀ t, Steps p.tables e below (s₁.setTop (mkF m 15 #[.val (.long ky), .second, .val (.int p1), .val (.int p2), .val (.int (2147483647 : Int32)), .val (.int ((1 : Int32) + ((p1 &&& (2147483647 : Int32)) - ((p1 &&& (2147483647 : Int32)) / (2147483647 : Int32)) * (2147483647 : Int32)))), .unset, .unset, .unset, .unset, .unset, .unset, .unset, .unset] [])) t → Steps p.tables e below (s₁.setTop (entryFrame m #[(.long ky), (.int p1), (.int p2)] maxLocals)) t := by
    intro t k
    refine pre0 t ?_
    show Steps p.tables e below (s₁.setTop (mkF m 0 #[.val (.long ky), .second, .val (.int p1), .val (.int p2), .unset, .unset, .unset, .unset, .unset, .unset, .unset, .unset, .unset, .unset] [])) _
    refine X0.ldcInt hx hown (mvT hZ (hw _ (List.mem_of_getElem? (i := 0) rfl))) (g := (mkF m 0 #[.val (.long ky), .second, .val (.int p1), .val (.int p2), .unset, .unset, .unset, .unset, .unset, .unset, .unset, .unset, .unset, .unset] [])) rfl (hb hby at_0) _ ?_
    show Steps p.tables e below (s₁.setTop (mkF m 2 #[.val (.long ky), .second, .val (.int p1), .val (.int p2), .unset, .unset, .unset, .unset, .unset, .unset, .unset, .unset, .unset, .unset] [(.int (2147483647 : Int32))])) _
    refine XS.istore X0.here hx rfl (hb hby at_2) rfl (l' := #[.val (.long ky), .second, .val (.int p1), .val (.int p2), .val (.int (2147483647 : Int32)), .unset, .unset, .unset, .unset, .unset, .unset, .unset, .unset, .unset]) rfl ?_
    show Steps p.tables e below (s₁.setTop (mkF m 4 #[.val (.long ky), .second, .val (.int p1), .val (.int p2), .val (.int (2147483647 : Int32)), .unset, .unset, .unset, .unset, .unset, .unset, .unset, .unset, .unset] [])) _
    refine XS.iconst X0.here hx rfl (hb hby at_4) ?_
    show Steps p.tables e below (s₁.setTop (mkF m 5 #[.val (.long ky), .second, .val (.int p1), .val (.int p2), .val (.int (2147483647 : Int32)), .unset, .unset, .unset, .unset, .unset, .unset, .unset, .unset, .unset] [(.int (1 : Int32))])) _
    refine XS.iloadN X0.here hx rfl (hb hby at_5) rfl ?_
    show Steps p.tables e below (s₁.setTop (mkF m 6 #[.val (.long ky), .second, .val (.int p1), .val (.int p2), .val (.int (2147483647 : Int32)), .unset, .unset, .unset, .unset, .unset, .unset, .unset, .unset, .unset] [(.int p1), (.int (1 : Int32))])) _
    refine XS.iload X0.here hx rfl (hb hby at_6) rfl ?_
    show Steps p.tables e below (s₁.setTop (mkF m 8 #[.val (.long ky), .second, .val (.int p1), .val (.int p2), .val (.int (2147483647 : Int32)), .unset, .unset, .unset, .unset, .unset, .unset, .unset, .unset, .unset] [(.int (2147483647 : Int32)), (.int p1), (.int (1 : Int32))])) _
    refine XS.iand X0.here hx rfl (hb hby at_8) rfl ?_
    show Steps p.tables e below (s₁.setTop (mkF m 9 #[.val (.long ky), .second, .val (.int p1), .val (.int p2), .val (.int (2147483647 : Int32)), .unset, .unset, .unset, .unset, .unset, .unset, .unset, .unset, .unset] [(.int (p1 &&& (2147483647 : Int32))), (.int (1 : Int32))])) _
    refine XS.iload X0.here hx rfl (hb hby at_9) rfl ?_
    show Steps p.tables e below (s₁.setTop (mkF m 11 #[.val (.long ky), .second, .val (.int p1), .val (.int p2), .val (.int (2147483647 : Int32)), .unset, .unset, .unset, .unset, .unset, .unset, .unset, .unset, .unset] [(.int (2147483647 : Int32)), (.int (p1 &&& (2147483647 : Int32))), (.int (1 : Int32))])) _
    refine XS.irem X0.here hx rfl (hb hby at_11) rfl (by decide) ?_
    show Steps p.tables e below (s₁.setTop (mkF m 12 #[.val (.long ky), .second, .val (.int p1), .val (.int p2), .val (.int (2147483647 : Int32)), .unset, .unset, .unset, .unset, .unset, .unset, .unset, .unset, .unset] [(.int ((p1 &&& (2147483647 : Int32)) - ((p1 &&& (2147483647 : Int32)) / (2147483647 : Int32)) * (2147483647 : Int32))), (.int (1 : Int32))])) _
    refine XS.iadd X0.here hx rfl (hb hby at_12) rfl ?_
    show Steps p.tables e below (s₁.setTop (mkF m 13 #[.val (.long ky), .second, .val (.int p1), .val (.int p2), .val (.int (2147483647 : Int32)), .unset, .unset, .unset, .unset, .unset, .unset, .unset, .unset, .unset] [(.int ((1 : Int32) + ((p1 &&& (2147483647 : Int32)) - ((p1 &&& (2147483647 : Int32)) / (2147483647 : Int32)) * (2147483647 : Int32))))])) _
    refine XS.istore X0.here hx rfl (hb hby at_13) rfl (l' := #[.val (.long ky), .second, .val (.int p1), .val (.int p2), .val (.int (2147483647 : Int32)), .val (.int ((1 : Int32) + ((p1 &&& (2147483647 : Int32)) - ((p1 &&& (2147483647 : Int32)) / (2147483647 : Int32)) * (2147483647 : Int32)))), .unset, .unset, .unset, .unset, .unset, .unset, .unset, .unset]) rfl ?_
    exact k
  obtain ⟨n, h_n⟩ : ∃ z : Int32, z = ((1 : Int32) + ((p1 &&& (2147483647 : Int32)) - ((p1 &&& (2147483647 : Int32)) / (2147483647 : Int32)) * (2147483647 : Int32))) := ⟨_, rfl⟩
  rw [← h_n] at C3
  have bn : 1 ≤ n.toInt ∧ n.toInt ≤ 2147483647 := by rw [h_n]; exact own_n p1
  have C4 : ∀ t, Steps p.tables e below (s₁.setTop (mkF m 24 #[.val (.long ky), .second, .val (.int p1), .val (.int p2), .val (.int (2147483647 : Int32)), .val (.int n), .val (.int (((2147483647 : Int32) - n) + (1 : Int32))), .unset, .unset, .unset, .unset, .unset, .unset, .unset] [])) t → Steps p.tables e below (s₁.setTop (entryFrame m #[(.long ky), (.int p1), (.int p2)] maxLocals)) t := by
    intro t k
    refine C3 t ?_
    show Steps p.tables e below (s₁.setTop (mkF m 15 #[.val (.long ky), .second, .val (.int p1), .val (.int p2), .val (.int (2147483647 : Int32)), .val (.int n), .unset, .unset, .unset, .unset, .unset, .unset, .unset, .unset] [])) _
    refine XS.iload X0.here hx rfl (hb hby at_15) rfl ?_
    show Steps p.tables e below (s₁.setTop (mkF m 17 #[.val (.long ky), .second, .val (.int p1), .val (.int p2), .val (.int (2147483647 : Int32)), .val (.int n), .unset, .unset, .unset, .unset, .unset, .unset, .unset, .unset] [(.int (2147483647 : Int32))])) _
    refine XS.iload X0.here hx rfl (hb hby at_17) rfl ?_
    show Steps p.tables e below (s₁.setTop (mkF m 19 #[.val (.long ky), .second, .val (.int p1), .val (.int p2), .val (.int (2147483647 : Int32)), .val (.int n), .unset, .unset, .unset, .unset, .unset, .unset, .unset, .unset] [(.int n), (.int (2147483647 : Int32))])) _
    refine XS.isub X0.here hx rfl (hb hby at_19) rfl ?_
    show Steps p.tables e below (s₁.setTop (mkF m 20 #[.val (.long ky), .second, .val (.int p1), .val (.int p2), .val (.int (2147483647 : Int32)), .val (.int n), .unset, .unset, .unset, .unset, .unset, .unset, .unset, .unset] [(.int ((2147483647 : Int32) - n))])) _
    refine XS.iconst X0.here hx rfl (hb hby at_20) ?_
    show Steps p.tables e below (s₁.setTop (mkF m 21 #[.val (.long ky), .second, .val (.int p1), .val (.int p2), .val (.int (2147483647 : Int32)), .val (.int n), .unset, .unset, .unset, .unset, .unset, .unset, .unset, .unset] [(.int (1 : Int32)), (.int ((2147483647 : Int32) - n))])) _
    refine XS.iadd X0.here hx rfl (hb hby at_21) rfl ?_
    show Steps p.tables e below (s₁.setTop (mkF m 22 #[.val (.long ky), .second, .val (.int p1), .val (.int p2), .val (.int (2147483647 : Int32)), .val (.int n), .unset, .unset, .unset, .unset, .unset, .unset, .unset, .unset] [(.int (((2147483647 : Int32) - n) + (1 : Int32)))])) _
    refine XS.istore X0.here hx rfl (hb hby at_22) rfl (l' := #[.val (.long ky), .second, .val (.int p1), .val (.int p2), .val (.int (2147483647 : Int32)), .val (.int n), .val (.int (((2147483647 : Int32) - n) + (1 : Int32))), .unset, .unset, .unset, .unset, .unset, .unset, .unset]) rfl ?_
    exact k
  obtain ⟨sp, h_sp⟩ : ∃ z : Int32, z = (((2147483647 : Int32) - n) + (1 : Int32)) := ⟨_, rfl⟩
  rw [← h_sp] at C4
  have bsp : sp.toInt = 2147483648 - n.toInt := by rw [h_sp]; exact own_sp bn
  have hsp : sp ≠ 0 := fun q => by rw [q] at bsp; have : (0 : Int32).toInt = 0 := rfl; omega
  have C5 : ∀ t, Steps p.tables e below (s₁.setTop (mkF m 35 #[.val (.long ky), .second, .val (.int p1), .val (.int p2), .val (.int (2147483647 : Int32)), .val (.int n), .val (.int sp), .val (.int ((((p2.toUInt32 >>> ((1 : Int32) &&& 31).toUInt32).toInt32) &&& (2147483647 : Int32)) - ((((p2.toUInt32 >>> ((1 : Int32) &&& 31).toUInt32).toInt32) &&& (2147483647 : Int32)) / sp) * sp)), .unset, .unset, .unset, .unset, .unset, .unset] [])) t → Steps p.tables e below (s₁.setTop (entryFrame m #[(.long ky), (.int p1), (.int p2)] maxLocals)) t := by
    intro t k
    refine C4 t ?_
    show Steps p.tables e below (s₁.setTop (mkF m 24 #[.val (.long ky), .second, .val (.int p1), .val (.int p2), .val (.int (2147483647 : Int32)), .val (.int n), .val (.int sp), .unset, .unset, .unset, .unset, .unset, .unset, .unset] [])) _
    refine XS.iloadN X0.here hx rfl (hb hby at_24) rfl ?_
    show Steps p.tables e below (s₁.setTop (mkF m 25 #[.val (.long ky), .second, .val (.int p1), .val (.int p2), .val (.int (2147483647 : Int32)), .val (.int n), .val (.int sp), .unset, .unset, .unset, .unset, .unset, .unset, .unset] [(.int p2)])) _
    refine XS.iconst X0.here hx rfl (hb hby at_25) ?_
    show Steps p.tables e below (s₁.setTop (mkF m 26 #[.val (.long ky), .second, .val (.int p1), .val (.int p2), .val (.int (2147483647 : Int32)), .val (.int n), .val (.int sp), .unset, .unset, .unset, .unset, .unset, .unset, .unset] [(.int (1 : Int32)), (.int p2)])) _
    refine XS.iushr X0.here hx rfl (hb hby at_26) rfl ?_
    show Steps p.tables e below (s₁.setTop (mkF m 27 #[.val (.long ky), .second, .val (.int p1), .val (.int p2), .val (.int (2147483647 : Int32)), .val (.int n), .val (.int sp), .unset, .unset, .unset, .unset, .unset, .unset, .unset] [(.int ((p2.toUInt32 >>> ((1 : Int32) &&& 31).toUInt32).toInt32))])) _
    refine XS.iload X0.here hx rfl (hb hby at_27) rfl ?_
    show Steps p.tables e below (s₁.setTop (mkF m 29 #[.val (.long ky), .second, .val (.int p1), .val (.int p2), .val (.int (2147483647 : Int32)), .val (.int n), .val (.int sp), .unset, .unset, .unset, .unset, .unset, .unset, .unset] [(.int (2147483647 : Int32)), (.int ((p2.toUInt32 >>> ((1 : Int32) &&& 31).toUInt32).toInt32))])) _
    refine XS.iand X0.here hx rfl (hb hby at_29) rfl ?_
    show Steps p.tables e below (s₁.setTop (mkF m 30 #[.val (.long ky), .second, .val (.int p1), .val (.int p2), .val (.int (2147483647 : Int32)), .val (.int n), .val (.int sp), .unset, .unset, .unset, .unset, .unset, .unset, .unset] [(.int (((p2.toUInt32 >>> ((1 : Int32) &&& 31).toUInt32).toInt32) &&& (2147483647 : Int32)))])) _
    refine XS.iload X0.here hx rfl (hb hby at_30) rfl ?_
    show Steps p.tables e below (s₁.setTop (mkF m 32 #[.val (.long ky), .second, .val (.int p1), .val (.int p2), .val (.int (2147483647 : Int32)), .val (.int n), .val (.int sp), .unset, .unset, .unset, .unset, .unset, .unset, .unset] [(.int sp), (.int (((p2.toUInt32 >>> ((1 : Int32) &&& 31).toUInt32).toInt32) &&& (2147483647 : Int32)))])) _
    refine XS.irem X0.here hx rfl (hb hby at_32) rfl hsp ?_
    show Steps p.tables e below (s₁.setTop (mkF m 33 #[.val (.long ky), .second, .val (.int p1), .val (.int p2), .val (.int (2147483647 : Int32)), .val (.int n), .val (.int sp), .unset, .unset, .unset, .unset, .unset, .unset, .unset] [(.int ((((p2.toUInt32 >>> ((1 : Int32) &&& 31).toUInt32).toInt32) &&& (2147483647 : Int32)) - ((((p2.toUInt32 >>> ((1 : Int32) &&& 31).toUInt32).toInt32) &&& (2147483647 : Int32)) / sp) * sp))])) _
    refine XS.istore X0.here hx rfl (hb hby at_33) rfl (l' := #[.val (.long ky), .second, .val (.int p1), .val (.int p2), .val (.int (2147483647 : Int32)), .val (.int n), .val (.int sp), .val (.int ((((p2.toUInt32 >>> ((1 : Int32) &&& 31).toUInt32).toInt32) &&& (2147483647 : Int32)) - ((((p2.toUInt32 >>> ((1 : Int32) &&& 31).toUInt32).toInt32) &&& (2147483647 : Int32)) / sp) * sp)), .unset, .unset, .unset, .unset, .unset, .unset]) rfl ?_
    exact k
  obtain ⟨d0, h_d0⟩ : ∃ z : Int32, z = ((((p2.toUInt32 >>> ((1 : Int32) &&& 31).toUInt32).toInt32) &&& (2147483647 : Int32)) - ((((p2.toUInt32 >>> ((1 : Int32) &&& 31).toUInt32).toInt32) &&& (2147483647 : Int32)) / sp) * sp) := ⟨_, rfl⟩
  rw [← h_d0] at C5
  have bd : 0 ≤ d0.toInt ∧ d0.toInt < sp.toInt := by rw [h_d0]; exact own_d p2 (by omega) (by omega)
  have C6 : ∀ t, Steps p.tables e below (s₁.setTop (mkF m 38 #[.val (.long ky), .second, .val (.int p1), .val (.int p2), .val (.int (2147483647 : Int32)), .val (.int n), .val (.int sp), .val (.int d0), .unset, .unset, .unset, .unset, .unset, .unset] [(.int (p2 &&& (1 : Int32)))])) t → Steps p.tables e below (s₁.setTop (entryFrame m #[(.long ky), (.int p1), (.int p2)] maxLocals)) t := by
    intro t k
    refine C5 t ?_
    show Steps p.tables e below (s₁.setTop (mkF m 35 #[.val (.long ky), .second, .val (.int p1), .val (.int p2), .val (.int (2147483647 : Int32)), .val (.int n), .val (.int sp), .val (.int d0), .unset, .unset, .unset, .unset, .unset, .unset] [])) _
    refine XS.iloadN X0.here hx rfl (hb hby at_35) rfl ?_
    show Steps p.tables e below (s₁.setTop (mkF m 36 #[.val (.long ky), .second, .val (.int p1), .val (.int p2), .val (.int (2147483647 : Int32)), .val (.int n), .val (.int sp), .val (.int d0), .unset, .unset, .unset, .unset, .unset, .unset] [(.int p2)])) _
    refine XS.iconst X0.here hx rfl (hb hby at_36) ?_
    show Steps p.tables e below (s₁.setTop (mkF m 37 #[.val (.long ky), .second, .val (.int p1), .val (.int p2), .val (.int (2147483647 : Int32)), .val (.int n), .val (.int sp), .val (.int d0), .unset, .unset, .unset, .unset, .unset, .unset] [(.int (1 : Int32)), (.int p2)])) _
    refine XS.iand X0.here hx rfl (hb hby at_37) rfl ?_
    exact k
  obtain ⟨d, bd2, C47⟩ : ∃ d : Int32, (0 ≤ d.toInt ∧ d.toInt < sp.toInt) ∧ ∀ t, Steps p.tables e below (s₁.setTop (mkF m 47 #[.val (.long ky), .second, .val (.int p1), .val (.int p2), .val (.int (2147483647 : Int32)), .val (.int n), .val (.int sp), .val (.int d), .unset, .unset, .unset, .unset, .unset, .unset] [])) t → Steps p.tables e below (s₁.setTop (entryFrame m #[(.long ky), (.int p1), (.int p2)] maxLocals)) t := by
    by_cases hm : (p2 &&& (1 : Int32)) = 0
    · refine ⟨d0, bd, ?_⟩
      intro t k
      refine C6 t ?_
      show Steps p.tables e below (s₁.setTop (mkF m 38 #[.val (.long ky), .second, .val (.int p1), .val (.int p2), .val (.int (2147483647 : Int32)), .val (.int n), .val (.int sp), .val (.int d0), .unset, .unset, .unset, .unset, .unset, .unset] [(.int (p2 &&& (1 : Int32)))])) _
      refine XS.ifYes X0.here hx rfl (pc0 := 38) (pc' := 47) rfl (hb hby at_38) rfl (XT.i0_eq_t hm) (by decide) (by decide) ?_
      exact k
    · refine ⟨(d0 &&& (1 : Int32)), own_d1 bd, ?_⟩
      intro t k
      refine C6 t ?_
      show Steps p.tables e below (s₁.setTop (mkF m 38 #[.val (.long ky), .second, .val (.int p1), .val (.int p2), .val (.int (2147483647 : Int32)), .val (.int n), .val (.int sp), .val (.int d0), .unset, .unset, .unset, .unset, .unset, .unset] [(.int (p2 &&& (1 : Int32)))])) _
      refine XS.ifNo X0.here hx rfl (hb hby at_38) rfl (XT.i0_eq_f hm) ?_
      show Steps p.tables e below (s₁.setTop (mkF m 41 #[.val (.long ky), .second, .val (.int p1), .val (.int p2), .val (.int (2147483647 : Int32)), .val (.int n), .val (.int sp), .val (.int d0), .unset, .unset, .unset, .unset, .unset, .unset] [])) _
      refine XS.iload X0.here hx rfl (hb hby at_41) rfl ?_
      show Steps p.tables e below (s₁.setTop (mkF m 43 #[.val (.long ky), .second, .val (.int p1), .val (.int p2), .val (.int (2147483647 : Int32)), .val (.int n), .val (.int sp), .val (.int d0), .unset, .unset, .unset, .unset, .unset, .unset] [(.int d0)])) _
      refine XS.iconst X0.here hx rfl (hb hby at_43) ?_
      show Steps p.tables e below (s₁.setTop (mkF m 44 #[.val (.long ky), .second, .val (.int p1), .val (.int p2), .val (.int (2147483647 : Int32)), .val (.int n), .val (.int sp), .val (.int d0), .unset, .unset, .unset, .unset, .unset, .unset] [(.int (1 : Int32)), (.int d0)])) _
      refine XS.iand X0.here hx rfl (hb hby at_44) rfl ?_
      show Steps p.tables e below (s₁.setTop (mkF m 45 #[.val (.long ky), .second, .val (.int p1), .val (.int p2), .val (.int (2147483647 : Int32)), .val (.int n), .val (.int sp), .val (.int d0), .unset, .unset, .unset, .unset, .unset, .unset] [(.int (d0 &&& (1 : Int32)))])) _
      refine XS.istore X0.here hx rfl (hb hby at_45) rfl (l' := #[.val (.long ky), .second, .val (.int p1), .val (.int p2), .val (.int (2147483647 : Int32)), .val (.int n), .val (.int sp), .val (.int (d0 &&& (1 : Int32))), .unset, .unset, .unset, .unset, .unset, .unset]) rfl ?_
      exact k
  have C7 : ∀ t, Steps p.tables e below (s₁.setTop (mkF m 54 #[.val (.long ky), .second, .val (.int p1), .val (.int p2), .val (.int (2147483647 : Int32)), .val (.int n), .val (.int sp), .val (.int d), .val (.int (n + d)), .unset, .unset, .unset, .unset, .unset] [])) t → Steps p.tables e below (s₁.setTop (entryFrame m #[(.long ky), (.int p1), (.int p2)] maxLocals)) t := by
    intro t k
    refine C47 t ?_
    show Steps p.tables e below (s₁.setTop (mkF m 47 #[.val (.long ky), .second, .val (.int p1), .val (.int p2), .val (.int (2147483647 : Int32)), .val (.int n), .val (.int sp), .val (.int d), .unset, .unset, .unset, .unset, .unset, .unset] [])) _
    refine XS.iload X0.here hx rfl (hb hby at_47) rfl ?_
    show Steps p.tables e below (s₁.setTop (mkF m 49 #[.val (.long ky), .second, .val (.int p1), .val (.int p2), .val (.int (2147483647 : Int32)), .val (.int n), .val (.int sp), .val (.int d), .unset, .unset, .unset, .unset, .unset, .unset] [(.int n)])) _
    refine XS.iload X0.here hx rfl (hb hby at_49) rfl ?_
    show Steps p.tables e below (s₁.setTop (mkF m 51 #[.val (.long ky), .second, .val (.int p1), .val (.int p2), .val (.int (2147483647 : Int32)), .val (.int n), .val (.int sp), .val (.int d), .unset, .unset, .unset, .unset, .unset, .unset] [(.int d), (.int n)])) _
    refine XS.iadd X0.here hx rfl (hb hby at_51) rfl ?_
    show Steps p.tables e below (s₁.setTop (mkF m 52 #[.val (.long ky), .second, .val (.int p1), .val (.int p2), .val (.int (2147483647 : Int32)), .val (.int n), .val (.int sp), .val (.int d), .unset, .unset, .unset, .unset, .unset, .unset] [(.int (n + d))])) _
    refine XS.istore X0.here hx rfl (hb hby at_52) rfl (l' := #[.val (.long ky), .second, .val (.int p1), .val (.int p2), .val (.int (2147483647 : Int32)), .val (.int n), .val (.int sp), .val (.int d), .val (.int (n + d)), .unset, .unset, .unset, .unset, .unset]) rfl ?_
    exact k
  obtain ⟨m2, h_m2⟩ : ∃ z : Int32, z = (n + d) := ⟨_, rfl⟩
  rw [← h_m2] at C7
  have bm : n.toInt ≤ m2.toInt := by rw [h_m2]; exact own_m bn bd2 bsp
  obtain ⟨K, hK⟩ : ∃ K : Nat, 2147483647 < K := ⟨_, Nat.lt_succ_self _⟩
  have hKn : n.toInt < K := by omega
  have hKm : m2.toInt < K := by have := m2.toInt_lt; omega
  have hn1 : ¬ n < (1 : Int32) := fun q => by rw [Int32.lt_iff_toInt_lt] at q; have : (1 : Int32).toInt = 1 := rfl; omega
  have hm1 : ¬ m2 < (1 : Int32) := fun q => by rw [Int32.lt_iff_toInt_lt] at q; have : (1 : Int32).toInt = 1 := rfl; omega
  have C8 : ∀ t, Steps p.tables e below (s₁.setTop (mkF m 57 #[.val (.long ky), .second, .val (.int p1), .val (.int p2), .val (.int (2147483647 : Int32)), .val (.int n), .val (.int sp), .val (.int d), .val (.int m2), .unset, .unset, .unset, .unset, .unset] [(.int n), (.long ky)])) t → Steps p.tables e below (s₁.setTop (entryFrame m #[(.long ky), (.int p1), (.int p2)] maxLocals)) t := by
    intro t k
    refine C7 t ?_
    show Steps p.tables e below (s₁.setTop (mkF m 54 #[.val (.long ky), .second, .val (.int p1), .val (.int p2), .val (.int (2147483647 : Int32)), .val (.int n), .val (.int sp), .val (.int d), .val (.int m2), .unset, .unset, .unset, .unset, .unset] [])) _
    refine XS.lloadN X0.here hx rfl (hb hby at_54) rfl ?_
    show Steps p.tables e below (s₁.setTop (mkF m 55 #[.val (.long ky), .second, .val (.int p1), .val (.int p2), .val (.int (2147483647 : Int32)), .val (.int n), .val (.int sp), .val (.int d), .val (.int m2), .unset, .unset, .unset, .unset, .unset] [(.long ky)])) _
    refine XS.iload X0.here hx rfl (hb hby at_55) rfl ?_
    exact k
  obtain ⟨_, _, ⟨T9, L9, k9, n9⟩, -, X9, ⟨Lc9, hQ9, l9, y9, z9⟩, st9⟩ := Jvm.LawKit.callS X0 hx (y := (⟨"com/example/vnode/vnode/jump/JumpHash", "bucketOf", "(JI)I"⟩ : MethodName)) hown (mvT hZ (hw _ (List.mem_of_getElem? (i := 1) rfl))) (mvT hZ (hw _ (List.mem_of_getElem? (i := 2) rfl))) (mvT hZ (hw _ (List.mem_of_getElem? (i := 3) rfl))) (mvT hZ (hw _ (List.mem_of_getElem? (i := 4) rfl))) (by decide) (backOf (W := 0) (rm1 l Z a0 hw [] ky n K h0 n0 Z0 hn1 hKn) hZ (hw _ (List.mem_of_getElem? (i := 4) rfl)) (hw _ (List.mem_of_getElem? (i := 3) rfl)) (by decide) (by decide)) (g := (mkF m 57 #[.val (.long ky), .second, .val (.int p1), .val (.int p2), .val (.int (2147483647 : Int32)), .val (.int n), .val (.int sp), .val (.int d), .val (.int m2), .unset, .unset, .unset, .unset, .unset] [(.int n), (.long ky)])) rfl (by rw [hml]; rfl) (argsL := [(.long ky), (.int n)]) (rest := []) (lenOf pd0 rfl) rfl (by show 2 * 0 + _ ≤ _; exact Nat.le_of_eq rfl) (hb hby at_57) (fun _ _ => ⟨rfl, e0, (by decide : 0 + 0 ≤ _), (by decide : 0 + 0 ≤ _)⟩)
  dsimp only [Pt.U, Pt.locs, Pt.cells, Pt.slots] at X9 l9 y9 z9 st9 hQ9
  subst l9 y9 z9
  obtain ⟨rfl, N9q, q9⟩ := hQ9
  have N9 := Fr.app N0 N9q
  have C9 : ∀ t, Steps p.tables e below (T9.setTop (mkF m 60 #[.val (.long ky), .second, .val (.int p1), .val (.int p2), .val (.int (2147483647 : Int32)), .val (.int n), .val (.int sp), .val (.int d), .val (.int m2), .unset, .unset, .unset, .unset, .unset] [(.int ((own_jump K ky (-1) 0 n).toInt32))])) t → Steps p.tables e below (s₁.setTop (entryFrame m #[(.long ky), (.int p1), (.int p2)] maxLocals)) t := fun t k => C8 t (st9 t k)
  have Z1 : n0 ≤ T9.heap.size := by rw [q9]; exact Z0
  have C10 : ∀ t, Steps p.tables e below (T9.setTop (mkF m 65 #[.val (.long ky), .second, .val (.int p1), .val (.int p2), .val (.int (2147483647 : Int32)), .val (.int n), .val (.int sp), .val (.int d), .val (.int m2), .val (.int ((own_jump K ky (-1) 0 n).toInt32)), .unset, .unset, .unset, .unset] [(.int m2), (.long ky)])) t → Steps p.tables e below (s₁.setTop (entryFrame m #[(.long ky), (.int p1), (.int p2)] maxLocals)) t := by
    intro t k
    refine C9 t ?_
    show Steps p.tables e below (T9.setTop (mkF m 60 #[.val (.long ky), .second, .val (.int p1), .val (.int p2), .val (.int (2147483647 : Int32)), .val (.int n), .val (.int sp), .val (.int d), .val (.int m2), .unset, .unset, .unset, .unset, .unset] [(.int ((own_jump K ky (-1) 0 n).toInt32))])) _
    refine XS.istore X9.here hx rfl (hb hby at_60) rfl (l' := #[.val (.long ky), .second, .val (.int p1), .val (.int p2), .val (.int (2147483647 : Int32)), .val (.int n), .val (.int sp), .val (.int d), .val (.int m2), .val (.int ((own_jump K ky (-1) 0 n).toInt32)), .unset, .unset, .unset, .unset]) rfl ?_
    show Steps p.tables e below (T9.setTop (mkF m 62 #[.val (.long ky), .second, .val (.int p1), .val (.int p2), .val (.int (2147483647 : Int32)), .val (.int n), .val (.int sp), .val (.int d), .val (.int m2), .val (.int ((own_jump K ky (-1) 0 n).toInt32)), .unset, .unset, .unset, .unset] [])) _
    refine XS.lloadN X9.here hx rfl (hb hby at_62) rfl ?_
    show Steps p.tables e below (T9.setTop (mkF m 63 #[.val (.long ky), .second, .val (.int p1), .val (.int p2), .val (.int (2147483647 : Int32)), .val (.int n), .val (.int sp), .val (.int d), .val (.int m2), .val (.int ((own_jump K ky (-1) 0 n).toInt32)), .unset, .unset, .unset, .unset] [(.long ky)])) _
    refine XS.iload X9.here hx rfl (hb hby at_63) rfl ?_
    exact k
  obtain ⟨_, _, ⟨T11, L11, k11, n11⟩, -, X11, ⟨Lc11, hQ11, l11, y11, z11⟩, st11⟩ := Jvm.LawKit.callS X9 hx (y := (⟨"com/example/vnode/vnode/jump/JumpHash", "bucketOf", "(JI)I"⟩ : MethodName)) hown (mvT hZ (hw _ (List.mem_of_getElem? (i := 1) rfl))) (mvT hZ (hw _ (List.mem_of_getElem? (i := 2) rfl))) (mvT hZ (hw _ (List.mem_of_getElem? (i := 3) rfl))) (mvT hZ (hw _ (List.mem_of_getElem? (i := 4) rfl))) (by decide) (backOf (W := 0) (rm1 l Z a0 hw [] ky m2 K T9.heap n0 Z1 hm1 hKm) hZ (hw _ (List.mem_of_getElem? (i := 4) rfl)) (hw _ (List.mem_of_getElem? (i := 3) rfl)) (by decide) (by decide)) (g := (mkF m 65 #[.val (.long ky), .second, .val (.int p1), .val (.int p2), .val (.int (2147483647 : Int32)), .val (.int n), .val (.int sp), .val (.int d), .val (.int m2), .val (.int ((own_jump K ky (-1) 0 n).toInt32)), .unset, .unset, .unset, .unset] [(.int m2), (.long ky)])) rfl (by rw [hml]; rfl) (argsL := [(.long ky), (.int m2)]) (rest := []) (lenOf pd0 rfl) rfl (by show 2 * 0 + _ ≤ _; exact Nat.le_of_eq rfl) (hb hby at_65) (fun _ _ => ⟨rfl, rfl, (by decide : 0 + 0 ≤ _), (by decide : 0 + 0 ≤ _)⟩)
  dsimp only [Pt.U, Pt.locs, Pt.cells, Pt.slots] at X11 l11 y11 z11 st11 hQ11
  subst l11 y11 z11
  obtain ⟨rfl, N11q, q11⟩ := hQ11
  have N11 := Fr.app N9 N11q
  have C11 : ∀ t, Steps p.tables e below (T11.setTop (mkF m 68 #[.val (.long ky), .second, .val (.int p1), .val (.int p2), .val (.int (2147483647 : Int32)), .val (.int n), .val (.int sp), .val (.int d), .val (.int m2), .val (.int ((own_jump K ky (-1) 0 n).toInt32)), .unset, .unset, .unset, .unset] [(.int ((own_jump K ky (-1) 0 m2).toInt32))])) t → Steps p.tables e below (s₁.setTop (entryFrame m #[(.long ky), (.int p1), (.int p2)] maxLocals)) t := fun t k => C10 t (st11 t k)
  have C12 : ∀ t, Steps p.tables e below (T11.setTop (mkF m 70 #[.val (.long ky), .second, .val (.int p1), .val (.int p2), .val (.int (2147483647 : Int32)), .val (.int n), .val (.int sp), .val (.int d), .val (.int m2), .val (.int ((own_jump K ky (-1) 0 n).toInt32)), .val (.int ((own_jump K ky (-1) 0 m2).toInt32)), .unset, .unset, .unset] [])) t → Steps p.tables e below (s₁.setTop (entryFrame m #[(.long ky), (.int p1), (.int p2)] maxLocals)) t := by
    intro t k
    refine C11 t ?_
    show Steps p.tables e below (T11.setTop (mkF m 68 #[.val (.long ky), .second, .val (.int p1), .val (.int p2), .val (.int (2147483647 : Int32)), .val (.int n), .val (.int sp), .val (.int d), .val (.int m2), .val (.int ((own_jump K ky (-1) 0 n).toInt32)), .unset, .unset, .unset, .unset] [(.int ((own_jump K ky (-1) 0 m2).toInt32))])) _
    refine XS.istore X11.here hx rfl (hb hby at_68) rfl (l' := #[.val (.long ky), .second, .val (.int p1), .val (.int p2), .val (.int (2147483647 : Int32)), .val (.int n), .val (.int sp), .val (.int d), .val (.int m2), .val (.int ((own_jump K ky (-1) 0 n).toInt32)), .val (.int ((own_jump K ky (-1) 0 m2).toInt32)), .unset, .unset, .unset]) rfl ?_
    exact k
  obtain ⟨f1, f2, f3⟩ := own_law ky bn bm hK
  obtain ⟨xx, h_xx⟩ : ∃ z : Int32, z = ((own_jump K ky (-1) 0 n).toInt32) := ⟨_, rfl⟩
  simp only [← h_xx] at C12 f1 f2 f3
  obtain ⟨yy, h_yy⟩ : ∃ z : Int32, z = ((own_jump K ky (-1) 0 m2).toInt32) := ⟨_, rfl⟩
  simp only [← h_yy] at C12 f1 f2 f3
  have C13 : ∀ t, Steps p.tables e below (T11.setTop (mkF m 114 #[.val (.long ky), .second, .val (.int p1), .val (.int p2), .val (.int (2147483647 : Int32)), .val (.int n), .val (.int sp), .val (.int d), .val (.int m2), .val (.int xx), .val (.int yy), .val (.int (1 : Int32)), .val (.int (1 : Int32)), .unset] [(.int xx), (.int yy)])) t → Steps p.tables e below (s₁.setTop (entryFrame m #[(.long ky), (.int p1), (.int p2)] maxLocals)) t := by
    intro t k
    refine C12 t ?_
    show Steps p.tables e below (T11.setTop (mkF m 70 #[.val (.long ky), .second, .val (.int p1), .val (.int p2), .val (.int (2147483647 : Int32)), .val (.int n), .val (.int sp), .val (.int d), .val (.int m2), .val (.int xx), .val (.int yy), .unset, .unset, .unset] [])) _
    refine XS.iconst X11.here hx rfl (hb hby at_70) ?_
    show Steps p.tables e below (T11.setTop (mkF m 71 #[.val (.long ky), .second, .val (.int p1), .val (.int p2), .val (.int (2147483647 : Int32)), .val (.int n), .val (.int sp), .val (.int d), .val (.int m2), .val (.int xx), .val (.int yy), .unset, .unset, .unset] [(.int (0 : Int32))])) _
    refine XS.iload X11.here hx rfl (hb hby at_71) rfl ?_
    show Steps p.tables e below (T11.setTop (mkF m 73 #[.val (.long ky), .second, .val (.int p1), .val (.int p2), .val (.int (2147483647 : Int32)), .val (.int n), .val (.int sp), .val (.int d), .val (.int m2), .val (.int xx), .val (.int yy), .unset, .unset, .unset] [(.int xx), (.int (0 : Int32))])) _
    refine XS.icmpNo X11.here hx rfl (hb hby at_73) rfl (XT.ii_gt_f f1.1) ?_
    show Steps p.tables e below (T11.setTop (mkF m 76 #[.val (.long ky), .second, .val (.int p1), .val (.int p2), .val (.int (2147483647 : Int32)), .val (.int n), .val (.int sp), .val (.int d), .val (.int m2), .val (.int xx), .val (.int yy), .unset, .unset, .unset] [])) _
    refine XS.iload X11.here hx rfl (hb hby at_76) rfl ?_
    show Steps p.tables e below (T11.setTop (mkF m 78 #[.val (.long ky), .second, .val (.int p1), .val (.int p2), .val (.int (2147483647 : Int32)), .val (.int n), .val (.int sp), .val (.int d), .val (.int m2), .val (.int xx), .val (.int yy), .unset, .unset, .unset] [(.int xx)])) _
    refine XS.iload X11.here hx rfl (hb hby at_78) rfl ?_
    show Steps p.tables e below (T11.setTop (mkF m 80 #[.val (.long ky), .second, .val (.int p1), .val (.int p2), .val (.int (2147483647 : Int32)), .val (.int n), .val (.int sp), .val (.int d), .val (.int m2), .val (.int xx), .val (.int yy), .unset, .unset, .unset] [(.int n), (.int xx)])) _
    refine XS.icmpNo X11.here hx rfl (hb hby at_80) rfl (XT.ii_ge_f f1.2) ?_
    show Steps p.tables e below (T11.setTop (mkF m 83 #[.val (.long ky), .second, .val (.int p1), .val (.int p2), .val (.int (2147483647 : Int32)), .val (.int n), .val (.int sp), .val (.int d), .val (.int m2), .val (.int xx), .val (.int yy), .unset, .unset, .unset] [])) _
    refine XS.iconst X11.here hx rfl (hb hby at_83) ?_
    show Steps p.tables e below (T11.setTop (mkF m 84 #[.val (.long ky), .second, .val (.int p1), .val (.int p2), .val (.int (2147483647 : Int32)), .val (.int n), .val (.int sp), .val (.int d), .val (.int m2), .val (.int xx), .val (.int yy), .unset, .unset, .unset] [(.int (1 : Int32))])) _
    refine XS.goto X11.here hx rfl (pc0 := 84) (pc' := 88) rfl (hb hby at_84) (by decide) (by decide) ?_
    show Steps p.tables e below (T11.setTop (mkF m 88 #[.val (.long ky), .second, .val (.int p1), .val (.int p2), .val (.int (2147483647 : Int32)), .val (.int n), .val (.int sp), .val (.int d), .val (.int m2), .val (.int xx), .val (.int yy), .unset, .unset, .unset] [(.int (1 : Int32))])) _
    refine XS.istore X11.here hx rfl (hb hby at_88) rfl (l' := #[.val (.long ky), .second, .val (.int p1), .val (.int p2), .val (.int (2147483647 : Int32)), .val (.int n), .val (.int sp), .val (.int d), .val (.int m2), .val (.int xx), .val (.int yy), .val (.int (1 : Int32)), .unset, .unset]) rfl ?_
    show Steps p.tables e below (T11.setTop (mkF m 90 #[.val (.long ky), .second, .val (.int p1), .val (.int p2), .val (.int (2147483647 : Int32)), .val (.int n), .val (.int sp), .val (.int d), .val (.int m2), .val (.int xx), .val (.int yy), .val (.int (1 : Int32)), .unset, .unset] [])) _
    refine XS.iconst X11.here hx rfl (hb hby at_90) ?_
    show Steps p.tables e below (T11.setTop (mkF m 91 #[.val (.long ky), .second, .val (.int p1), .val (.int p2), .val (.int (2147483647 : Int32)), .val (.int n), .val (.int sp), .val (.int d), .val (.int m2), .val (.int xx), .val (.int yy), .val (.int (1 : Int32)), .unset, .unset] [(.int (0 : Int32))])) _
    refine XS.iload X11.here hx rfl (hb hby at_91) rfl ?_
    show Steps p.tables e below (T11.setTop (mkF m 93 #[.val (.long ky), .second, .val (.int p1), .val (.int p2), .val (.int (2147483647 : Int32)), .val (.int n), .val (.int sp), .val (.int d), .val (.int m2), .val (.int xx), .val (.int yy), .val (.int (1 : Int32)), .unset, .unset] [(.int yy), (.int (0 : Int32))])) _
    refine XS.icmpNo X11.here hx rfl (hb hby at_93) rfl (XT.ii_gt_f f2.1) ?_
    show Steps p.tables e below (T11.setTop (mkF m 96 #[.val (.long ky), .second, .val (.int p1), .val (.int p2), .val (.int (2147483647 : Int32)), .val (.int n), .val (.int sp), .val (.int d), .val (.int m2), .val (.int xx), .val (.int yy), .val (.int (1 : Int32)), .unset, .unset] [])) _
    refine XS.iload X11.here hx rfl (hb hby at_96) rfl ?_
    show Steps p.tables e below (T11.setTop (mkF m 98 #[.val (.long ky), .second, .val (.int p1), .val (.int p2), .val (.int (2147483647 : Int32)), .val (.int n), .val (.int sp), .val (.int d), .val (.int m2), .val (.int xx), .val (.int yy), .val (.int (1 : Int32)), .unset, .unset] [(.int yy)])) _
    refine XS.iload X11.here hx rfl (hb hby at_98) rfl ?_
    show Steps p.tables e below (T11.setTop (mkF m 100 #[.val (.long ky), .second, .val (.int p1), .val (.int p2), .val (.int (2147483647 : Int32)), .val (.int n), .val (.int sp), .val (.int d), .val (.int m2), .val (.int xx), .val (.int yy), .val (.int (1 : Int32)), .unset, .unset] [(.int m2), (.int yy)])) _
    refine XS.icmpNo X11.here hx rfl (hb hby at_100) rfl (XT.ii_ge_f f2.2) ?_
    show Steps p.tables e below (T11.setTop (mkF m 103 #[.val (.long ky), .second, .val (.int p1), .val (.int p2), .val (.int (2147483647 : Int32)), .val (.int n), .val (.int sp), .val (.int d), .val (.int m2), .val (.int xx), .val (.int yy), .val (.int (1 : Int32)), .unset, .unset] [])) _
    refine XS.iconst X11.here hx rfl (hb hby at_103) ?_
    show Steps p.tables e below (T11.setTop (mkF m 104 #[.val (.long ky), .second, .val (.int p1), .val (.int p2), .val (.int (2147483647 : Int32)), .val (.int n), .val (.int sp), .val (.int d), .val (.int m2), .val (.int xx), .val (.int yy), .val (.int (1 : Int32)), .unset, .unset] [(.int (1 : Int32))])) _
    refine XS.goto X11.here hx rfl (pc0 := 104) (pc' := 108) rfl (hb hby at_104) (by decide) (by decide) ?_
    show Steps p.tables e below (T11.setTop (mkF m 108 #[.val (.long ky), .second, .val (.int p1), .val (.int p2), .val (.int (2147483647 : Int32)), .val (.int n), .val (.int sp), .val (.int d), .val (.int m2), .val (.int xx), .val (.int yy), .val (.int (1 : Int32)), .unset, .unset] [(.int (1 : Int32))])) _
    refine XS.istore X11.here hx rfl (hb hby at_108) rfl (l' := #[.val (.long ky), .second, .val (.int p1), .val (.int p2), .val (.int (2147483647 : Int32)), .val (.int n), .val (.int sp), .val (.int d), .val (.int m2), .val (.int xx), .val (.int yy), .val (.int (1 : Int32)), .val (.int (1 : Int32)), .unset]) rfl ?_
    show Steps p.tables e below (T11.setTop (mkF m 110 #[.val (.long ky), .second, .val (.int p1), .val (.int p2), .val (.int (2147483647 : Int32)), .val (.int n), .val (.int sp), .val (.int d), .val (.int m2), .val (.int xx), .val (.int yy), .val (.int (1 : Int32)), .val (.int (1 : Int32)), .unset] [])) _
    refine XS.iload X11.here hx rfl (hb hby at_110) rfl ?_
    show Steps p.tables e below (T11.setTop (mkF m 112 #[.val (.long ky), .second, .val (.int p1), .val (.int p2), .val (.int (2147483647 : Int32)), .val (.int n), .val (.int sp), .val (.int d), .val (.int m2), .val (.int xx), .val (.int yy), .val (.int (1 : Int32)), .val (.int (1 : Int32)), .unset] [(.int yy)])) _
    refine XS.iload X11.here hx rfl (hb hby at_112) rfl ?_
    exact k
  have C129 : ∀ t, Steps p.tables e below (T11.setTop (mkF m 129 #[.val (.long ky), .second, .val (.int p1), .val (.int p2), .val (.int (2147483647 : Int32)), .val (.int n), .val (.int sp), .val (.int d), .val (.int m2), .val (.int xx), .val (.int yy), .val (.int (1 : Int32)), .val (.int (1 : Int32)), .unset] [(.int (1 : Int32))])) t → Steps p.tables e below (s₁.setTop (entryFrame m #[(.long ky), (.int p1), (.int p2)] maxLocals)) t := by
    by_cases hm : yy = xx
    · intro t k
      refine C13 t ?_
      show Steps p.tables e below (T11.setTop (mkF m 114 #[.val (.long ky), .second, .val (.int p1), .val (.int p2), .val (.int (2147483647 : Int32)), .val (.int n), .val (.int sp), .val (.int d), .val (.int m2), .val (.int xx), .val (.int yy), .val (.int (1 : Int32)), .val (.int (1 : Int32)), .unset] [(.int xx), (.int yy)])) _
      refine XS.icmpYes X11.here hx rfl (pc0 := 114) (pc' := 124) rfl (hb hby at_114) rfl (XT.ii_eq_t hm) (by decide) (by decide) ?_
      show Steps p.tables e below (T11.setTop (mkF m 124 #[.val (.long ky), .second, .val (.int p1), .val (.int p2), .val (.int (2147483647 : Int32)), .val (.int n), .val (.int sp), .val (.int d), .val (.int m2), .val (.int xx), .val (.int yy), .val (.int (1 : Int32)), .val (.int (1 : Int32)), .unset] [])) _
      refine XS.iconst X11.here hx rfl (hb hby at_124) ?_
      show Steps p.tables e below (T11.setTop (mkF m 125 #[.val (.long ky), .second, .val (.int p1), .val (.int p2), .val (.int (2147483647 : Int32)), .val (.int n), .val (.int sp), .val (.int d), .val (.int m2), .val (.int xx), .val (.int yy), .val (.int (1 : Int32)), .val (.int (1 : Int32)), .unset] [(.int (1 : Int32))])) _
      refine XS.goto X11.here hx rfl (pc0 := 125) (pc' := 129) rfl (hb hby at_125) (by decide) (by decide) ?_
      exact k
    · intro t k
      refine C13 t ?_
      show Steps p.tables e below (T11.setTop (mkF m 114 #[.val (.long ky), .second, .val (.int p1), .val (.int p2), .val (.int (2147483647 : Int32)), .val (.int n), .val (.int sp), .val (.int d), .val (.int m2), .val (.int xx), .val (.int yy), .val (.int (1 : Int32)), .val (.int (1 : Int32)), .unset] [(.int xx), (.int yy)])) _
      refine XS.icmpNo X11.here hx rfl (hb hby at_114) rfl (XT.ii_eq_f hm) ?_
      show Steps p.tables e below (T11.setTop (mkF m 117 #[.val (.long ky), .second, .val (.int p1), .val (.int p2), .val (.int (2147483647 : Int32)), .val (.int n), .val (.int sp), .val (.int d), .val (.int m2), .val (.int xx), .val (.int yy), .val (.int (1 : Int32)), .val (.int (1 : Int32)), .unset] [])) _
      refine XS.iload X11.here hx rfl (hb hby at_117) rfl ?_
      show Steps p.tables e below (T11.setTop (mkF m 119 #[.val (.long ky), .second, .val (.int p1), .val (.int p2), .val (.int (2147483647 : Int32)), .val (.int n), .val (.int sp), .val (.int d), .val (.int m2), .val (.int xx), .val (.int yy), .val (.int (1 : Int32)), .val (.int (1 : Int32)), .unset] [(.int yy)])) _
      refine XS.iload X11.here hx rfl (hb hby at_119) rfl ?_
      show Steps p.tables e below (T11.setTop (mkF m 121 #[.val (.long ky), .second, .val (.int p1), .val (.int p2), .val (.int (2147483647 : Int32)), .val (.int n), .val (.int sp), .val (.int d), .val (.int m2), .val (.int xx), .val (.int yy), .val (.int (1 : Int32)), .val (.int (1 : Int32)), .unset] [(.int n), (.int yy)])) _
      refine XS.icmpNo X11.here hx rfl (hb hby at_121) rfl (XT.ii_lt_f (f3.resolve_left hm)) ?_
      show Steps p.tables e below (T11.setTop (mkF m 124 #[.val (.long ky), .second, .val (.int p1), .val (.int p2), .val (.int (2147483647 : Int32)), .val (.int n), .val (.int sp), .val (.int d), .val (.int m2), .val (.int xx), .val (.int yy), .val (.int (1 : Int32)), .val (.int (1 : Int32)), .unset] [])) _
      refine XS.iconst X11.here hx rfl (hb hby at_124) ?_
      show Steps p.tables e below (T11.setTop (mkF m 125 #[.val (.long ky), .second, .val (.int p1), .val (.int p2), .val (.int (2147483647 : Int32)), .val (.int n), .val (.int sp), .val (.int d), .val (.int m2), .val (.int xx), .val (.int yy), .val (.int (1 : Int32)), .val (.int (1 : Int32)), .unset] [(.int (1 : Int32))])) _
      refine XS.goto X11.here hx rfl (pc0 := 125) (pc' := 129) rfl (hb hby at_125) (by decide) (by decide) ?_
      exact k
  have C14 : ∀ t, Steps p.tables e below (T11.setTop (mkF m 151 #[.val (.long ky), .second, .val (.int p1), .val (.int p2), .val (.int (2147483647 : Int32)), .val (.int n), .val (.int sp), .val (.int d), .val (.int m2), .val (.int xx), .val (.int yy), .val (.int (1 : Int32)), .val (.int (1 : Int32)), .val (.int (1 : Int32))] [(.int (1 : Int32))])) t → Steps p.tables e below (s₁.setTop (entryFrame m #[(.long ky), (.int p1), (.int p2)] maxLocals)) t := by
    intro t k
    refine C129 t ?_
    show Steps p.tables e below (T11.setTop (mkF m 129 #[.val (.long ky), .second, .val (.int p1), .val (.int p2), .val (.int (2147483647 : Int32)), .val (.int n), .val (.int sp), .val (.int d), .val (.int m2), .val (.int xx), .val (.int yy), .val (.int (1 : Int32)), .val (.int (1 : Int32)), .unset] [(.int (1 : Int32))])) _
    refine XS.istore X11.here hx rfl (hb hby at_129) rfl (l' := #[.val (.long ky), .second, .val (.int p1), .val (.int p2), .val (.int (2147483647 : Int32)), .val (.int n), .val (.int sp), .val (.int d), .val (.int m2), .val (.int xx), .val (.int yy), .val (.int (1 : Int32)), .val (.int (1 : Int32)), .val (.int (1 : Int32))]) rfl ?_
    show Steps p.tables e below (T11.setTop (mkF m 131 #[.val (.long ky), .second, .val (.int p1), .val (.int p2), .val (.int (2147483647 : Int32)), .val (.int n), .val (.int sp), .val (.int d), .val (.int m2), .val (.int xx), .val (.int yy), .val (.int (1 : Int32)), .val (.int (1 : Int32)), .val (.int (1 : Int32))] [])) _
    refine XS.iload X11.here hx rfl (hb hby at_131) rfl ?_
    show Steps p.tables e below (T11.setTop (mkF m 133 #[.val (.long ky), .second, .val (.int p1), .val (.int p2), .val (.int (2147483647 : Int32)), .val (.int n), .val (.int sp), .val (.int d), .val (.int m2), .val (.int xx), .val (.int yy), .val (.int (1 : Int32)), .val (.int (1 : Int32)), .val (.int (1 : Int32))] [(.int (1 : Int32))])) _
    refine XS.ifNo X11.here hx rfl (hb hby at_133) rfl (XT.i0_eq_f (by decide)) ?_
    show Steps p.tables e below (T11.setTop (mkF m 136 #[.val (.long ky), .second, .val (.int p1), .val (.int p2), .val (.int (2147483647 : Int32)), .val (.int n), .val (.int sp), .val (.int d), .val (.int m2), .val (.int xx), .val (.int yy), .val (.int (1 : Int32)), .val (.int (1 : Int32)), .val (.int (1 : Int32))] [])) _
    refine XS.iload X11.here hx rfl (hb hby at_136) rfl ?_
    show Steps p.tables e below (T11.setTop (mkF m 138 #[.val (.long ky), .second, .val (.int p1), .val (.int p2), .val (.int (2147483647 : Int32)), .val (.int n), .val (.int sp), .val (.int d), .val (.int m2), .val (.int xx), .val (.int yy), .val (.int (1 : Int32)), .val (.int (1 : Int32)), .val (.int (1 : Int32))] [(.int (1 : Int32))])) _
    refine XS.ifNo X11.here hx rfl (hb hby at_138) rfl (XT.i0_eq_f (by decide)) ?_
    show Steps p.tables e below (T11.setTop (mkF m 141 #[.val (.long ky), .second, .val (.int p1), .val (.int p2), .val (.int (2147483647 : Int32)), .val (.int n), .val (.int sp), .val (.int d), .val (.int m2), .val (.int xx), .val (.int yy), .val (.int (1 : Int32)), .val (.int (1 : Int32)), .val (.int (1 : Int32))] [])) _
    refine XS.iload X11.here hx rfl (hb hby at_141) rfl ?_
    show Steps p.tables e below (T11.setTop (mkF m 143 #[.val (.long ky), .second, .val (.int p1), .val (.int p2), .val (.int (2147483647 : Int32)), .val (.int n), .val (.int sp), .val (.int d), .val (.int m2), .val (.int xx), .val (.int yy), .val (.int (1 : Int32)), .val (.int (1 : Int32)), .val (.int (1 : Int32))] [(.int (1 : Int32))])) _
    refine XS.ifNo X11.here hx rfl (hb hby at_143) rfl (XT.i0_eq_f (by decide)) ?_
    show Steps p.tables e below (T11.setTop (mkF m 146 #[.val (.long ky), .second, .val (.int p1), .val (.int p2), .val (.int (2147483647 : Int32)), .val (.int n), .val (.int sp), .val (.int d), .val (.int m2), .val (.int xx), .val (.int yy), .val (.int (1 : Int32)), .val (.int (1 : Int32)), .val (.int (1 : Int32))] [])) _
    refine XS.iconst X11.here hx rfl (hb hby at_146) ?_
    show Steps p.tables e below (T11.setTop (mkF m 147 #[.val (.long ky), .second, .val (.int p1), .val (.int p2), .val (.int (2147483647 : Int32)), .val (.int n), .val (.int sp), .val (.int d), .val (.int m2), .val (.int xx), .val (.int yy), .val (.int (1 : Int32)), .val (.int (1 : Int32)), .val (.int (1 : Int32))] [(.int (1 : Int32))])) _
    refine XS.goto X11.here hx rfl (pc0 := 147) (pc' := 151) rfl (hb hby at_147) (by decide) (by decide) ?_
    exact k
  obtain ⟨fs, hr, hrun, hended, hW, hsame⟩ := X11.leave (v := some (.int (1 : Int32))) (fun h => by rw [Bd.returns] at h; cases h)
  refine ⟨_, _, C14 _ ?_, hrun, hended, _, _, rfl, ?_, ⟨_, rfl⟩, hW, hsame.mono (by decide) (by decide)⟩
  · show Steps p.tables e below (T11.setTop (mkF m 151 #[.val (.long ky), .second, .val (.int p1), .val (.int p2), .val (.int (2147483647 : Int32)), .val (.int n), .val (.int sp), .val (.int d), .val (.int m2), .val (.int xx), .val (.int yy), .val (.int (1 : Int32)), .val (.int (1 : Int32)), .val (.int (1 : Int32))] [(.int (1 : Int32))])) _
    exact retN X11 hx (t := .boolean) Bd.returns (by simp) (hb hby at_151) hr
  · show Q0 Z ky p1 p2 h0 n0 _ T11.heap _
    exact ⟨rfl, N11⟩
set_option maxRecDepth 65536 in
set_option maxHeartbeats 40000000 in
theorem comes_1 {Post : Tables → Env → Array Value → State → Outcome → State → Prop} (hpost : ∀ tb e args s v u, (limb_1_1.after args s (.returned v) u = true ∧ limb_1_2.after args s (.returned v) u = true ∧ True) → FrameEnd s (.returned v) u (Jvm.fieldLocs frame_1_writes args s ++ Jvm.arrayLocs frame_1_arrays args s ++ Jvm.staticLocs frame_1_statics s) 0 0 → Post tb e args s (.returned v) u) :
    ArmFor flags0 classFile x code maxLocals ret World_1 tables_1 room_1 Calls_1 rest_1 Pre_1 Post := by
  intro l hfl _ _ p e ha hc hk s m args below hf hA hF happ hP
  obtain ⟨hcalls, hrest, hpre⟩ := hP
  obtain ⟨-, -, -, hnamed, -, -, -, hat⟩ := (Spec.applies_iff hf).mp happ
  obtain ⟨hg, hn⟩ := and_e (Cond.before_iff.mp (show (Jvm.Cond.and given_1 narrow_1).before args s = true from hpre))
  obtain ⟨hcount, r0⟩ := and_e hg
  obtain ⟨q0, r1⟩ := and_e r0
  obtain ⟨q1, r2⟩ := and_e r1
  have q2 := r2
  obtain ⟨w0, w1, w2, rfl⟩ : ∃ w0 w1 w2 : Value, args = #[w0, w1, w2] := by
    have hs : args.size = 3 := by simpa [Cond.value, given_1] using hcount
    obtain ⟨L⟩ := args
    match L, hs with
    | [w0, w1, w2], _ => exact ⟨w0, w1, w2, rfl⟩
  have hw := fun d (hd : d ∈ tables_1) => atoms_spec (ws := Jvm.Cond.code x code maxLocals ret :: tables_1) hat d (List.mem_cons_of_mem _ hd)
  obtain ⟨i0, ei0⟩ := isL_v q0
  obtain rfl : w0 = (.long i0) := Option.some.inj ei0
  obtain ⟨i1, ei1⟩ := is_v q1
  obtain rfl : w1 = (.int i1) := Option.some.inj ei1
  obtain ⟨i2, ei2⟩ := is_v q2
  obtain rfl : w2 = (.int i2) := Option.some.inj ei2
  obtain ⟨n, o, h1, h2, h3, _, L, rfl, ⟨rfl, N⟩, hq⟩ := rm0 l s _ hw tables_1 i0 i1 i2 s.heap s.heap.size (Nat.le_refl _)  p e ha hc hk s m _ below hf ((Spec.applies_iff_loose hf).mp happ).1 ⟨rfl, State.Warmed39.refl s, rfl⟩ trivial
  refine ⟨n, _, h1, h2, h3, hpost _ _ _ _ _ _ ⟨Cond.after_iff.mpr rfl, Cond.after_iff.mpr (eq_i res_at (Term.int_eval (1)) rfl), trivial⟩ ⟨hq.1, hq.2.1, (hq.2.2.sift fun y hy => Or.inr (N y hy)).mono (by decide) (by decide)⟩⟩
theorem main_1_1 : Claimed_1_1 := comes_1 fun _ _ _ _ _ _ h hF => ⟨h.1, hF⟩
theorem main_1_2 : Claimed_1_2 := comes_1 fun _ _ _ _ _ _ h hF => ⟨h.2.1, hF⟩
end Jvm.Pilot.@@N@@
namespace Jvm.Pilot.@@N@@
open Jvm Jvm.ClassFile Sem Op Lib Jvm.Free Jvm.Stand Jvm.Pilot.@@N@@.Jvm.D
/-! MADE BY PROGRAM (witnessworld.py) out of the Statement's table words and the real class files: 9 classes; the members and pool entries that the words name. The judged class is class 1, her method 1. -/
namespace start1
open Jvm.ClassFile
def u (s : String) : CpInfo := .utf8 (stringToUtf16 s)
/-- a pool by its gaps: so many unusable entries, then the entry; so many at the end -/
def gap : Nat → List CpInfo → List CpInfo
  | 0, r => r
  | n + 1, r => .unusable :: gap n r
def poolList (es : List (Nat × CpInfo)) (last : Nat) : List CpInfo := es.foldr (fun e r => gap e.1 (e.2 :: r)) (gap last [])
def pool (es : List (Nat × CpInfo)) (last : Nat) : Array CpInfo := ⟨poolList es last⟩
def fileOf (pool : Array CpInfo) (this : Nat) (attrs : Array Attribute := #[]) (ms : Array MethodInfo := #[]) (fl : Nat := 33) (sup : Nat := 0) (ifs : Array Nat := #[]) (fds : Array FieldInfo := #[]) : ClassFile where
  minorVersion := 0
  majorVersion := 65
  constantPool := pool
  accessFlags := fl
  thisClass := this
  superClass := sup
  interfaces := ifs
  fields := fds
  methods := ms
  attributes := attrs
def plain (name : String) (sup : Option ClassId) : Class where
  name := name
  kind := .ordinary
  loader := none
  accessFlags := 33
  super := sup
  interfaces := #[]
  cf := none
  fields := #[]
  methods := #[]
  instanceTypes := #[]
  staticTypes := #[]
  resolved := #[]
  callSites := []
  init := .initialized
  statics := none
  mirror := none

def pool0 : Array CpInfo := pool [(5, u "<init>"), (0, u "()V"), (1, .class_ 10), (1, u "java/lang/Object")] 113

def k0m0 : Method := { name := "<init>", desc := "()V", sig := { parameters := [], returnType := none }, accessFlags := 1, code := none }
/-- java/lang/Object -/
def k0 : Class := { plain "java/lang/Object" none with
  accessFlags := 33
  interfaces := #[]
  cf := some (fileOf pool0 8 #[] #[{ accessFlags := 1, nameIndex := 5, descriptorIndex := 6, attributes := #[] }] 33 0 #[] #[])
  fields := #[]
  methods := #[k0m0]
  instanceTypes := #[]
  staticTypes := #[]
  resolved := Array.replicate 124 none
  statics := none }

def pool1 : Array CpInfo := pool [(2, .class_ 4), (1, u "java/lang/Object"), (0, u "<init>"), (0, u "()V"), (2, .integer 2147483647), (0, .methodref 11 12), (0, .class_ 13), (0, .nameAndType 14 15), (0, u "com/example/vnode/vnode/jump/JumpHash"), (0, u "bucketOf"), (0, u "(JI)I"), (0, .class_ 17), (0, u "com/example/vnode/vnode/jump/JumpHashBucketOfPinLaw"), (2, u "law"), (0, u "(JII)Z")] 3

def k1m0 : Method := { name := "<init>", desc := "()V", sig := { parameters := [], returnType := none }, accessFlags := 1, code := none }
def k1c1 : Code := { maxStack := 3, maxLocals := 14, code := code, exceptionTable := #[], attributes := #[] }
def k1m1 : Method := { name := "law", desc := "(JII)Z", sig := { parameters := [.long, .int, .int], returnType := some .boolean }, accessFlags := 9, code := some k1c1 }
/-- com/example/vnode/vnode/jump/JumpHashBucketOfPinLaw -/
def k1 : Class := { plain "com/example/vnode/vnode/jump/JumpHashBucketOfPinLaw" (some 0) with
  accessFlags := 49
  interfaces := #[]
  cf := some (fileOf pool1 16 #[] #[{ accessFlags := 1, nameIndex := 5, descriptorIndex := 6, attributes := #[] }, { accessFlags := 9, nameIndex := 20, descriptorIndex := 21, attributes := #[] }] 49 2 #[] #[])
  fields := #[]
  methods := #[k1m0, k1m1]
  instanceTypes := #[]
  staticTypes := #[]
  resolved := Array.replicate 25 none
  statics := none }

def pool2 : Array CpInfo := pool [(2, .class_ 4), (1, u "java/lang/Object"), (0, u "<init>"), (0, u "()V"), (9, .long 18446744073709551615), (1, .class_ 19), (0, u "com/example/vnode/vnode/jump/JumpHash"), (0, .long 2862933555777941757), (1, .double 4746794007248502784), (17, u "bucketOf"), (0, u "(JI)I"), (0, u "GENERATOR_MULTIPLIER"), (0, u "J"), (1, u "JUMP_SCALE"), (0, u "D")] 21

def k2m0 : Method := { name := "<init>", desc := "()V", sig := { parameters := [], returnType := none }, accessFlags := 2, code := none }
def k2c1 : Code := { maxStack := 8, maxLocals := 9, code := prog_4_method_2_code, exceptionTable := #[], attributes := #[] }
def k2m1 : Method := { name := "bucketOf", desc := "(JI)I", sig := { parameters := [.long, .int], returnType := some .int }, accessFlags := 9, code := some k2c1 }
/-- com/example/vnode/vnode/jump/JumpHash -/
def k2 : Class := { plain "com/example/vnode/vnode/jump/JumpHash" (some 0) with
  accessFlags := 49
  interfaces := #[]
  cf := some (fileOf pool2 18 #[] #[{ accessFlags := 2, nameIndex := 5, descriptorIndex := 6, attributes := #[] }, { accessFlags := 9, nameIndex := 40, descriptorIndex := 41, attributes := #[] }] 49 2 #[] #[{ accessFlags := 26, nameIndex := 42, descriptorIndex := 43, attributes := #[] }, { accessFlags := 26, nameIndex := 45, descriptorIndex := 46, attributes := #[] }])
  fields := #[{ name := "GENERATOR_MULTIPLIER", type := .long, accessFlags := 26, slot := 0, constantValue := 0 }, { name := "JUMP_SCALE", type := .double, accessFlags := 26, slot := 1, constantValue := 0 }]
  methods := #[k2m0, k2m1]
  instanceTypes := #[]
  staticTypes := #[.long, .double]
  resolved := Array.replicate 68 none
  statics := none }

def pool3 : Array CpInfo := pool [(1, u "java/lang/Cloneable"), (0, .class_ 1), (0, u "java/lang/Object"), (0, .class_ 3)] 3

/-- java/lang/Cloneable -/
def k3 : Class := { plain "java/lang/Cloneable" (some 0) with
  accessFlags := 1537
  interfaces := #[]
  cf := some (fileOf pool3 2 #[] #[] 1537 4 #[] #[])
  fields := #[]
  methods := #[]
  instanceTypes := #[]
  staticTypes := #[]
  resolved := Array.replicate 8 none
  statics := none }

def pool4 : Array CpInfo := pool [(1, u "java/io/Serializable"), (0, .class_ 1), (0, u "java/lang/Object"), (0, .class_ 3)] 3

/-- java/io/Serializable -/
def k4 : Class := { plain "java/io/Serializable" (some 0) with
  accessFlags := 1537
  interfaces := #[]
  cf := some (fileOf pool4 2 #[] #[] 1537 4 #[] #[])
  fields := #[]
  methods := #[]
  instanceTypes := #[]
  staticTypes := #[]
  resolved := Array.replicate 8 none
  statics := none }

/-- the primitive byte -/
def k5 : Class := { plain "byte" none with kind := .primitive 'B', accessFlags := 0x411 }
/-- [B -/
def k6 : Class := { plain "[B" (some 0) with kind := .array 5 .byte, interfaces := #[3, 4], accessFlags := 1041 }

/-- the primitive int -/
def k7 : Class := { plain "int" none with kind := .primitive 'I', accessFlags := 0x411 }
/-- [I -/
def k8 : Class := { plain "[I" (some 0) with kind := .array 7 .int, interfaces := #[3, 4], accessFlags := 1041 }

def heap : Heap := #[]
def classes : Array Class := #[k0, k1, k2, k3, k4, k5, k6, k7, k8]
def interned : List (Array UInt16 × Addr) := []
def slotsUsed : Nat := 0
def theMethod : MethodId := ⟨1, 1⟩
def args0 : Array Value := #[.long 5, .int 5, .int 5]
def aboutOver (below : List Frame) : State where
  vm := { classes := classes, interned := interned.toArray }
  heap := heap
  slotsUsed := slotsUsed
  threads := #[{ frames := .invoking theMethod args0 :: below }]
def below0 : List Frame := [.native { method := ⟨0, 0⟩, args := #[] }]
def about1 : State := aboutOver below0
def p0 : Program := .bare "" "" ""
def e0 : Env := launch0.env 0 0 0
theorem w_frames : about1.frames = Frame.invoking theMethod args0 :: below0 := rfl
set_option maxRecDepth 65536 in
theorem w_args : argsFit about1.vm theMethod args0 = true := by decide +kernel
set_option maxRecDepth 65536 in
theorem w_heap : heapFits about1 = true := by decide +kernel
set_option maxRecDepth 65536 in
theorem w_runnable : about1.curStatus? = some .runnable := by decide +kernel
set_option maxRecDepth 65536 in
theorem w_alone : about1.alone = true := by decide +kernel
set_option maxRecDepth 65536 in
theorem w_named : about1.methodNamed? x = some theMethod := by decide +kernel
set_option maxRecDepth 65536 in
theorem w_hears : about1.hears theMethod below0 = true := by decide +kernel
set_option maxRecDepth 65536 in
theorem w_ripe : about1.ripe theMethod args0 below0 = true := by decide +kernel
theorem w_running : about1.status = .running := rfl
set_option maxRecDepth 65536 in
theorem w_room : about1.hasRoom e0.platform room_1 = true :=
  launch0.hasRoom_least _ room_1 (by decide +kernel) (by decide +kernel) (by decide +kernel) (by decide +kernel) (by decide +kernel) (by decide +kernel)
theorem allAtoms_all (ts : List Jvm.Cond) (a : Array Jvm.Value) (st : Jvm.State) : (allAtoms ts).before a st = ts.all (fun c => c.before a st) := by
  induction ts with
  | nil => rfl
  | cons c t ih =>
    show (Jvm.Cond.and c (allAtoms t)).before a st = _
    rw [Jvm.Cond.before_and, ih, List.all_cons]
def words1 : List Jvm.Cond := Jvm.Cond.code x code maxLocals ret :: tables_1
/-- a 'code' word, met by the world's own term for the bytes: nothing is compared byte by byte -/
theorem code_word {y : MethodName} {bytes : ByteArray} {mx : Nat} {rt : Option FieldType} {a : Array Value} {s : State} {m : MethodId} {meth : Method} {c : Code} (h1 : s.methodNamed? y = some m) (h2 : s.vm.method? m = some meth) (h3 : meth.code = some c) (h4 : c.code = bytes)
    (h5 : (c.maxLocals == mx && c.exceptionTable.isEmpty && decide (c.maxStack ≤ mostOperands) && decide (meth.sig.returnType = rt) && !meth.locks && decide (parseMethodDescriptor y.desc = some meth.sig)) = true) : (Jvm.Cond.code y bytes mx rt).before a s = true := by
  simp only [Bool.and_eq_true, beq_iff_eq, Bool.not_eq_true', decide_eq_true_eq] at h5
  obtain ⟨⟨⟨⟨⟨g1, g2⟩, g3⟩, g4⟩, g5⟩, g6⟩ := h5
  simp [Cond.before, Cond.holds, Cond.value, h1, h2, h3, h4, g1, g2, g3, g4, g5, g6]
def isCode : Jvm.Cond → Bool
  | .code _ _ _ _ => true
  | _ => false
theorem all_split {L : List Jvm.Cond} {P : Jvm.Cond → Bool} (h1 : L.all (fun c => isCode c || P c) = true) (h2 : ∀ c ∈ L.filter isCode, P c = true) : L.all P = true := by
  refine List.all_eq_true.mpr fun c hc => ?_
  have h := List.all_eq_true.mp h1 c hc
  rcases Bool.eq_false_or_eq_true (isCode c) with hi | hi
  · exact h2 c (List.mem_filter.mpr ⟨hc, hi⟩)
  · simpa [hi] using h
set_option maxRecDepth 65536 in
theorem w_c0 : (Jvm.Cond.code x code maxLocals ret).before args0 about1 = true := code_word (m := ⟨1, 1⟩) (meth := k1m1) (c := k1c1) (by decide +kernel) rfl rfl rfl (by decide +kernel)
set_option maxRecDepth 65536 in
theorem w_c1 : (Jvm.Cond.code ({ cls := "com/example/vnode/vnode/jump/JumpHash", name := "bucketOf", desc := "(JI)I" } : Jvm.MethodName) prog_4_method_2_code (9 : Nat) (Option.some Jvm.ClassFile.FieldType.int)).before args0 about1 = true := code_word (m := ⟨2, 1⟩) (meth := k2m1) (c := k2c1) (by decide +kernel) rfl rfl rfl (by decide +kernel)
def codes1 : List Jvm.Cond := [Jvm.Cond.code x code maxLocals ret, Jvm.Cond.code ({ cls := "com/example/vnode/vnode/jump/JumpHash", name := "bucketOf", desc := "(JI)I" } : Jvm.MethodName) prog_4_method_2_code (9 : Nat) (Option.some Jvm.ClassFile.FieldType.int)]
set_option maxRecDepth 65536 in
theorem codes_eq : words1.filter isCode = codes1 := rfl
theorem w_codes : ∀ c ∈ words1.filter isCode, c.before args0 about1 = true := by
  rw [codes_eq]
  intro c hc
  simp only [codes1, List.mem_cons, List.not_mem_nil, or_false] at hc
  rcases hc with rfl | rfl
  · exact w_c0
  · exact w_c1
set_option maxRecDepth 65536 in
theorem w_t1 : words1.all (fun c => isCode c || c.before args0 about1) = true := by decide +kernel
theorem w_tables : (allAtoms (Jvm.Cond.code x code maxLocals ret :: tables_1)).before args0 about1 = true := by
  rw [allAtoms_all]
  show words1.all (fun c => c.before args0 about1) = true
  refine all_split ?_ w_codes
  rw [w_t1]
set_option maxRecDepth 65536 in
theorem w_case : (Jvm.Cond.and given_1 narrow_1).before args0 about1 = true := by decide +kernel
theorem w_applies : (headSpec (Jvm.Cond.code x code maxLocals ret :: tables_1) room_1).applies x e0.platform about1 = true :=
  (Spec.applies_iff w_frames).mpr ⟨w_running, w_runnable, w_alone, w_named, w_hears, w_ripe, w_room, w_tables⟩
theorem atStart : AtStart classFile x code maxLocals ret World_1 tables_1 room_1 Calls_1 rest_1 Pre_1 launch0 p0 e0 about1 theMethod args0 below0 :=
  ⟨lists_1, trivial, launch0.admits_env _ _ _, launch0.least_env, fairChoices_fair.cas, fairChoices_fair.clock, w_frames, w_args, w_heap, w_applies, trivial, trivial, w_case⟩
end start1
theorem witness_1 : WitnessClaimed_1 := ⟨start1.p0, start1.e0, start1.about1, start1.theMethod, start1.args0, start1.below0, start1.atStart⟩
end Jvm.Pilot.@@N@@
