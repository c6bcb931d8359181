import JvmDerived
import JvmDerived.Pilot.@@N@@Statement
import JvmDerived.Pilot.@@N@@Code
set_option linter.unusedVariables false
set_option linter.unusedSimpArgs false
namespace Jvm.Pilot.@@N@@
open Jvm Jvm.ClassFile Sem Op Lib Jvm.Free Jvm.Stand Jvm.LawKit Jvm.RoadKit Bundle Jvm.Pilot.@@N@@.Jvm.D
section OwnInt
open Jvm.FP Jvm.FP.Core
/-- a finite double whose value is the whole number i -/
def OwnW (a : UInt64) (i : Int) : Prop := DFin a ∧ zval b64 (val64 a) = i * (one64 : Int)
theorem own_onepos : (0 : Int) < (one64 : Int) := by have := one64_pos; omega
theorem OwnW.of {a : UInt64} {i : Int} (h : DInt i a) : OwnW a i := by
  refine ⟨?_, DInt_zval h⟩
  cases e : val64 a with
  | nan => have h : Whole i (val64 a) := h; rw [e] at h; exact h.elim
  | inf s => have h : Whole i (val64 a) := h; rw [e] at h; exact h.elim
  | fin s c q => exact ⟨s, c, q, e⟩
theorem OwnW.fin64 {a : UInt64} {i : Int} (h : OwnW a i) : Jvm.Free.Fl.Fin64 a := Jvm.Free.Fl.fin64_core.mpr h.1
theorem OwnW.nn {a : UInt64} {i : Int} (h : OwnW a i) : Jvm.Free.Fl.NoNaN64 a := h.fin64.noNaN
theorem own_w_i2d (v : Int32) : OwnW (FP.i2d v) v.toInt := OwnW.of (i2d_int v)
theorem own_w_l2d {v : Int64} (h : v.toInt.natAbs ≤ 2 ^ 53) : OwnW (FP.l2d v) v.toInt := OwnW.of (l2d_int h)
theorem own_w_zero : OwnW 0 0 := ⟨⟨_, _, _, val64_zero⟩, by rw [zval64_zero, Int.zero_mul]⟩
theorem own_w_small {i : Int} (h : i.natAbs ≤ 2 ^ 53) : ∃ v, OwnW v i := by
  have e : (Int64.ofInt i).toInt = i := Int64.toInt_ofInt_of_le (by omega) (by omega)
  refine ⟨FP.l2d (Int64.ofInt i), ?_⟩
  have := own_w_l2d (v := Int64.ofInt i) (by rw [e]; exact h)
  rw [e] at this
  exact this
theorem own_fin_of_between {a : UInt64} {lo hi : UInt64} (hn : val64 a ≠ .nan) (fl : DFin lo) (fh : DFin hi) (h1 : zval b64 (val64 lo) ≤ zval b64 (val64 a)) (h2 : zval b64 (val64 a) ≤ zval b64 (val64 hi)) : DFin a := by
  cases e : val64 a with
  | nan => exact absurd e hn
  | fin s c q => exact ⟨s, c, q, e⟩
  | inf s =>
    exfalso
    have l1 := fl.zval_lt
    have l2 := fh.zval_lt
    have e1 : ∀ d : Datum, zval b64 d = signed (sgn d) (zmag b64 d) := fun _ => rfl
    rw [e, e1, e1 (.inf s)] at h1
    rw [e, e1 (.inf s), e1 (val64 hi)] at h2
    have e2 : zmag b64 (.inf s) = b64.tails * 2 ^ (b64.exps - 2) := rfl
    have e3 : sgn (.inf s) = s := rfl
    rw [e2, e3] at h1 h2
    generalize b64.tails * 2 ^ (b64.exps - 2) = P at h1 h2 l1 l2
    cases s
    · rw [show signed false P = (P : Int) from rfl] at h2
      have : signed (sgn (val64 hi)) (zmag b64 (val64 hi)) ≤ (zmag b64 (val64 hi) : Int) := by
        cases sgn (val64 hi)
        · exact Int.le_refl _
        · show -((zmag b64 (val64 hi) : Nat) : Int) ≤ _
          omega
      omega
    · rw [show signed true P = -(P : Int) from rfl] at h1
      have : -(zmag b64 (val64 lo) : Int) ≤ signed (sgn (val64 lo)) (zmag b64 (val64 lo)) := by
        cases sgn (val64 lo)
        · show _ ≤ ((zmag b64 (val64 lo) : Nat) : Int)
          omega
        · exact Int.le_refl _
      omega
theorem own_sum_zval {a b : UInt64} {V : UInt64} (fa : DFin a) (fb : DFin b) (fV : DFin V) : (zval b64 (val64 a) + zval b64 (val64 b) ≤ zval b64 (val64 V) → zval b64 (val64 (Core.dadd a b)) ≤ zval b64 (val64 V)) ∧ (zval b64 (val64 V) ≤ zval b64 (val64 a) + zval b64 (val64 b) → zval b64 (val64 V) ≤ zval b64 (val64 (Core.dadd a b))) := by
  rw [val64_dadd]
  exact ⟨sum_le good_b64 fa fb (val64_fits a) (val64_fits b) (val64_fits V) fV.ne_nan, sum_ge good_b64 fa fb (val64_fits a) (val64_fits b) (val64_fits V) fV.ne_nan⟩
theorem own_dadd_nn {a b : UInt64} (fa : DFin a) (fb : DFin b) : val64 (Core.dadd a b) ≠ .nan := (notNaN_iff _).mp (Core.dadd_out fa.notNaN fb)
theorem OwnW.add {a b v : UInt64} {i j : Int} (ha : OwnW a i) (hb : OwnW b j) (hv : OwnW v (i + j)) : OwnW (FP.dadd a b) (i + j) := by
  have hs := own_sum_zval ha.1 hb.1 hv.1
  rw [ha.2, hb.2, hv.2, ← Int.add_mul] at hs
  have e := Int.le_antisymm (hs.1 (Int.le_refl _)) (hs.2 (Int.le_refl _))
  have e2 : zval b64 (val64 (Core.dadd a b)) = zval b64 (val64 v) := by rw [e, hv.2]
  exact ⟨own_fin_of_between (own_dadd_nn ha.1 hb.1) hv.1 hv.1 (by rw [e2]; exact Int.le_refl _) (by rw [e2]; exact Int.le_refl _), e⟩
theorem OwnW.neg {b : UInt64} {j : Int} (hb : OwnW b j) : OwnW (Core.dneg b) (-j) := by
  obtain ⟨⟨s, c, q, e⟩, h⟩ := hb
  refine ⟨⟨!s, c, q, by rw [Core.val64_dneg, e]; rfl⟩, ?_⟩
  rw [Core.val64_dneg, zval_negate, h, Int.neg_mul]
theorem OwnW.sub {a b v : UInt64} {i j : Int} (ha : OwnW a i) (hb : OwnW b j) (hv : OwnW v (i - j)) : OwnW (FP.dsub a b) (i - j) := by
  show OwnW (Core.dsub a b) (i - j)
  rw [dsub_eq]
  exact OwnW.add ha hb.neg hv
theorem OwnW.subS {a b : UInt64} {i j : Int} (ha : OwnW a i) (hb : OwnW b j) (h : (i - j).natAbs ≤ 2 ^ 53) : OwnW (FP.dsub a b) (i - j) := by
  obtain ⟨v, hv⟩ := own_w_small h
  exact ha.sub hb hv
theorem OwnW.addS {a b : UInt64} {i j : Int} (ha : OwnW a i) (hb : OwnW b j) (h : (i + j).natAbs ≤ 2 ^ 53) : OwnW (FP.dadd a b) (i + j) := by
  obtain ⟨v, hv⟩ := own_w_small h
  exact ha.add hb hv
theorem OwnW.eq0 {a b : UInt64} {i : Int} (ha : OwnW a i) (hb : OwnW b i) (o : CmpOp) : cmpValue (FP.dcmp a b) o = 0 := by
  have : FP.dcmp a b = some .eq := by
    show Core.dcmp a b = _
    rw [dcmp_zval ha.1.ne_nan hb.1.ne_nan, ha.2, hb.2, compare_self_int]
  rw [this]
  rfl
theorem OwnW.cast {a : UInt64} {i j : Int} (ha : OwnW a i) (h : i = j) : OwnW a j := h ▸ ha
theorem own_big_whole {a : UInt64} (fa : DFin a) (h : 2 ^ 52 * one64 ≤ zmag b64 (val64 a)) : ∃ i, OwnW a i := by
  obtain ⟨s, c, q, e⟩ := id fa
  have ff := val64_fits a
  rw [e] at ff h
  obtain ⟨f1, f2, -, -⟩ := ff
  have hq : b64.qmin = -1074 := by decide
  have hz : zmag b64 (.fin s c q) = c * 2 ^ (q - b64.qmin).toNat := rfl
  rw [hq] at f2
  rw [hz, hq] at h
  have hq0 : 0 ≤ q := by
    by_cases hh : 0 ≤ q
    · exact hh
    · exfalso
      have p1 : 2 ^ (q - -1074).toNat ≤ 2 ^ 1073 := Nat.pow_le_pow_right (by decide) (by omega)
      have p2 : c * 2 ^ (q - -1074).toNat < 2 ^ 53 * 2 ^ 1073 := Nat.lt_of_le_of_lt (Nat.mul_le_mul_left _ p1) (Nat.mul_lt_mul_of_pos_right f1 (Nat.two_pow_pos _))
      rw [show one64 = 2 ^ 1074 from rfl, ← Nat.pow_add] at h
      rw [← Nat.pow_add] at p2
      exact absurd p2 (Nat.not_lt.mpr h)
  refine ⟨signed s (c * 2 ^ q.toNat), fa, ?_⟩
  have e3 : zval b64 (val64 a) = signed s (zmag b64 (.fin s c q)) := by rw [e]; rfl
  rw [e3, hz, hq, show (q - -1074).toNat = q.toNat + 1074 by omega, Nat.pow_add, ← Nat.mul_assoc, signed_mul]
  rfl
/-- what the base may be: a whole number whose window of 2^40 on both sides is held by doubles, far from nought -/
def OwnBase (bs : UInt64) : Prop := ∃ (be : Int) (vl vh : UInt64), OwnW bs be ∧ OwnW vl (be - 2 ^ 40) ∧ OwnW vh (be + 2 ^ 40) ∧ (2 ^ 52 ≤ be - 2 ^ 40 ∨ be + 2 ^ 40 ≤ -2 ^ 52)
theorem own_p52m : ((2 ^ 52 * one64 : Nat) : Int) = (2 ^ 52 : Int) * (one64 : Int) := by
  rw [Int.natCast_mul]
  have h : ((2 ^ 52 : Nat) : Int) = 2 ^ 52 := by decide
  rw [h]
theorem own_round {a b vl vh : UInt64} {i j be : Int} (ha : OwnW a i) (hb : OwnW b j) (hl : OwnW vl (be - 2 ^ 40)) (hh : OwnW vh (be + 2 ^ 40)) (far : 2 ^ 52 ≤ be - 2 ^ 40 ∨ be + 2 ^ 40 ≤ -2 ^ 52) (h1 : be - 2 ^ 40 ≤ i + j) (h2 : i + j ≤ be + 2 ^ 40) :
    ∃ t, OwnW (FP.dadd a b) t ∧ be - 2 ^ 40 ≤ t ∧ t ≤ be + 2 ^ 40 := by
  have s1 := (own_sum_zval ha.1 hb.1 hl.1).2 (by rw [ha.2, hb.2, hl.2, ← Int.add_mul]; exact Int.mul_le_mul_of_nonneg_right h1 (Int.le_of_lt own_onepos))
  have s2 := (own_sum_zval ha.1 hb.1 hh.1).1 (by rw [ha.2, hb.2, hh.2, ← Int.add_mul]; exact Int.mul_le_mul_of_nonneg_right h2 (Int.le_of_lt own_onepos))
  have ff := own_fin_of_between (own_dadd_nn ha.1 hb.1) hl.1 hh.1 s1 s2
  rw [hl.2] at s1
  rw [hh.2] at s2
  have hbig : 2 ^ 52 * one64 ≤ zmag b64 (val64 (Core.dadd a b)) := by
    have e1 : zval b64 (val64 (Core.dadd a b)) = signed (sgn (val64 (Core.dadd a b))) (zmag b64 (val64 (Core.dadd a b))) := rfl
    have e2 : (signed (sgn (val64 (Core.dadd a b))) (zmag b64 (val64 (Core.dadd a b)))).natAbs = zmag b64 (val64 (Core.dadd a b)) := natAbs_signed _ _
    rw [← e1] at e2
    rw [← e2]
    have hp := own_onepos
    rcases far with f | f
    · have : (2 ^ 52 : Int) * (one64 : Int) ≤ zval b64 (val64 (Core.dadd a b)) := Int.le_trans (Int.mul_le_mul_of_nonneg_right f (Int.le_of_lt hp)) s1
      have q : ((2 ^ 52 * one64 : Nat) : Int) = (2 ^ 52 : Int) * (one64 : Int) := own_p52m
      omega
    · have : zval b64 (val64 (Core.dadd a b)) ≤ (-2 ^ 52 : Int) * (one64 : Int) := Int.le_trans s2 (Int.mul_le_mul_of_nonneg_right f (Int.le_of_lt hp))
      have q : ((2 ^ 52 * one64 : Nat) : Int) = (2 ^ 52 : Int) * (one64 : Int) := own_p52m
      rw [Int.neg_mul] at this
      omega
  obtain ⟨t, ht⟩ := own_big_whole ff hbig
  have ht2 := ht.2
  rw [ht2] at s1 s2
  exact ⟨t, ht, Int.le_of_mul_le_mul_right s1 own_onepos, Int.le_of_mul_le_mul_right s2 own_onepos⟩
/-- roundingError as the code has it -/
def own_re (a b s : UInt64) : UInt64 := FP.dadd (FP.dsub a (FP.dsub s (FP.dsub s a))) (FP.dsub b (FP.dsub s a))
def OwnReNN (a b s : UInt64) : Prop := Jvm.Free.Fl.NoNaN64 (FP.dsub s a) ∧ Jvm.Free.Fl.NoNaN64 (FP.dsub s (FP.dsub s a)) ∧ Jvm.Free.Fl.NoNaN64 (FP.dsub a (FP.dsub s (FP.dsub s a))) ∧ Jvm.Free.Fl.NoNaN64 (FP.dsub b (FP.dsub s a)) ∧ Jvm.Free.Fl.NoNaN64 (own_re a b s)
theorem own_re_exact {a b s : UInt64} {i j t : Int} (ha : OwnW a i) (hb : OwnW b j) (hs : OwnW s t) (h1 : (t - i).natAbs ≤ 2 ^ 52) (h2 : j.natAbs ≤ 2 ^ 52) : OwnW (own_re a b s) (i + j - t) ∧ OwnReNN a b s := by
  have d1 := hs.subS ha (show (t - i).natAbs ≤ 2 ^ 53 by omega)
  have d2 := (hs.sub d1 (ha.cast (show i = t - (t - i) by omega)))
  have d3 := ha.subS d2 (show (i - (t - (t - i))).natAbs ≤ 2 ^ 53 by omega)
  have d4 := hb.subS d1 (show (j - (t - i)).natAbs ≤ 2 ^ 53 by omega)
  have d5 := d3.addS d4 (by omega)
  exact ⟨d5.cast (by omega), d1.nn, d2.nn, d3.nn, d4.nn, d5.nn⟩
/-- setAfter's reckoning from a base with no remainder -/
theorem own_after {bs x : UInt64} {be de : Int} {vl vh : UInt64} (hb : OwnW bs be) (hl : OwnW vl (be - 2 ^ 40)) (hh : OwnW vh (be + 2 ^ 40)) (far : 2 ^ 52 ≤ be - 2 ^ 40 ∨ be + 2 ^ 40 ≤ -2 ^ 52) (hx : OwnW x de) (hd : de.natAbs ≤ 2 ^ 39) :
    ∃ t, OwnReNN bs x (FP.dadd bs x) ∧ Jvm.Free.Fl.NoNaN64 (FP.dadd bs x) ∧ Jvm.Free.Fl.NoNaN64 (FP.dadd (own_re bs x (FP.dadd bs x)) 0) ∧ Jvm.Free.Fl.NoNaN64 (FP.dadd (FP.dadd bs x) (FP.dadd (own_re bs x (FP.dadd bs x)) 0)) ∧
      OwnReNN (FP.dadd bs x) (FP.dadd (own_re bs x (FP.dadd bs x)) 0) (FP.dadd (FP.dadd bs x) (FP.dadd (own_re bs x (FP.dadd bs x)) 0)) ∧
      OwnW (FP.dadd (FP.dadd bs x) (FP.dadd (own_re bs x (FP.dadd bs x)) 0)) t ∧ (t - be).natAbs ≤ 2 ^ 40 ∧
      OwnW (own_re (FP.dadd bs x) (FP.dadd (own_re bs x (FP.dadd bs x)) 0) (FP.dadd (FP.dadd bs x) (FP.dadd (own_re bs x (FP.dadd bs x)) 0))) (be + de - t) := by
  obtain ⟨sg, s1, s2, s3⟩ := own_round hb hx hl hh far (by omega) (by omega)
  obtain ⟨r1, r2⟩ := own_re_exact hb hx s1 (by omega) (by omega)
  have r3 := r1.addS own_w_zero (by omega)
  have r4 := r3.cast (show be + de - sg + 0 = be + de - sg by omega)
  obtain ⟨t, t1, t2, t3⟩ := own_round s1 r4 hl hh far (by omega) (by omega)
  obtain ⟨u1, u2⟩ := own_re_exact s1 r4 t1 (by omega) (by omega)
  exact ⟨t, r2, s1.nn, r4.nn, t1.nn, u2, t1, by omega, u1.cast (by omega)⟩
theorem own_base1 : OwnBase 4845873199050653696 := by
  refine ⟨2 ^ 53, 4845872099539025920, 4845873748806467584, ⟨?_, by decide +kernel⟩, ⟨?_, by decide +kernel⟩, ⟨?_, by decide +kernel⟩, Or.inl (by decide)⟩ <;> exact (fin_bits _).mpr (by decide)
theorem own_base2 : OwnBase 14100770433297022976 := by
  refine ⟨-2 ^ 60, 14100770437591990272, 14100770424707088384, ⟨?_, by decide +kernel⟩, ⟨?_, by decide +kernel⟩, ⟨?_, by decide +kernel⟩, Or.inr (by decide)⟩ <;> exact (fin_bits _).mpr (by decide)
theorem own_base3 : OwnBase 4967470388989657088 := by
  refine ⟨2 ^ 80, 4967470388989648896, 4967470388989661184, ⟨?_, by decide +kernel⟩, ⟨?_, by decide +kernel⟩, ⟨?_, by decide +kernel⟩, Or.inl (by decide)⟩ <;> exact (fin_bits _).mpr (by decide)
end OwnInt
section OwnArr
theorem own_natne {a b : Nat} (q : a ≠ b) : a ≠ b := q
theorem own_natlt {a b : Nat} (q : a < b) : a < b := q
theorem own_natle {a b : Nat} (q : a ≤ b) : a ≤ b := q
variable {Z : State} {h h' h0 : Heap} {a b : Addr} {ty : FieldType} {n : Nat} {f : Nat → Value} {c : Cell}
/-- an array of ty with n places, the i-th of which holds f i -/
def OwnA (Z : State) (h : Heap) (a : Addr) (ty : FieldType) (n : Nat) (f : Nat → Value) : Prop := ∃ c : Cell, Arr Z h a c ty ∧ c.slots.size = n ∧ ∀ i, i < n → c.slots[i]? = some (f i)
theorem own_in {j : Int32} (hj : ¬ j < 0 ∧ j.toNatClampNeg < n) (S : c.slots.size = n) : ¬ (j < 0 ∨ c.slots.size ≤ j.toNatClampNeg) := fun q => q.elim hj.1 fun q => by rw [S] at q; exact absurd hj.2 (Nat.not_lt.mpr q)
theorem OwnA.lt (F : OwnA Z h a ty n f) : a < h.size := by obtain ⟨c, A, -⟩ := F; exact A.lt
theorem OwnA.ext (F : OwnA Z h a ty n f) (E : Ext h h') : OwnA Z h' a ty n f := by obtain ⟨c, A, r⟩ := F; exact ⟨c, A.ext E, r⟩
theorem OwnA.other {sl : Nat} {v : Value} (F : OwnA Z h a ty n f) (W : Wr h h' b sl v) (q : a ≠ b) : OwnA Z h' a ty n f := by obtain ⟨c, A, r⟩ := F; exact ⟨c, A.other W q, r⟩
theorem OwnA.keep {ws : List Addr} (F : OwnA Z h a ty n f) (K : Keep h h' ws) (q : a ∉ ws) : OwnA Z h' a ty n f := by obtain ⟨c, A, r⟩ := F; exact ⟨c, ⟨K.2.1 a c A.1 q, A.2⟩, r⟩
theorem OwnA.new {k : ClassId} {z : Int32} (A : Arr Z h a (newA k ty z) ty) (e : z.toNatClampNeg = n) : OwnA Z h a ty n (fun _ => defaultValue ty) := by
  refine ⟨_, A, (sz_new _ _ _).trans e, fun i hi => ?_⟩
  show (Array.replicate z.toNatClampNeg (defaultValue ty))[i]? = _
  rw [Array.getElem?_replicate, e, if_pos hi]
theorem OwnA.set {j : Nat} {v : Value} (F : OwnA Z h a ty n f) (W : Wr h h' a j v) : OwnA Z h' a ty n (fun i => if i = j then v else f i) := by
  obtain ⟨c, A, S, V⟩ := F
  refine ⟨_, A.same W, by show (c.slots.setIfInBounds j v).size = n; rw [Array.size_setIfInBounds, S], fun i hi => ?_⟩
  show (c.slots.setIfInBounds j v)[i]? = _
  by_cases q : i = j
  · subst q
    rw [Array.getElem?_setIfInBounds_self_of_lt (by rw [S]; exact hi)]
    show some v = some (if i = i then v else f i)
    rw [if_pos rfl]
  · rw [Array.getElem?_setIfInBounds_ne (Ne.symm q)]
    show _ = some (if i = j then v else f i)
    rw [if_neg q]
    exact V i hi
theorem OwnA.congr {g : Nat → Value} (F : OwnA Z h a ty n f) (q : ∀ i, i < n → f i = g i) : OwnA Z h a ty n g := by
  obtain ⟨c, A, S, V⟩ := F
  exact ⟨c, A, S, fun i hi => by rw [V i hi, q i hi]⟩
theorem own_ne {C : String} {k : Nat} {a0 : Array Value} (E : Exa Z h a C) (w : (Cond.instantiable C k).before a0 Z = true) (F : OwnA Z h b ty n f) : a ≠ b := by obtain ⟨c, A, -⟩ := F; exact ne_arr E w A
theorem own_nin1 {x y : Addr} (q : x ≠ y) : x ∉ [y] := fun w => q (List.mem_singleton.mp w)
theorem own_nin2 {x y z : Addr} (q : x ≠ y) (r : x ≠ z) : x ∉ [y, z] := fun w => by
  rcases List.mem_cons.mp w with w | w
  · exact q w
  · exact r (List.mem_singleton.mp w)
end OwnArr
section OwnInst
variable {Z : State} {h h' h'' : Heap} {a a' t t' r r' b : Addr} {n n' : Nat} {f g f' g' : Nat → UInt64}
def own_upd (f : Nat → UInt64) (i : Int32) (x : UInt64) : Nat → UInt64 := fun k => if k = i.toNatClampNeg then x else f k
theorem own_upd_same (f : Nat → UInt64) (i : Int32) (x : UInt64) : own_upd f i x i.toNatClampNeg = x := if_pos rfl
theorem own_upd_ne (f : Nat → UInt64) {i j : Int32} (x : UInt64) (q : j.toNatClampNeg ≠ i.toNatClampNeg) : own_upd f i x j.toNatClampNeg = f j.toNatClampNeg := if_neg q
/-- an Instants: its two arrays and what they hold -/
def OwnI (Z : State) (h : Heap) (a t r : Addr) (n : Nat) (f g : Nat → UInt64) : Prop :=
  Exa Z h a "com/example/coverline/coverline/Instants" ∧ Fld Z h a "com/example/coverline/coverline/Instants" "times" "[D" (.ref t) ∧ Fld Z h a "com/example/coverline/coverline/Instants" "remainders" "[D" (.ref r) ∧
    OwnA Z h t .double n (fun i => .double (f i)) ∧ OwnA Z h r .double n (fun i => .double (g i)) ∧ t ≠ r
theorem OwnI.lt (I : OwnI Z h a t r n f g) : a < h.size ∧ t < h.size ∧ r < h.size := ⟨I.1.lt, I.2.2.2.1.lt, I.2.2.2.2.1.lt⟩
theorem OwnI.ext (I : OwnI Z h a t r n f g) (E : Ext h h') : OwnI Z h' a t r n f g := by
  obtain ⟨i1, i2, i3, i4, i5, i6⟩ := I
  exact ⟨i1.ext E, i2.ext E, i3.ext E, i4.ext E, i5.ext E, i6⟩
theorem OwnI.keep {ws : List Addr} (I : OwnI Z h a t r n f g) (K : Keep h h' ws) (q1 : a ∉ ws) (q2 : t ∉ ws) (q3 : r ∉ ws) : OwnI Z h' a t r n f g := by
  obtain ⟨i1, i2, i3, i4, i5, i6⟩ := I
  exact ⟨i1.keep K, i2.keep K q1, i3.keep K q1, i4.keep K q2, i5.keep K q3, i6⟩
/-- over the making of another -/
theorem OwnI.over (I : OwnI Z h a t r n f g) (E : Ext h h') (gb : b = h.size) (K : Keep h' h'' [b]) : OwnI Z h'' a t r n f g := by
  obtain ⟨l1, l2, l3⟩ := I.lt
  exact (I.ext E).keep K (own_nin1 (Nat.ne_of_lt (Nat.lt_of_lt_of_le l1 (Nat.le_of_eq gb.symm)))) (own_nin1 (Nat.ne_of_lt (Nat.lt_of_lt_of_le l2 (Nat.le_of_eq gb.symm)))) (own_nin1 (Nat.ne_of_lt (Nat.lt_of_lt_of_le l3 (Nat.le_of_eq gb.symm))))
theorem OwnI.sep {k : Nat} (I : OwnI Z h a t r n f g) (hle : h.size ≤ k) (h1 : k ≤ t') (h2 : k ≤ r') : t ≠ t' ∧ t ≠ r' ∧ r ≠ t' ∧ r ≠ r' := by
  obtain ⟨l1, l2, l3⟩ := I.lt
  exact ⟨Nat.ne_of_lt (Nat.lt_of_lt_of_le l2 (Nat.le_trans hle h1)), Nat.ne_of_lt (Nat.lt_of_lt_of_le l2 (Nat.le_trans hle h2)), Nat.ne_of_lt (Nat.lt_of_lt_of_le l3 (Nat.le_trans hle h1)), Nat.ne_of_lt (Nat.lt_of_lt_of_le l3 (Nat.le_trans hle h2))⟩
/-- beside another's being written -/
theorem OwnI.beside {k : Nat} {a0 : Array Value} (w : (Cond.instantiable "com/example/coverline/coverline/Instants" k).before a0 Z = true) (I : OwnI Z h a t r n f g) (J : OwnI Z h a' t' r' n' f' g') (K : Keep h h' [t', r']) (s : t ≠ t' ∧ t ≠ r' ∧ r ≠ t' ∧ r ≠ r') : OwnI Z h' a t r n f g :=
  I.keep K (own_nin2 (own_ne I.1 w J.2.2.2.1) (own_ne I.1 w J.2.2.2.2.1)) (own_nin2 s.1 s.2.1) (own_nin2 s.2.2.1 s.2.2.2)
theorem own_sepsym (s : t ≠ t' ∧ t ≠ r' ∧ r ≠ t' ∧ r ≠ r') : t' ≠ t ∧ t' ≠ r ∧ r' ≠ t ∧ r' ≠ r := ⟨s.1.symm, s.2.2.1.symm, s.2.1.symm, s.2.2.2.symm⟩
theorem OwnA.setD {i : Int32} {x : UInt64} (F : OwnA Z h a .double n (fun k => .double (f k))) (W : Wr h h' a i.toNatClampNeg (.double x)) : OwnA Z h' a .double n (fun k => .double (own_upd f i x k)) := by
  refine (F.set W).congr fun k hk => ?_
  show (if k = i.toNatClampNeg then Value.double x else .double (f k)) = .double (if k = i.toNatClampNeg then x else f k)
  split <;> rfl
end OwnInst
def Q1 (Z : State) (a1 : Addr) (n : Nat) (h0 : Heap) (n0 : Nat) (v : Option Value) (h : Heap) (L : List Loc) : Prop := v = none ∧ Fr n0 L ∧ ∃ t r, OwnI Z h a1 t r n (fun _ => 0) (fun _ => 0) ∧ Keep h0 h [a1] ∧ h0.size ≤ t ∧ h0.size ≤ r
theorem pn0 : plainName "com/example/coverline/coverline/Instants" = true := by first | (simp [plainName, overriddenIn]; done) | decide +kernel
theorem ef1 (m : MethodId) (x0 : Addr) (x1 : Int32) : entryFrame m #[(.ref x0), (.int x1)] 2 = mkF m 0 #[.val (.ref x0), .val (.int x1)] [] := by first | (simp [entryFrame, mkF, argsToLocals, Value.category]; done) | rfl
theorem d1_0 : decode prog_33_method_1_code 0 = .ok (.aload_n 0, 1) := by decide +kernel
theorem d1_1 : decode prog_33_method_1_code 1 = .ok (.invokespecial 1, 3) := by decide +kernel
theorem d1_4 : decode prog_33_method_1_code 4 = .ok (.aload_n 0, 1) := by decide +kernel
theorem d1_5 : decode prog_33_method_1_code 5 = .ok (.iload_n 1, 1) := by decide +kernel
theorem d1_6 : decode prog_33_method_1_code 6 = .ok (.newarray .double, 2) := by decide +kernel
theorem d1_8 : decode prog_33_method_1_code 8 = .ok (.putfield 7, 3) := by decide +kernel
theorem d1_11 : decode prog_33_method_1_code 11 = .ok (.aload_n 0, 1) := by decide +kernel
theorem d1_12 : decode prog_33_method_1_code 12 = .ok (.iload_n 1, 1) := by decide +kernel
theorem d1_13 : decode prog_33_method_1_code 13 = .ok (.newarray .double, 2) := by decide +kernel
theorem d1_15 : decode prog_33_method_1_code 15 = .ok (.putfield 13, 3) := by decide +kernel
theorem d1_18 : decode prog_33_method_1_code 18 = .ok (.return_, 1) := by decide +kernel
set_option maxRecDepth 65536 in
set_option maxHeartbeats 40000000 in
theorem rm1 (l : Launch) (Z : State) (a0 : Array Value) (hw : ∀ d ∈ tables_1, d.before a0 Z = true) (ws : List Jvm.Cond) (a1 : Addr) (z : Int32) (n : Nat) (h0 : Heap) (n0 : Nat) (Z0 : n0 ≤ h0.size) (F1 : Fld Z h0 a1 "com/example/coverline/coverline/Instants" "times" "[D" .null) (F2 : Fld Z h0 a1 "com/example/coverline/coverline/Instants" "remainders" "[D" .null) (E1 : Exa Z h0 a1 "com/example/coverline/coverline/Instants") (g1 : n0 ≤ a1) (hz : ¬ z < 0) (hzn : z.toNatClampNeg = n) (hz2 : z.toNatClampNeg ≤ 2) :
    MetFree l (⟨"com/example/coverline/coverline/Instants", "<init>", "(I)V"⟩ : MethodName) (head1 (Jvm.Cond.code (⟨"com/example/coverline/coverline/Instants", "<init>", "(I)V"⟩ : MethodName) prog_33_method_1_code 2 none :: ws) ({ frames := 1, cells := 2, slots := 4, locals := 12 } : Room)) (fun a U => a = #[(.ref a1), (.int z)] ∧ Z.Warmed39 U.vm ∧ U.heap = h0) (fun _ _ _ _ _ => True) (fun _ U o U' => ∃ v L, o = .returned v ∧ Q1 Z a1 n h0 n0 v U'.heap L ∧ FrameEnd U o U' L ({ frames := 1, cells := 2, slots := 4, locals := 12 } : Room).cells ({ frames := 1, cells := 2, slots := 4, locals := 12 } : Room).slots) := by
  refine MetFree.of_bodySF (plainFor_of_name pn0) hisR ?_
  intro p e s m args below meth c s₁ Bd hml0 hP hK
  obtain ⟨rfl, hZ, hh⟩ := hP
  have hx := Bd.exec
  have hby := Bd.bytes
  have hml : c.maxLocals = 2 := hml0
  have hown : s.vm.findClass "com/example/coverline/coverline/Instants" = some m.cls := findClass_of_methodNamed Bd.named
  have hnm := (name_of_methodNamed Bd.named Bd.method).1
  have X0 : Stand p l e ({ frames := 1, cells := 2, slots := 4, locals := 12 } : Room) s m #[(.ref a1), (.int z)] below meth c s₁ [] 0 0 := Stand.of_body Bd
  have e0 : s₁.heap = h0 := by rw [← hh, Bd.state]; rfl
  have N0 := Fr.nil n0
  have pre0 : ∀ t, Steps p.tables e below (s₁.setTop (mkF m 0 #[.val (.ref a1), .val (.int z)] [])) t → Steps p.tables e below (s₁.setTop (entryFrame m #[(.ref a1), (.int z)] 2)) t := fun t k => castTop (ef1 m a1 z) k
  have C1 : ∀ t, Steps p.tables e below (s₁.setTop (mkF m 1 #[.val (.ref a1), .val (.int z)] [(.ref a1)])) t → Steps p.tables e below (s₁.setTop (entryFrame m #[(.ref a1), (.int z)] 2)) t := by
    intro t k
    refine pre0 t ?_
    show Steps p.tables e below (s₁.setTop (mkF m 0 #[.val (.ref a1), .val (.int z)] [])) _
    refine XS.aloadN X0.here hx rfl (hb hby d1_0) rfl rfl ?_
    exact k
  obtain ⟨T2, X2, e2, st2⟩ := initO X0 hx hZ hown (hw _ (List.mem_of_getElem? (i := 6) rfl)) (hw _ (List.mem_of_getElem? (i := 7) rfl)) (hw _ (List.mem_of_getElem? (i := 8) rfl)) e0 (g := (mkF m 1 #[.val (.ref a1), .val (.int z)] [(.ref a1)])) rfl (by rw [hml]; rfl) rfl (hb hby d1_1) (by decide) (W := 0) (by show 2 * 0 + _ ≤ _; exact Nat.le_of_eq rfl) (by decide)
  have C2 : ∀ t, Steps p.tables e below (T2.setTop (mkF m 4 #[.val (.ref a1), .val (.int z)] [])) t → Steps p.tables e below (s₁.setTop (entryFrame m #[(.ref a1), (.int z)] 2)) t := fun t k => C1 t (st2 t k)
  have C3 : ∀ t, Steps p.tables e below (T2.setTop (mkF m 6 #[.val (.ref a1), .val (.int z)] [(.int z), (.ref a1)])) t → Steps p.tables e below (s₁.setTop (entryFrame m #[(.ref a1), (.int z)] 2)) t := by
    intro t k
    refine C2 t ?_
    show Steps p.tables e below (T2.setTop (mkF m 4 #[.val (.ref a1), .val (.int z)] [])) _
    refine XS.aloadN X2.here hx rfl (hb hby d1_4) rfl rfl ?_
    show Steps p.tables e below (T2.setTop (mkF m 5 #[.val (.ref a1), .val (.int z)] [(.ref a1)])) _
    refine XS.iloadN X2.here hx rfl (hb hby d1_5) rfl ?_
    exact k
  obtain ⟨T4, h4, k4, X4, e4, E4, A4, st4⟩ := newP X2 hx hZ (hw _ (List.mem_of_getElem? (i := 9) rfl)) e2 (g := (mkF m 6 #[.val (.ref a1), .val (.int z)] [(.int z), (.ref a1)])) rfl (hb hby d1_6) rfl hz (cap := 2) hz2 (by decide) (by decide) (by decide)
  obtain ⟨b4, g4⟩ : ∃ z, z = h0.size := ⟨_, rfl⟩
  rw [← g4] at A4 st4
  have C4 : ∀ t, Steps p.tables e below (T4.setTop (mkF m 8 #[.val (.ref a1), .val (.int z)] [(.ref b4), (.ref a1)])) t → Steps p.tables e below (s₁.setTop (entryFrame m #[(.ref a1), (.int z)] 2)) t := fun t k => C3 t (st4 t k)
  have t_ne : b4 ≠ a1 := own_natne (by have := own_natlt F1.lt; omega)
  have F1x := F1.ext E4
  have F2x := F2.ext E4
  have E1x := E1.ext E4
  have At : OwnA Z h4 b4 .double n (fun _ => .double 0) := OwnA.new A4 hzn
  obtain ⟨T5, h5, X5, e5, W5, st5⟩ := putF X4 hx hZ hown (host := "") (Or.inl (hw _ (List.mem_of_getElem? (i := 10) rfl))) Via.refl e4 F1x E1x (Or.inr ⟨(hw _ (List.mem_of_getElem? (i := 11) rfl)), rfl, hnm⟩) (hw _ (List.mem_of_getElem? (i := 1) rfl)) (ty := (.array .double)) (by decide) rfl rfl (g := (mkF m 8 #[.val (.ref a1), .val (.int z)] [(.ref b4), (.ref a1)])) rfl rfl (hb hby d1_8)
  have N5 := Fr.snoc X5 N0 g1
  have C5 : ∀ t, Steps p.tables e below (T5.setTop (mkF m 11 #[.val (.ref a1), .val (.int z)] [])) t → Steps p.tables e below (s₁.setTop (entryFrame m #[(.ref a1), (.int z)] 2)) t := fun t k => C4 t (st5 t k)
  have At1 := At.other W5 t_ne
  have F2y := F2x.other W5 (Or.inr (slot_ne (Or.inr (hw _ (List.mem_of_getElem? (i := 13) rfl))) (Or.inr (hw _ (List.mem_of_getElem? (i := 11) rfl))) (by decide) (t := (.array .double)) (t' := (.array .double)) (by decide) (by decide)))
  have F1y := F1x.same W5
  have E1y := E1x.wr W5
  have C6 : ∀ t, Steps p.tables e below (T5.setTop (mkF m 13 #[.val (.ref a1), .val (.int z)] [(.int z), (.ref a1)])) t → Steps p.tables e below (s₁.setTop (entryFrame m #[(.ref a1), (.int z)] 2)) t := by
    intro t k
    refine C5 t ?_
    show Steps p.tables e below (T5.setTop (mkF m 11 #[.val (.ref a1), .val (.int z)] [])) _
    refine XS.aloadN X5.here hx rfl (hb hby d1_11) rfl rfl ?_
    show Steps p.tables e below (T5.setTop (mkF m 12 #[.val (.ref a1), .val (.int z)] [(.ref a1)])) _
    refine XS.iloadN X5.here hx rfl (hb hby d1_12) rfl ?_
    exact k
  obtain ⟨T7, h7, k7, X7, e7, E7, A7, st7⟩ := newP X5 hx hZ (hw _ (List.mem_of_getElem? (i := 9) rfl)) e5 (g := (mkF m 13 #[.val (.ref a1), .val (.int z)] [(.int z), (.ref a1)])) rfl (hb hby d1_13) rfl hz (cap := 2) hz2 (by decide) (by decide) (by decide)
  obtain ⟨b7, g7⟩ : ∃ z, z = h5.size := ⟨_, rfl⟩
  rw [← g7] at A7 st7
  have C7 : ∀ t, Steps p.tables e below (T7.setTop (mkF m 15 #[.val (.ref a1), .val (.int z)] [(.ref b7), (.ref a1)])) t → Steps p.tables e below (s₁.setTop (entryFrame m #[(.ref a1), (.int z)] 2)) t := fun t k => C6 t (st7 t k)
  have sz1 : h5.size = h4.size := Wr.size W5
  have l1 := own_natlt F1.lt
  have l2 := own_natlt At.lt
  have l3 := E4.1
  have r_ne : b7 ≠ a1 := own_natne (by omega)
  have t_r : b4 ≠ b7 := own_natne (by omega)
  have Ar : OwnA Z h7 b7 .double n (fun _ => .double 0) := OwnA.new A7 hzn
  have At2 := At1.ext E7
  have F1z := F1y.ext E7
  have F2z := F2y.ext E7
  have E1z := E1y.ext E7
  obtain ⟨T8, h8, X8, e8, W8, st8⟩ := putF X7 hx hZ hown (host := "") (Or.inl (hw _ (List.mem_of_getElem? (i := 12) rfl))) Via.refl e7 F2z E1z (Or.inr ⟨(hw _ (List.mem_of_getElem? (i := 13) rfl)), rfl, hnm⟩) (hw _ (List.mem_of_getElem? (i := 1) rfl)) (ty := (.array .double)) (by decide) rfl rfl (g := (mkF m 15 #[.val (.ref a1), .val (.int z)] [(.ref b7), (.ref a1)])) rfl rfl (hb hby d1_15)
  have N8 := Fr.snoc X8 N5 g1
  have C8 : ∀ t, Steps p.tables e below (T8.setTop (mkF m 18 #[.val (.ref a1), .val (.int z)] [])) t → Steps p.tables e below (s₁.setTop (entryFrame m #[(.ref a1), (.int z)] 2)) t := fun t k => C7 t (st8 t k)
  have F1w := F1z.other W8 (Or.inr (slot_ne (Or.inr (hw _ (List.mem_of_getElem? (i := 11) rfl))) (Or.inr (hw _ (List.mem_of_getElem? (i := 13) rfl))) (by decide) (t := (.array .double)) (t' := (.array .double)) (by decide) (by decide)))
  have K : Keep h0 h8 [a1] := ((((Keep.refl h0 [a1]).ext E4).wr W5 (Or.inl (List.mem_of_getElem? (i := 0) rfl))).ext E7).wr W8 (Or.inl (List.mem_of_getElem? (i := 0) rfl))
  have I : OwnI Z h8 a1 b4 b7 n (fun _ => 0) (fun _ => 0) := ⟨E1z.wr W8, F1w, F2z.same W8, At2.other W8 t_ne, Ar.other W8 r_ne, t_r⟩
  obtain ⟨fs, hr, hrun, hended, hW, hsame⟩ := X8.leave (v := none) (fun _ => rfl)
  refine ⟨_, _, C8 _ ?_, hrun, hended, _, _, rfl, ?_, ⟨_, rfl⟩, hW, hsame.mono (by decide) (by decide)⟩
  · show Steps p.tables e below (T8.setTop (mkF m 18 #[.val (.ref a1), .val (.int z)] [])) _
    exact X8.returnOut hx Bd.returns (hb hby d1_18) hr
  · show Q1 Z a1 n h0 n0 _ T8.heap _
    rw [e8]
    exact ⟨rfl, N8, b4, b7, I, K, by omega, by omega⟩
def Q3 (Z : State) (a1 ti ri : Addr) (n : Nat) (f g : Nat → UInt64) (h0 : Heap) (n0 : Nat) (v : Option Value) (h : Heap) (L : List Loc) : Prop := v = none ∧ Fr n0 L ∧ OwnI Z h a1 ti ri n f g ∧ Keep h0 h [ti, ri]
theorem ef3 (m : MethodId) (x0 : Addr) (x1 : Int32) (x2 : UInt64) : entryFrame m #[(.ref x0), (.int x1), (.double x2)] 4 = mkF m 0 #[.val (.ref x0), .val (.int x1), .val (.double x2), .second] [] := by first | (simp [entryFrame, mkF, argsToLocals, Value.category]; done) | rfl
theorem d3_0 : decode prog_33_method_4_code 0 = .ok (.aload_n 0, 1) := by decide +kernel
theorem d3_1 : decode prog_33_method_4_code 1 = .ok (.getfield 7, 3) := by decide +kernel
theorem d3_4 : decode prog_33_method_4_code 4 = .ok (.iload_n 1, 1) := by decide +kernel
theorem d3_5 : decode prog_33_method_4_code 5 = .ok (.dload_n 2, 1) := by decide +kernel
theorem d3_6 : decode prog_33_method_4_code 6 = .ok (.dastore, 1) := by decide +kernel
theorem d3_7 : decode prog_33_method_4_code 7 = .ok (.aload_n 0, 1) := by decide +kernel
theorem d3_8 : decode prog_33_method_4_code 8 = .ok (.getfield 13, 3) := by decide +kernel
theorem d3_11 : decode prog_33_method_4_code 11 = .ok (.iload_n 1, 1) := by decide +kernel
theorem d3_12 : decode prog_33_method_4_code 12 = .ok (.dconst 0, 1) := by decide +kernel
theorem d3_13 : decode prog_33_method_4_code 13 = .ok (.dastore, 1) := by decide +kernel
theorem d3_14 : decode prog_33_method_4_code 14 = .ok (.return_, 1) := by decide +kernel
set_option maxRecDepth 65536 in
set_option maxHeartbeats 40000000 in
theorem rm3 (l : Launch) (Z : State) (a0 : Array Value) (hw : ∀ d ∈ tables_1, d.before a0 Z = true) (ws : List Jvm.Cond) (a1 : Addr) (i : Int32) (x : UInt64) (ti ri : Addr) (n : Nat) (f g : Nat → UInt64) (h0 : Heap) (n0 : Nat) (Z0 : n0 ≤ h0.size) (I : OwnI Z h0 a1 ti ri n f g) (hi : ¬ i < 0 ∧ i.toNatClampNeg < n) (gt : n0 ≤ ti) (gr : n0 ≤ ri) :
    MetFree l (⟨"com/example/coverline/coverline/Instants", "set", "(ID)V"⟩ : MethodName) (head1 (Jvm.Cond.code (⟨"com/example/coverline/coverline/Instants", "set", "(ID)V"⟩ : MethodName) prog_33_method_4_code 4 none :: ws) ({ frames := 0, cells := 0, slots := 0, locals := 0 } : Room)) (fun a U => a = #[(.ref a1), (.int i), (.double x)] ∧ Z.Warmed39 U.vm ∧ U.heap = h0) (fun _ _ _ _ _ => True) (fun _ U o U' => ∃ v L, o = .returned v ∧ Q3 Z a1 ti ri n (own_upd f i x) (own_upd g i 0) h0 n0 v U'.heap L ∧ FrameEnd U o U' L ({ frames := 0, cells := 0, slots := 0, locals := 0 } : Room).cells ({ frames := 0, cells := 0, slots := 0, locals := 0 } : Room).slots) := by
  refine MetFree.of_bodySF (plainFor_of_name pn0) hisR ?_
  intro p e s m args below meth c s₁ Bd hml0 hP hK
  obtain ⟨rfl, hZ, hh⟩ := hP
  have hx := Bd.exec
  have hby := Bd.bytes
  have hml : c.maxLocals = 4 := hml0
  have hown : s.vm.findClass "com/example/coverline/coverline/Instants" = some m.cls := findClass_of_methodNamed Bd.named
  have hnm := (name_of_methodNamed Bd.named Bd.method).1
  have X0 : Stand p l e ({ frames := 0, cells := 0, slots := 0, locals := 0 } : Room) s m #[(.ref a1), (.int i), (.double x)] below meth c s₁ [] 0 0 := Stand.of_body Bd
  have e0 : s₁.heap = h0 := by rw [← hh, Bd.state]; rfl
  have N0 := Fr.nil n0
  have pre0 : ∀ t, Steps p.tables e below (s₁.setTop (mkF m 0 #[.val (.ref a1), .val (.int i), .val (.double x), .second] [])) t → Steps p.tables e below (s₁.setTop (entryFrame m #[(.ref a1), (.int i), (.double x)] 4)) t := fun t k => castTop (ef3 m a1 i x) k
  obtain ⟨E1, F1, F2, At, Ar, tr⟩ := I
  have at1 := own_ne E1 (hw _ (List.mem_of_getElem? (i := 1) rfl)) At
  have at2 := own_ne E1 (hw _ (List.mem_of_getElem? (i := 1) rfl)) Ar
  have C9 : ∀ t, Steps p.tables e below (s₁.setTop (mkF m 1 #[.val (.ref a1), .val (.int i), .val (.double x), .second] [(.ref a1)])) t → Steps p.tables e below (s₁.setTop (entryFrame m #[(.ref a1), (.int i), (.double x)] 4)) t := by
    intro t k
    refine pre0 t ?_
    show Steps p.tables e below (s₁.setTop (mkF m 0 #[.val (.ref a1), .val (.int i), .val (.double x), .second] [])) _
    refine XS.aloadN X0.here hx rfl (hb hby d3_0) rfl rfl ?_
    exact k
  obtain ⟨T10, X10, e10, st10⟩ := getF X0 hx hZ hown (host := "") (Or.inl (hw _ (List.mem_of_getElem? (i := 10) rfl))) Via.refl e0 F1 (g := (mkF m 1 #[.val (.ref a1), .val (.int i), .val (.double x), .second] [(.ref a1)])) rfl rfl (hb hby d3_1)
  have C10 : ∀ t, Steps p.tables e below (T10.setTop (mkF m 4 #[.val (.ref a1), .val (.int i), .val (.double x), .second] [(.ref ti)])) t → Steps p.tables e below (s₁.setTop (entryFrame m #[(.ref a1), (.int i), (.double x)] 4)) t := fun t k => C9 t (st10 t k)
  have C11 : ∀ t, Steps p.tables e below (T10.setTop (mkF m 6 #[.val (.ref a1), .val (.int i), .val (.double x), .second] [(.double x), (.int i), (.ref ti)])) t → Steps p.tables e below (s₁.setTop (entryFrame m #[(.ref a1), (.int i), (.double x)] 4)) t := by
    intro t k
    refine C10 t ?_
    show Steps p.tables e below (T10.setTop (mkF m 4 #[.val (.ref a1), .val (.int i), .val (.double x), .second] [(.ref ti)])) _
    refine XS.iloadN X10.here hx rfl (hb hby d3_4) rfl ?_
    show Steps p.tables e below (T10.setTop (mkF m 5 #[.val (.ref a1), .val (.int i), .val (.double x), .second] [(.int i), (.ref ti)])) _
    refine XS.dloadN X10.here hx rfl (hb hby d3_5) rfl ?_
    exact k
  obtain ⟨c12, A12, S12, V12⟩ := id At
  obtain ⟨T12, h12, X12, e12, W12, st12⟩ := stD X10 hx hZ e10 A12 (j := i) (own_in hi S12) (g := (mkF m 6 #[.val (.ref a1), .val (.int i), .val (.double x), .second] [(.double x), (.int i), (.ref ti)])) rfl rfl (hb hby d3_6)
  have N12 := Fr.snoc X12 N0 gt
  have C12 : ∀ t, Steps p.tables e below (T12.setTop (mkF m 7 #[.val (.ref a1), .val (.int i), .val (.double x), .second] [])) t → Steps p.tables e below (s₁.setTop (entryFrame m #[(.ref a1), (.int i), (.double x)] 4)) t := fun t k => C11 t (st12 t k)
  have F2x := F2.other W12 (Or.inl at1)
  have F1x := F1.other W12 (Or.inl at1)
  have Arx := Ar.other W12 (Ne.symm tr)
  have Atx := At.setD W12
  have E1x := E1.wr W12
  have C13 : ∀ t, Steps p.tables e below (T12.setTop (mkF m 8 #[.val (.ref a1), .val (.int i), .val (.double x), .second] [(.ref a1)])) t → Steps p.tables e below (s₁.setTop (entryFrame m #[(.ref a1), (.int i), (.double x)] 4)) t := by
    intro t k
    refine C12 t ?_
    show Steps p.tables e below (T12.setTop (mkF m 7 #[.val (.ref a1), .val (.int i), .val (.double x), .second] [])) _
    refine XS.aloadN X12.here hx rfl (hb hby d3_7) rfl rfl ?_
    exact k
  obtain ⟨T14, X14, e14, st14⟩ := getF X12 hx hZ hown (host := "") (Or.inl (hw _ (List.mem_of_getElem? (i := 12) rfl))) Via.refl e12 F2x (g := (mkF m 8 #[.val (.ref a1), .val (.int i), .val (.double x), .second] [(.ref a1)])) rfl rfl (hb hby d3_8)
  have C14 : ∀ t, Steps p.tables e below (T14.setTop (mkF m 11 #[.val (.ref a1), .val (.int i), .val (.double x), .second] [(.ref ri)])) t → Steps p.tables e below (s₁.setTop (entryFrame m #[(.ref a1), (.int i), (.double x)] 4)) t := fun t k => C13 t (st14 t k)
  have C15 : ∀ t, Steps p.tables e below (T14.setTop (mkF m 13 #[.val (.ref a1), .val (.int i), .val (.double x), .second] [(.double 0), (.int i), (.ref ri)])) t → Steps p.tables e below (s₁.setTop (entryFrame m #[(.ref a1), (.int i), (.double x)] 4)) t := by
    intro t k
    refine C14 t ?_
    show Steps p.tables e below (T14.setTop (mkF m 11 #[.val (.ref a1), .val (.int i), .val (.double x), .second] [(.ref ri)])) _
    refine XS.iloadN X14.here hx rfl (hb hby d3_11) rfl ?_
    show Steps p.tables e below (T14.setTop (mkF m 12 #[.val (.ref a1), .val (.int i), .val (.double x), .second] [(.int i), (.ref ri)])) _
    refine XS.dconst0 X14.here hx rfl (hb hby d3_12) (v := 0) rfl ?_
    exact k
  obtain ⟨c16, A16, S16, V16⟩ := id Arx
  obtain ⟨T16, h16, X16, e16, W16, st16⟩ := stD X14 hx hZ e14 A16 (j := i) (own_in hi S16) (g := (mkF m 13 #[.val (.ref a1), .val (.int i), .val (.double x), .second] [(.double 0), (.int i), (.ref ri)])) rfl rfl (hb hby d3_13)
  have N16 := Fr.snoc X16 N12 gr
  have C16 : ∀ t, Steps p.tables e below (T16.setTop (mkF m 14 #[.val (.ref a1), .val (.int i), .val (.double x), .second] [])) t → Steps p.tables e below (s₁.setTop (entryFrame m #[(.ref a1), (.int i), (.double x)] 4)) t := fun t k => C15 t (st16 t k)
  have I2 : OwnI Z h16 a1 ti ri n (own_upd f i x) (own_upd g i 0) := ⟨E1x.wr W16, F1x.other W16 (Or.inl at2), F2x.other W16 (Or.inl at2), Atx.other W16 tr, Arx.setD W16, tr⟩
  have K : Keep h0 h16 [ti, ri] := ((Keep.refl h0 [ti, ri]).wr W12 (Or.inl (List.mem_of_getElem? (i := 0) rfl))).wr W16 (Or.inl (List.mem_of_getElem? (i := 1) rfl))
  obtain ⟨fs, hr, hrun, hended, hW, hsame⟩ := X16.leave (v := none) (fun _ => rfl)
  refine ⟨_, _, C16 _ ?_, hrun, hended, _, _, rfl, ?_, ⟨_, rfl⟩, hW, hsame.mono (by decide) (by decide)⟩
  · show Steps p.tables e below (T16.setTop (mkF m 14 #[.val (.ref a1), .val (.int i), .val (.double x), .second] [])) _
    exact X16.returnOut hx Bd.returns (hb hby d3_14) hr
  · show Q3 Z a1 ti ri n (own_upd f i x) (own_upd g i 0) h0 n0 _ T16.heap _
    rw [e16]
    exact ⟨rfl, N16, I2, K⟩
def Q5 (Z : State) (x1 x2 x3 : UInt64) (h0 : Heap) (n0 : Nat) (v : Option Value) (h : Heap) (L : List Loc) : Prop := v = some (.double (own_re x1 x2 x3)) ∧ Fr n0 L ∧ h = h0
theorem ef5 (m : MethodId) (x0 : UInt64) (x1 : UInt64) (x2 : UInt64) : entryFrame m #[(.double x0), (.double x1), (.double x2)] 8 = mkF m 0 #[.val (.double x0), .second, .val (.double x1), .second, .val (.double x2), .second, .unset, .unset] [] := by first | (simp [entryFrame, mkF, argsToLocals, Value.category]; done) | rfl
theorem d5_0 : decode prog_33_method_9_code 0 = .ok (.dload 4, 2) := by decide +kernel
theorem d5_2 : decode prog_33_method_9_code 2 = .ok (.dload_n 0, 1) := by decide +kernel
theorem d5_3 : decode prog_33_method_9_code 3 = .ok (.dsub, 1) := by decide +kernel
theorem d5_4 : decode prog_33_method_9_code 4 = .ok (.dstore 6, 2) := by decide +kernel
theorem d5_6 : decode prog_33_method_9_code 6 = .ok (.dload_n 0, 1) := by decide +kernel
theorem d5_7 : decode prog_33_method_9_code 7 = .ok (.dload 4, 2) := by decide +kernel
theorem d5_9 : decode prog_33_method_9_code 9 = .ok (.dload 6, 2) := by decide +kernel
theorem d5_11 : decode prog_33_method_9_code 11 = .ok (.dsub, 1) := by decide +kernel
theorem d5_12 : decode prog_33_method_9_code 12 = .ok (.dsub, 1) := by decide +kernel
theorem d5_13 : decode prog_33_method_9_code 13 = .ok (.dload_n 2, 1) := by decide +kernel
theorem d5_14 : decode prog_33_method_9_code 14 = .ok (.dload 6, 2) := by decide +kernel
theorem d5_16 : decode prog_33_method_9_code 16 = .ok (.dsub, 1) := by decide +kernel
theorem d5_17 : decode prog_33_method_9_code 17 = .ok (.dadd, 1) := by decide +kernel
theorem d5_18 : decode prog_33_method_9_code 18 = .ok (.dreturn, 1) := by decide +kernel
set_option maxRecDepth 65536 in
set_option maxHeartbeats 40000000 in
theorem rm5 (l : Launch) (Z : State) (a0 : Array Value) (hw : ∀ d ∈ tables_1, d.before a0 Z = true) (ws : List Jvm.Cond) (x1 x2 x3 : UInt64) (h0 : Heap) (n0 : Nat) (Z0 : n0 ≤ h0.size) (nn : OwnReNN x1 x2 x3) :
    MetFree l (⟨"com/example/coverline/coverline/Instants", "roundingError", "(DDD)D"⟩ : MethodName) (head1 (Jvm.Cond.code (⟨"com/example/coverline/coverline/Instants", "roundingError", "(DDD)D"⟩ : MethodName) prog_33_method_9_code 8 (some .double) :: ws) ({ frames := 0, cells := 0, slots := 0, locals := 0 } : Room)) (fun a U => a = #[(.double x1), (.double x2), (.double x3)] ∧ Z.Warmed39 U.vm ∧ U.heap = h0) (fun _ _ _ _ _ => True) (fun _ U o U' => ∃ v L, o = .returned v ∧ Q5 Z x1 x2 x3 h0 n0 v U'.heap L ∧ FrameEnd U o U' L ({ frames := 0, cells := 0, slots := 0, locals := 0 } : Room).cells ({ frames := 0, cells := 0, slots := 0, locals := 0 } : Room).slots) := by
  refine MetFree.of_bodySF (plainFor_of_name pn0) hisR ?_
  intro p e s m args below meth c s₁ Bd hml0 hP hK
  obtain ⟨rfl, hZ, hh⟩ := hP
  have hx := Bd.exec
  have hby := Bd.bytes
  have hml : c.maxLocals = 8 := hml0
  have hown : s.vm.findClass "com/example/coverline/coverline/Instants" = some m.cls := findClass_of_methodNamed Bd.named
  have hnm := (name_of_methodNamed Bd.named Bd.method).1
  have X0 : Stand p l e ({ frames := 0, cells := 0, slots := 0, locals := 0 } : Room) s m #[(.double x1), (.double x2), (.double x3)] below meth c s₁ [] 0 0 := Stand.of_body Bd
  have e0 : s₁.heap = h0 := by rw [← hh, Bd.state]; rfl
  have N0 := Fr.nil n0
  have pre0 : ∀ t, Steps p.tables e below (s₁.setTop (mkF m 0 #[.val (.double x1), .second, .val (.double x2), .second, .val (.double x3), .second, .unset, .unset] [])) t → Steps p.tables e below (s₁.setTop (entryFrame m #[(.double x1), (.double x2), (.double x3)] 8)) t := fun t k => castTop (ef5 m x1 x2 x3) k
  obtain ⟨m1, m2, m3, m4, m5⟩ := nn
  have C17 : ∀ t, Steps p.tables e below (s₁.setTop (mkF m 18 #[.val (.double x1), .second, .val (.double x2), .second, .val (.double x3), .second, .val (.double (FP.dsub x3 x1)), .second] [(.double (own_re x1 x2 x3))])) t → Steps p.tables e below (s₁.setTop (entryFrame m #[(.double x1), (.double x2), (.double x3)] 8)) t := by
    intro t k
    refine pre0 t ?_
    show Steps p.tables e below (s₁.setTop (mkF m 0 #[.val (.double x1), .second, .val (.double x2), .second, .val (.double x3), .second, .unset, .unset] [])) _
    refine XS.dload X0.here hx rfl (hb hby d5_0) rfl ?_
    show Steps p.tables e below (s₁.setTop (mkF m 2 #[.val (.double x1), .second, .val (.double x2), .second, .val (.double x3), .second, .unset, .unset] [(.double x3)])) _
    refine XS.dloadN X0.here hx rfl (hb hby d5_2) rfl ?_
    show Steps p.tables e below (s₁.setTop (mkF m 3 #[.val (.double x1), .second, .val (.double x2), .second, .val (.double x3), .second, .unset, .unset] [(.double x1), (.double x3)])) _
    refine XS.dsubS X0.here hx rfl (hb hby d5_3) rfl m1 rfl ?_
    show Steps p.tables e below (s₁.setTop (mkF m 4 #[.val (.double x1), .second, .val (.double x2), .second, .val (.double x3), .second, .unset, .unset] [(.double (FP.dsub x3 x1))])) _
    refine XS.dstore X0.here hx rfl (hb hby d5_4) rfl (l' := #[.val (.double x1), .second, .val (.double x2), .second, .val (.double x3), .second, .val (.double (FP.dsub x3 x1)), .second]) rfl ?_
    show Steps p.tables e below (s₁.setTop (mkF m 6 #[.val (.double x1), .second, .val (.double x2), .second, .val (.double x3), .second, .val (.double (FP.dsub x3 x1)), .second] [])) _
    refine XS.dloadN X0.here hx rfl (hb hby d5_6) rfl ?_
    show Steps p.tables e below (s₁.setTop (mkF m 7 #[.val (.double x1), .second, .val (.double x2), .second, .val (.double x3), .second, .val (.double (FP.dsub x3 x1)), .second] [(.double x1)])) _
    refine XS.dload X0.here hx rfl (hb hby d5_7) rfl ?_
    show Steps p.tables e below (s₁.setTop (mkF m 9 #[.val (.double x1), .second, .val (.double x2), .second, .val (.double x3), .second, .val (.double (FP.dsub x3 x1)), .second] [(.double x3), (.double x1)])) _
    refine XS.dload X0.here hx rfl (hb hby d5_9) rfl ?_
    show Steps p.tables e below (s₁.setTop (mkF m 11 #[.val (.double x1), .second, .val (.double x2), .second, .val (.double x3), .second, .val (.double (FP.dsub x3 x1)), .second] [(.double (FP.dsub x3 x1)), (.double x3), (.double x1)])) _
    refine XS.dsubS X0.here hx rfl (hb hby d5_11) rfl m2 rfl ?_
    show Steps p.tables e below (s₁.setTop (mkF m 12 #[.val (.double x1), .second, .val (.double x2), .second, .val (.double x3), .second, .val (.double (FP.dsub x3 x1)), .second] [(.double (FP.dsub x3 (FP.dsub x3 x1))), (.double x1)])) _
    refine XS.dsubS X0.here hx rfl (hb hby d5_12) rfl m3 rfl ?_
    show Steps p.tables e below (s₁.setTop (mkF m 13 #[.val (.double x1), .second, .val (.double x2), .second, .val (.double x3), .second, .val (.double (FP.dsub x3 x1)), .second] [(.double (FP.dsub x1 (FP.dsub x3 (FP.dsub x3 x1))))])) _
    refine XS.dloadN X0.here hx rfl (hb hby d5_13) rfl ?_
    show Steps p.tables e below (s₁.setTop (mkF m 14 #[.val (.double x1), .second, .val (.double x2), .second, .val (.double x3), .second, .val (.double (FP.dsub x3 x1)), .second] [(.double x2), (.double (FP.dsub x1 (FP.dsub x3 (FP.dsub x3 x1))))])) _
    refine XS.dload X0.here hx rfl (hb hby d5_14) rfl ?_
    show Steps p.tables e below (s₁.setTop (mkF m 16 #[.val (.double x1), .second, .val (.double x2), .second, .val (.double x3), .second, .val (.double (FP.dsub x3 x1)), .second] [(.double (FP.dsub x3 x1)), (.double x2), (.double (FP.dsub x1 (FP.dsub x3 (FP.dsub x3 x1))))])) _
    refine XS.dsubS X0.here hx rfl (hb hby d5_16) rfl m4 rfl ?_
    show Steps p.tables e below (s₁.setTop (mkF m 17 #[.val (.double x1), .second, .val (.double x2), .second, .val (.double x3), .second, .val (.double (FP.dsub x3 x1)), .second] [(.double (FP.dsub x2 (FP.dsub x3 x1))), (.double (FP.dsub x1 (FP.dsub x3 (FP.dsub x3 x1))))])) _
    refine XS.daddS X0.here hx rfl (hb hby d5_17) rfl m5 rfl ?_
    exact k
  obtain ⟨fs, hr, hrun, hended, hW, hsame⟩ := X0.leave (v := some (.double (own_re x1 x2 x3))) (fun h => by rw [Bd.returns] at h; cases h)
  refine ⟨_, _, C17 _ ?_, hrun, hended, _, _, rfl, ?_, ⟨_, rfl⟩, hW, hsame.mono (by decide) (by decide)⟩
  · show Steps p.tables e below (s₁.setTop (mkF m 18 #[.val (.double x1), .second, .val (.double x2), .second, .val (.double x3), .second, .val (.double (FP.dsub x3 x1)), .second] [(.double (own_re x1 x2 x3))])) _
    exact retOut X0 hx Bd.returns rfl (Or.inr (Or.inr (Or.inl ⟨rfl, rfl, _, rfl⟩))) (hb hby d5_18) hr
  · show Q5 Z x1 x2 x3 h0 n0 _ s₁.heap _
    rw [e0]
    exact ⟨rfl, N0, rfl⟩
theorem pd0 : parseMethodDescriptor "(DDD)D" = some ⟨[.double, .double, .double], some .double⟩ := by decide +kernel
theorem ef4 (m : MethodId) (x0 : Addr) (x1 : Int32) (x2 : Addr) (x3 : Int32) (x4 : UInt64) : entryFrame m #[(.ref x0), (.int x1), (.ref x2), (.int x3), (.double x4)] 14 = mkF m 0 #[.val (.ref x0), .val (.int x1), .val (.ref x2), .val (.int x3), .val (.double x4), .second, .unset, .unset, .unset, .unset, .unset, .unset, .unset, .unset] [] := by first | (simp [entryFrame, mkF, argsToLocals, Value.category]; done) | rfl
theorem d4_0 : decode prog_33_method_6_code 0 = .ok (.aload_n 2, 1) := by decide +kernel
theorem d4_1 : decode prog_33_method_6_code 1 = .ok (.getfield 7, 3) := by decide +kernel
theorem d4_4 : decode prog_33_method_6_code 4 = .ok (.iload_n 3, 1) := by decide +kernel
theorem d4_5 : decode prog_33_method_6_code 5 = .ok (.daload, 1) := by decide +kernel
theorem d4_6 : decode prog_33_method_6_code 6 = .ok (.dstore 6, 2) := by decide +kernel
theorem d4_8 : decode prog_33_method_6_code 8 = .ok (.dload 6, 2) := by decide +kernel
theorem d4_10 : decode prog_33_method_6_code 10 = .ok (.dload 4, 2) := by decide +kernel
theorem d4_12 : decode prog_33_method_6_code 12 = .ok (.dadd, 1) := by decide +kernel
theorem d4_13 : decode prog_33_method_6_code 13 = .ok (.dstore 8, 2) := by decide +kernel
theorem d4_15 : decode prog_33_method_6_code 15 = .ok (.dload 6, 2) := by decide +kernel
theorem d4_17 : decode prog_33_method_6_code 17 = .ok (.dload 4, 2) := by decide +kernel
theorem d4_19 : decode prog_33_method_6_code 19 = .ok (.dload 8, 2) := by decide +kernel
theorem d4_21 : decode prog_33_method_6_code 21 = .ok (.invokestatic 16, 3) := by decide +kernel
theorem d4_24 : decode prog_33_method_6_code 24 = .ok (.aload_n 2, 1) := by decide +kernel
theorem d4_25 : decode prog_33_method_6_code 25 = .ok (.getfield 13, 3) := by decide +kernel
theorem d4_28 : decode prog_33_method_6_code 28 = .ok (.iload_n 3, 1) := by decide +kernel
theorem d4_29 : decode prog_33_method_6_code 29 = .ok (.daload, 1) := by decide +kernel
theorem d4_30 : decode prog_33_method_6_code 30 = .ok (.dadd, 1) := by decide +kernel
theorem d4_31 : decode prog_33_method_6_code 31 = .ok (.dstore 10, 2) := by decide +kernel
theorem d4_33 : decode prog_33_method_6_code 33 = .ok (.dload 8, 2) := by decide +kernel
theorem d4_35 : decode prog_33_method_6_code 35 = .ok (.dload 10, 2) := by decide +kernel
theorem d4_37 : decode prog_33_method_6_code 37 = .ok (.dadd, 1) := by decide +kernel
theorem d4_38 : decode prog_33_method_6_code 38 = .ok (.dstore 12, 2) := by decide +kernel
theorem d4_40 : decode prog_33_method_6_code 40 = .ok (.aload_n 0, 1) := by decide +kernel
theorem d4_41 : decode prog_33_method_6_code 41 = .ok (.getfield 7, 3) := by decide +kernel
theorem d4_44 : decode prog_33_method_6_code 44 = .ok (.iload_n 1, 1) := by decide +kernel
theorem d4_45 : decode prog_33_method_6_code 45 = .ok (.dload 12, 2) := by decide +kernel
theorem d4_47 : decode prog_33_method_6_code 47 = .ok (.dastore, 1) := by decide +kernel
theorem d4_48 : decode prog_33_method_6_code 48 = .ok (.aload_n 0, 1) := by decide +kernel
theorem d4_49 : decode prog_33_method_6_code 49 = .ok (.getfield 13, 3) := by decide +kernel
theorem d4_52 : decode prog_33_method_6_code 52 = .ok (.iload_n 1, 1) := by decide +kernel
theorem d4_53 : decode prog_33_method_6_code 53 = .ok (.dload 8, 2) := by decide +kernel
theorem d4_55 : decode prog_33_method_6_code 55 = .ok (.dload 10, 2) := by decide +kernel
theorem d4_57 : decode prog_33_method_6_code 57 = .ok (.dload 12, 2) := by decide +kernel
theorem d4_59 : decode prog_33_method_6_code 59 = .ok (.invokestatic 16, 3) := by decide +kernel
theorem d4_62 : decode prog_33_method_6_code 62 = .ok (.dastore, 1) := by decide +kernel
theorem d4_63 : decode prog_33_method_6_code 63 = .ok (.return_, 1) := by decide +kernel
set_option maxRecDepth 65536 in
set_option maxHeartbeats 40000000 in
theorem rm4 (l : Launch) (Z : State) (a0 : Array Value) (hw : ∀ d ∈ tables_1, d.before a0 Z = true) (ws : List Jvm.Cond) (a1 : Addr) (i : Int32) (o1 : Addr) (j : Int32) (x : UInt64) (ti ri ti' ri' : Addr) (n n' : Nat) (f g f' g' : Nat → UInt64) (y1 y2 : UInt64) (h0 : Heap) (n0 : Nat) (Z0 : n0 ≤ h0.size) (I : OwnI Z h0 a1 ti ri n f g) (J : OwnI Z h0 o1 ti' ri' n' f' g') (hi : ¬ i < 0 ∧ i.toNatClampNeg < n) (hj : ¬ j < 0 ∧ j.toNatClampNeg < n') (gt : n0 ≤ ti) (gr : n0 ≤ ri) (hy1 : f' j.toNatClampNeg = y1) (hy2 : g' j.toNatClampNeg = y2) (nsum : Jvm.Free.Fl.NoNaN64 (FP.dadd y1 x)) (nn1 : OwnReNN y1 x (FP.dadd y1 x)) (nrest : Jvm.Free.Fl.NoNaN64 (FP.dadd (own_re y1 x (FP.dadd y1 x)) y2)) (ntime : Jvm.Free.Fl.NoNaN64 (FP.dadd (FP.dadd y1 x) (FP.dadd (own_re y1 x (FP.dadd y1 x)) y2))) (nn2 : OwnReNN (FP.dadd y1 x) (FP.dadd (own_re y1 x (FP.dadd y1 x)) y2) (FP.dadd (FP.dadd y1 x) (FP.dadd (own_re y1 x (FP.dadd y1 x)) y2))) :
    MetFree l (⟨"com/example/coverline/coverline/Instants", "setAfter", "(ILcom/example/coverline/coverline/Instants;ID)V"⟩ : MethodName) (head1 (Jvm.Cond.code (⟨"com/example/coverline/coverline/Instants", "setAfter", "(ILcom/example/coverline/coverline/Instants;ID)V"⟩ : MethodName) prog_33_method_6_code 14 none :: ws) ({ frames := 1, cells := 0, slots := 0, locals := 21 } : Room)) (fun a U => a = #[(.ref a1), (.int i), (.ref o1), (.int j), (.double x)] ∧ Z.Warmed39 U.vm ∧ U.heap = h0) (fun _ _ _ _ _ => True) (fun _ U o U' => ∃ v L, o = .returned v ∧ Q3 Z a1 ti ri n (own_upd f i (FP.dadd (FP.dadd y1 x) (FP.dadd (own_re y1 x (FP.dadd y1 x)) y2))) (own_upd g i (own_re (FP.dadd y1 x) (FP.dadd (own_re y1 x (FP.dadd y1 x)) y2) (FP.dadd (FP.dadd y1 x) (FP.dadd (own_re y1 x (FP.dadd y1 x)) y2)))) h0 n0 v U'.heap L ∧ FrameEnd U o U' L ({ frames := 1, cells := 0, slots := 0, locals := 21 } : Room).cells ({ frames := 1, cells := 0, slots := 0, locals := 21 } : Room).slots) := by
  refine MetFree.of_bodySF (plainFor_of_name pn0) hisR ?_
  intro p e s m args below meth c s₁ Bd hml0 hP hK
  obtain ⟨rfl, hZ, hh⟩ := hP
  have hx := Bd.exec
  have hby := Bd.bytes
  have hml : c.maxLocals = 14 := hml0
  have hown : s.vm.findClass "com/example/coverline/coverline/Instants" = some m.cls := findClass_of_methodNamed Bd.named
  have hnm := (name_of_methodNamed Bd.named Bd.method).1
  have X0 : Stand p l e ({ frames := 1, cells := 0, slots := 0, locals := 21 } : Room) s m #[(.ref a1), (.int i), (.ref o1), (.int j), (.double x)] below meth c s₁ [] 0 0 := Stand.of_body Bd
  have e0 : s₁.heap = h0 := by rw [← hh, Bd.state]; rfl
  have N0 := Fr.nil n0
  have pre0 : ∀ t, Steps p.tables e below (s₁.setTop (mkF m 0 #[.val (.ref a1), .val (.int i), .val (.ref o1), .val (.int j), .val (.double x), .second, .unset, .unset, .unset, .unset, .unset, .unset, .unset, .unset] [])) t → Steps p.tables e below (s₁.setTop (entryFrame m #[(.ref a1), (.int i), (.ref o1), (.int j), (.double x)] 14)) t := fun t k => castTop (ef4 m a1 i o1 j x) k
  obtain ⟨E1, F1, F2, At, Ar, tr⟩ := I
  obtain ⟨G0, G1, G2, Bt, Br, -⟩ := J
  have at1 := own_ne E1 (hw _ (List.mem_of_getElem? (i := 1) rfl)) At
  have at2 := own_ne E1 (hw _ (List.mem_of_getElem? (i := 1) rfl)) Ar
  have C18 : ∀ t, Steps p.tables e below (s₁.setTop (mkF m 1 #[.val (.ref a1), .val (.int i), .val (.ref o1), .val (.int j), .val (.double x), .second, .unset, .unset, .unset, .unset, .unset, .unset, .unset, .unset] [(.ref o1)])) t → Steps p.tables e below (s₁.setTop (entryFrame m #[(.ref a1), (.int i), (.ref o1), (.int j), (.double x)] 14)) t := by
    intro t k
    refine pre0 t ?_
    show Steps p.tables e below (s₁.setTop (mkF m 0 #[.val (.ref a1), .val (.int i), .val (.ref o1), .val (.int j), .val (.double x), .second, .unset, .unset, .unset, .unset, .unset, .unset, .unset, .unset] [])) _
    refine XS.aloadN X0.here hx rfl (hb hby d4_0) rfl rfl ?_
    exact k
  obtain ⟨T19, X19, e19, st19⟩ := getF X0 hx hZ hown (host := "") (Or.inl (hw _ (List.mem_of_getElem? (i := 10) rfl))) Via.refl e0 G1 (g := (mkF m 1 #[.val (.ref a1), .val (.int i), .val (.ref o1), .val (.int j), .val (.double x), .second, .unset, .unset, .unset, .unset, .unset, .unset, .unset, .unset] [(.ref o1)])) rfl rfl (hb hby d4_1)
  have C19 : ∀ t, Steps p.tables e below (T19.setTop (mkF m 4 #[.val (.ref a1), .val (.int i), .val (.ref o1), .val (.int j), .val (.double x), .second, .unset, .unset, .unset, .unset, .unset, .unset, .unset, .unset] [(.ref ti')])) t → Steps p.tables e below (s₁.setTop (entryFrame m #[(.ref a1), (.int i), (.ref o1), (.int j), (.double x)] 14)) t := fun t k => C18 t (st19 t k)
  obtain ⟨c20, A20, S20, V20⟩ := id Bt
  have C21 : ∀ t, Steps p.tables e below (T19.setTop (mkF m 21 #[.val (.ref a1), .val (.int i), .val (.ref o1), .val (.int j), .val (.double x), .second, .val (.double y1), .second, .val (.double (FP.dadd y1 x)), .second, .unset, .unset, .unset, .unset] [(.double (FP.dadd y1 x)), (.double x), (.double y1)])) t → Steps p.tables e below (s₁.setTop (entryFrame m #[(.ref a1), (.int i), (.ref o1), (.int j), (.double x)] 14)) t := by
    intro t k
    refine C19 t ?_
    show Steps p.tables e below (T19.setTop (mkF m 4 #[.val (.ref a1), .val (.int i), .val (.ref o1), .val (.int j), .val (.double x), .second, .unset, .unset, .unset, .unset, .unset, .unset, .unset, .unset] [(.ref ti')])) _
    refine XS.iloadN X19.here hx rfl (hb hby d4_4) rfl ?_
    show Steps p.tables e below (T19.setTop (mkF m 5 #[.val (.ref a1), .val (.int i), .val (.ref o1), .val (.int j), .val (.double x), .second, .unset, .unset, .unset, .unset, .unset, .unset, .unset, .unset] [(.int j), (.ref ti')])) _
    refine X19.daload hx (j := j) (v := (.double y1)) (by rw [e19]; exact A20.1) (State.isArrayOf_alike hZ.alike A20.2.1) A20.2.2 (own_in hj S20) ((by rw [V20 _ hj.2]; exact congrArg (fun z => some (Value.double z)) hy1)) (g := (mkF m 5 #[.val (.ref a1), .val (.int i), .val (.ref o1), .val (.int j), .val (.double x), .second, .unset, .unset, .unset, .unset, .unset, .unset, .unset, .unset] [(.int j), (.ref ti')])) rfl rfl (hb hby d4_5) _ ?_
    show Steps p.tables e below (T19.setTop (mkF m 6 #[.val (.ref a1), .val (.int i), .val (.ref o1), .val (.int j), .val (.double x), .second, .unset, .unset, .unset, .unset, .unset, .unset, .unset, .unset] [(.double y1)])) _
    refine XS.dstore X19.here hx rfl (hb hby d4_6) rfl (l' := #[.val (.ref a1), .val (.int i), .val (.ref o1), .val (.int j), .val (.double x), .second, .val (.double y1), .second, .unset, .unset, .unset, .unset, .unset, .unset]) rfl ?_
    show Steps p.tables e below (T19.setTop (mkF m 8 #[.val (.ref a1), .val (.int i), .val (.ref o1), .val (.int j), .val (.double x), .second, .val (.double y1), .second, .unset, .unset, .unset, .unset, .unset, .unset] [])) _
    refine XS.dload X19.here hx rfl (hb hby d4_8) rfl ?_
    show Steps p.tables e below (T19.setTop (mkF m 10 #[.val (.ref a1), .val (.int i), .val (.ref o1), .val (.int j), .val (.double x), .second, .val (.double y1), .second, .unset, .unset, .unset, .unset, .unset, .unset] [(.double y1)])) _
    refine XS.dload X19.here hx rfl (hb hby d4_10) rfl ?_
    show Steps p.tables e below (T19.setTop (mkF m 12 #[.val (.ref a1), .val (.int i), .val (.ref o1), .val (.int j), .val (.double x), .second, .val (.double y1), .second, .unset, .unset, .unset, .unset, .unset, .unset] [(.double x), (.double y1)])) _
    refine XS.daddS X19.here hx rfl (hb hby d4_12) rfl nsum rfl ?_
    show Steps p.tables e below (T19.setTop (mkF m 13 #[.val (.ref a1), .val (.int i), .val (.ref o1), .val (.int j), .val (.double x), .second, .val (.double y1), .second, .unset, .unset, .unset, .unset, .unset, .unset] [(.double (FP.dadd y1 x))])) _
    refine XS.dstore X19.here hx rfl (hb hby d4_13) rfl (l' := #[.val (.ref a1), .val (.int i), .val (.ref o1), .val (.int j), .val (.double x), .second, .val (.double y1), .second, .val (.double (FP.dadd y1 x)), .second, .unset, .unset, .unset, .unset]) rfl ?_
    show Steps p.tables e below (T19.setTop (mkF m 15 #[.val (.ref a1), .val (.int i), .val (.ref o1), .val (.int j), .val (.double x), .second, .val (.double y1), .second, .val (.double (FP.dadd y1 x)), .second, .unset, .unset, .unset, .unset] [])) _
    refine XS.dload X19.here hx rfl (hb hby d4_15) rfl ?_
    show Steps p.tables e below (T19.setTop (mkF m 17 #[.val (.ref a1), .val (.int i), .val (.ref o1), .val (.int j), .val (.double x), .second, .val (.double y1), .second, .val (.double (FP.dadd y1 x)), .second, .unset, .unset, .unset, .unset] [(.double y1)])) _
    refine XS.dload X19.here hx rfl (hb hby d4_17) rfl ?_
    show Steps p.tables e below (T19.setTop (mkF m 19 #[.val (.ref a1), .val (.int i), .val (.ref o1), .val (.int j), .val (.double x), .second, .val (.double y1), .second, .val (.double (FP.dadd y1 x)), .second, .unset, .unset, .unset, .unset] [(.double x), (.double y1)])) _
    refine XS.dload X19.here hx rfl (hb hby d4_19) rfl ?_
    exact k
  obtain ⟨_, _, ⟨T22, L22, k22, n22⟩, -, X22, ⟨Lc22, hQ22, l22, y22, z22⟩, st22⟩ := Jvm.LawKit.callS X19 hx (y := (⟨"com/example/coverline/coverline/Instants", "roundingError", "(DDD)D"⟩ : MethodName)) hown (mvT hZ (hw _ (List.mem_of_getElem? (i := 25) rfl))) (mvT hZ (hw _ (List.mem_of_getElem? (i := 26) rfl))) (mvT hZ (hw _ (List.mem_of_getElem? (i := 2) rfl))) (mvT hZ (hw _ (List.mem_of_getElem? (i := 27) rfl))) (by decide) (backOf (W := 0) (rm5 l Z a0 hw [] y1 x (FP.dadd y1 x) h0 n0 Z0 nn1) hZ (hw _ (List.mem_of_getElem? (i := 27) rfl)) (hw _ (List.mem_of_getElem? (i := 2) rfl)) (by decide) (by decide)) (g := (mkF m 21 #[.val (.ref a1), .val (.int i), .val (.ref o1), .val (.int j), .val (.double x), .second, .val (.double y1), .second, .val (.double (FP.dadd y1 x)), .second, .unset, .unset, .unset, .unset] [(.double (FP.dadd y1 x)), (.double x), (.double y1)])) rfl (by rw [hml]; rfl) (argsL := [(.double y1), (.double x), (.double (FP.dadd y1 x))]) (rest := []) (lenOf pd0 rfl) rfl (by show 2 * 0 + _ ≤ _; exact Nat.le_of_eq rfl) (hb hby d4_21) (fun _ _ => ⟨rfl, e19, (by decide : 0 + 0 ≤ _), (by decide : 0 + 0 ≤ _)⟩)
  dsimp only [Pt.U, Pt.locs, Pt.cells, Pt.slots] at X22 l22 y22 z22 st22 hQ22
  subst l22 y22 z22
  obtain ⟨rfl, N22q, q22⟩ := hQ22
  have N22 := Fr.app N0 N22q
  have C22 : ∀ t, Steps p.tables e below (T22.setTop (mkF m 24 #[.val (.ref a1), .val (.int i), .val (.ref o1), .val (.int j), .val (.double x), .second, .val (.double y1), .second, .val (.double (FP.dadd y1 x)), .second, .unset, .unset, .unset, .unset] [(.double (own_re y1 x (FP.dadd y1 x)))])) t → Steps p.tables e below (s₁.setTop (entryFrame m #[(.ref a1), (.int i), (.ref o1), (.int j), (.double x)] 14)) t := fun t k => C21 t (st22 t k)
  have C23 : ∀ t, Steps p.tables e below (T22.setTop (mkF m 25 #[.val (.ref a1), .val (.int i), .val (.ref o1), .val (.int j), .val (.double x), .second, .val (.double y1), .second, .val (.double (FP.dadd y1 x)), .second, .unset, .unset, .unset, .unset] [(.ref o1), (.double (own_re y1 x (FP.dadd y1 x)))])) t → Steps p.tables e below (s₁.setTop (entryFrame m #[(.ref a1), (.int i), (.ref o1), (.int j), (.double x)] 14)) t := by
    intro t k
    refine C22 t ?_
    show Steps p.tables e below (T22.setTop (mkF m 24 #[.val (.ref a1), .val (.int i), .val (.ref o1), .val (.int j), .val (.double x), .second, .val (.double y1), .second, .val (.double (FP.dadd y1 x)), .second, .unset, .unset, .unset, .unset] [(.double (own_re y1 x (FP.dadd y1 x)))])) _
    refine XS.aloadN X22.here hx rfl (hb hby d4_24) rfl rfl ?_
    exact k
  obtain ⟨T24, X24, e24, st24⟩ := getF X22 hx hZ hown (host := "") (Or.inl (hw _ (List.mem_of_getElem? (i := 12) rfl))) Via.refl q22 G2 (g := (mkF m 25 #[.val (.ref a1), .val (.int i), .val (.ref o1), .val (.int j), .val (.double x), .second, .val (.double y1), .second, .val (.double (FP.dadd y1 x)), .second, .unset, .unset, .unset, .unset] [(.ref o1), (.double (own_re y1 x (FP.dadd y1 x)))])) rfl rfl (hb hby d4_25)
  have C24 : ∀ t, Steps p.tables e below (T24.setTop (mkF m 28 #[.val (.ref a1), .val (.int i), .val (.ref o1), .val (.int j), .val (.double x), .second, .val (.double y1), .second, .val (.double (FP.dadd y1 x)), .second, .unset, .unset, .unset, .unset] [(.ref ri'), (.double (own_re y1 x (FP.dadd y1 x)))])) t → Steps p.tables e below (s₁.setTop (entryFrame m #[(.ref a1), (.int i), (.ref o1), (.int j), (.double x)] 14)) t := fun t k => C23 t (st24 t k)
  obtain ⟨c25, A25, S25, V25⟩ := id Br
  have C26 : ∀ t, Steps p.tables e below (T24.setTop (mkF m 41 #[.val (.ref a1), .val (.int i), .val (.ref o1), .val (.int j), .val (.double x), .second, .val (.double y1), .second, .val (.double (FP.dadd y1 x)), .second, .val (.double (FP.dadd (own_re y1 x (FP.dadd y1 x)) y2)), .second, .val (.double (FP.dadd (FP.dadd y1 x) (FP.dadd (own_re y1 x (FP.dadd y1 x)) y2))), .second] [(.ref a1)])) t → Steps p.tables e below (s₁.setTop (entryFrame m #[(.ref a1), (.int i), (.ref o1), (.int j), (.double x)] 14)) t := by
    intro t k
    refine C24 t ?_
    show Steps p.tables e below (T24.setTop (mkF m 28 #[.val (.ref a1), .val (.int i), .val (.ref o1), .val (.int j), .val (.double x), .second, .val (.double y1), .second, .val (.double (FP.dadd y1 x)), .second, .unset, .unset, .unset, .unset] [(.ref ri'), (.double (own_re y1 x (FP.dadd y1 x)))])) _
    refine XS.iloadN X24.here hx rfl (hb hby d4_28) rfl ?_
    show Steps p.tables e below (T24.setTop (mkF m 29 #[.val (.ref a1), .val (.int i), .val (.ref o1), .val (.int j), .val (.double x), .second, .val (.double y1), .second, .val (.double (FP.dadd y1 x)), .second, .unset, .unset, .unset, .unset] [(.int j), (.ref ri'), (.double (own_re y1 x (FP.dadd y1 x)))])) _
    refine X24.daload hx (j := j) (v := (.double y2)) (by rw [e24]; exact A25.1) (State.isArrayOf_alike hZ.alike A25.2.1) A25.2.2 (own_in hj S25) ((by rw [V25 _ hj.2]; exact congrArg (fun z => some (Value.double z)) hy2)) (g := (mkF m 29 #[.val (.ref a1), .val (.int i), .val (.ref o1), .val (.int j), .val (.double x), .second, .val (.double y1), .second, .val (.double (FP.dadd y1 x)), .second, .unset, .unset, .unset, .unset] [(.int j), (.ref ri'), (.double (own_re y1 x (FP.dadd y1 x)))])) rfl rfl (hb hby d4_29) _ ?_
    show Steps p.tables e below (T24.setTop (mkF m 30 #[.val (.ref a1), .val (.int i), .val (.ref o1), .val (.int j), .val (.double x), .second, .val (.double y1), .second, .val (.double (FP.dadd y1 x)), .second, .unset, .unset, .unset, .unset] [(.double y2), (.double (own_re y1 x (FP.dadd y1 x)))])) _
    refine XS.daddS X24.here hx rfl (hb hby d4_30) rfl nrest rfl ?_
    show Steps p.tables e below (T24.setTop (mkF m 31 #[.val (.ref a1), .val (.int i), .val (.ref o1), .val (.int j), .val (.double x), .second, .val (.double y1), .second, .val (.double (FP.dadd y1 x)), .second, .unset, .unset, .unset, .unset] [(.double (FP.dadd (own_re y1 x (FP.dadd y1 x)) y2))])) _
    refine XS.dstore X24.here hx rfl (hb hby d4_31) rfl (l' := #[.val (.ref a1), .val (.int i), .val (.ref o1), .val (.int j), .val (.double x), .second, .val (.double y1), .second, .val (.double (FP.dadd y1 x)), .second, .val (.double (FP.dadd (own_re y1 x (FP.dadd y1 x)) y2)), .second, .unset, .unset]) rfl ?_
    show Steps p.tables e below (T24.setTop (mkF m 33 #[.val (.ref a1), .val (.int i), .val (.ref o1), .val (.int j), .val (.double x), .second, .val (.double y1), .second, .val (.double (FP.dadd y1 x)), .second, .val (.double (FP.dadd (own_re y1 x (FP.dadd y1 x)) y2)), .second, .unset, .unset] [])) _
    refine XS.dload X24.here hx rfl (hb hby d4_33) rfl ?_
    show Steps p.tables e below (T24.setTop (mkF m 35 #[.val (.ref a1), .val (.int i), .val (.ref o1), .val (.int j), .val (.double x), .second, .val (.double y1), .second, .val (.double (FP.dadd y1 x)), .second, .val (.double (FP.dadd (own_re y1 x (FP.dadd y1 x)) y2)), .second, .unset, .unset] [(.double (FP.dadd y1 x))])) _
    refine XS.dload X24.here hx rfl (hb hby d4_35) rfl ?_
    show Steps p.tables e below (T24.setTop (mkF m 37 #[.val (.ref a1), .val (.int i), .val (.ref o1), .val (.int j), .val (.double x), .second, .val (.double y1), .second, .val (.double (FP.dadd y1 x)), .second, .val (.double (FP.dadd (own_re y1 x (FP.dadd y1 x)) y2)), .second, .unset, .unset] [(.double (FP.dadd (own_re y1 x (FP.dadd y1 x)) y2)), (.double (FP.dadd y1 x))])) _
    refine XS.daddS X24.here hx rfl (hb hby d4_37) rfl ntime rfl ?_
    show Steps p.tables e below (T24.setTop (mkF m 38 #[.val (.ref a1), .val (.int i), .val (.ref o1), .val (.int j), .val (.double x), .second, .val (.double y1), .second, .val (.double (FP.dadd y1 x)), .second, .val (.double (FP.dadd (own_re y1 x (FP.dadd y1 x)) y2)), .second, .unset, .unset] [(.double (FP.dadd (FP.dadd y1 x) (FP.dadd (own_re y1 x (FP.dadd y1 x)) y2)))])) _
    refine XS.dstore X24.here hx rfl (hb hby d4_38) rfl (l' := #[.val (.ref a1), .val (.int i), .val (.ref o1), .val (.int j), .val (.double x), .second, .val (.double y1), .second, .val (.double (FP.dadd y1 x)), .second, .val (.double (FP.dadd (own_re y1 x (FP.dadd y1 x)) y2)), .second, .val (.double (FP.dadd (FP.dadd y1 x) (FP.dadd (own_re y1 x (FP.dadd y1 x)) y2))), .second]) rfl ?_
    show Steps p.tables e below (T24.setTop (mkF m 40 #[.val (.ref a1), .val (.int i), .val (.ref o1), .val (.int j), .val (.double x), .second, .val (.double y1), .second, .val (.double (FP.dadd y1 x)), .second, .val (.double (FP.dadd (own_re y1 x (FP.dadd y1 x)) y2)), .second, .val (.double (FP.dadd (FP.dadd y1 x) (FP.dadd (own_re y1 x (FP.dadd y1 x)) y2))), .second] [])) _
    refine XS.aloadN X24.here hx rfl (hb hby d4_40) rfl rfl ?_
    exact k
  obtain ⟨T27, X27, e27, st27⟩ := getF X24 hx hZ hown (host := "") (Or.inl (hw _ (List.mem_of_getElem? (i := 10) rfl))) Via.refl e24 F1 (g := (mkF m 41 #[.val (.ref a1), .val (.int i), .val (.ref o1), .val (.int j), .val (.double x), .second, .val (.double y1), .second, .val (.double (FP.dadd y1 x)), .second, .val (.double (FP.dadd (own_re y1 x (FP.dadd y1 x)) y2)), .second, .val (.double (FP.dadd (FP.dadd y1 x) (FP.dadd (own_re y1 x (FP.dadd y1 x)) y2))), .second] [(.ref a1)])) rfl rfl (hb hby d4_41)
  have C27 : ∀ t, Steps p.tables e below (T27.setTop (mkF m 44 #[.val (.ref a1), .val (.int i), .val (.ref o1), .val (.int j), .val (.double x), .second, .val (.double y1), .second, .val (.double (FP.dadd y1 x)), .second, .val (.double (FP.dadd (own_re y1 x (FP.dadd y1 x)) y2)), .second, .val (.double (FP.dadd (FP.dadd y1 x) (FP.dadd (own_re y1 x (FP.dadd y1 x)) y2))), .second] [(.ref ti)])) t → Steps p.tables e below (s₁.setTop (entryFrame m #[(.ref a1), (.int i), (.ref o1), (.int j), (.double x)] 14)) t := fun t k => C26 t (st27 t k)
  have C28 : ∀ t, Steps p.tables e below (T27.setTop (mkF m 47 #[.val (.ref a1), .val (.int i), .val (.ref o1), .val (.int j), .val (.double x), .second, .val (.double y1), .second, .val (.double (FP.dadd y1 x)), .second, .val (.double (FP.dadd (own_re y1 x (FP.dadd y1 x)) y2)), .second, .val (.double (FP.dadd (FP.dadd y1 x) (FP.dadd (own_re y1 x (FP.dadd y1 x)) y2))), .second] [(.double (FP.dadd (FP.dadd y1 x) (FP.dadd (own_re y1 x (FP.dadd y1 x)) y2))), (.int i), (.ref ti)])) t → Steps p.tables e below (s₁.setTop (entryFrame m #[(.ref a1), (.int i), (.ref o1), (.int j), (.double x)] 14)) t := by
    intro t k
    refine C27 t ?_
    show Steps p.tables e below (T27.setTop (mkF m 44 #[.val (.ref a1), .val (.int i), .val (.ref o1), .val (.int j), .val (.double x), .second, .val (.double y1), .second, .val (.double (FP.dadd y1 x)), .second, .val (.double (FP.dadd (own_re y1 x (FP.dadd y1 x)) y2)), .second, .val (.double (FP.dadd (FP.dadd y1 x) (FP.dadd (own_re y1 x (FP.dadd y1 x)) y2))), .second] [(.ref ti)])) _
    refine XS.iloadN X27.here hx rfl (hb hby d4_44) rfl ?_
    show Steps p.tables e below (T27.setTop (mkF m 45 #[.val (.ref a1), .val (.int i), .val (.ref o1), .val (.int j), .val (.double x), .second, .val (.double y1), .second, .val (.double (FP.dadd y1 x)), .second, .val (.double (FP.dadd (own_re y1 x (FP.dadd y1 x)) y2)), .second, .val (.double (FP.dadd (FP.dadd y1 x) (FP.dadd (own_re y1 x (FP.dadd y1 x)) y2))), .second] [(.int i), (.ref ti)])) _
    refine XS.dload X27.here hx rfl (hb hby d4_45) rfl ?_
    exact k
  obtain ⟨c29, A29, S29, V29⟩ := id At
  obtain ⟨T29, h29, X29, e29, W29, st29⟩ := stD X27 hx hZ e27 A29 (j := i) (own_in hi S29) (g := (mkF m 47 #[.val (.ref a1), .val (.int i), .val (.ref o1), .val (.int j), .val (.double x), .second, .val (.double y1), .second, .val (.double (FP.dadd y1 x)), .second, .val (.double (FP.dadd (own_re y1 x (FP.dadd y1 x)) y2)), .second, .val (.double (FP.dadd (FP.dadd y1 x) (FP.dadd (own_re y1 x (FP.dadd y1 x)) y2))), .second] [(.double (FP.dadd (FP.dadd y1 x) (FP.dadd (own_re y1 x (FP.dadd y1 x)) y2))), (.int i), (.ref ti)])) rfl rfl (hb hby d4_47)
  have N29 := Fr.snoc X29 N22 gt
  have C29 : ∀ t, Steps p.tables e below (T29.setTop (mkF m 48 #[.val (.ref a1), .val (.int i), .val (.ref o1), .val (.int j), .val (.double x), .second, .val (.double y1), .second, .val (.double (FP.dadd y1 x)), .second, .val (.double (FP.dadd (own_re y1 x (FP.dadd y1 x)) y2)), .second, .val (.double (FP.dadd (FP.dadd y1 x) (FP.dadd (own_re y1 x (FP.dadd y1 x)) y2))), .second] [])) t → Steps p.tables e below (s₁.setTop (entryFrame m #[(.ref a1), (.int i), (.ref o1), (.int j), (.double x)] 14)) t := fun t k => C28 t (st29 t k)
  have F2x := F2.other W29 (Or.inl at1)
  have F1x := F1.other W29 (Or.inl at1)
  have Arx := Ar.other W29 (Ne.symm tr)
  have Atx := At.setD W29
  have E1x := E1.wr W29
  have K1 : Keep h0 h29 [ti, ri] := (Keep.refl h0 [ti, ri]).wr W29 (Or.inl (List.mem_of_getElem? (i := 0) rfl))
  have Z1 : n0 ≤ h29.size := Nat.le_trans Z0 K1.1
  have C30 : ∀ t, Steps p.tables e below (T29.setTop (mkF m 49 #[.val (.ref a1), .val (.int i), .val (.ref o1), .val (.int j), .val (.double x), .second, .val (.double y1), .second, .val (.double (FP.dadd y1 x)), .second, .val (.double (FP.dadd (own_re y1 x (FP.dadd y1 x)) y2)), .second, .val (.double (FP.dadd (FP.dadd y1 x) (FP.dadd (own_re y1 x (FP.dadd y1 x)) y2))), .second] [(.ref a1)])) t → Steps p.tables e below (s₁.setTop (entryFrame m #[(.ref a1), (.int i), (.ref o1), (.int j), (.double x)] 14)) t := by
    intro t k
    refine C29 t ?_
    show Steps p.tables e below (T29.setTop (mkF m 48 #[.val (.ref a1), .val (.int i), .val (.ref o1), .val (.int j), .val (.double x), .second, .val (.double y1), .second, .val (.double (FP.dadd y1 x)), .second, .val (.double (FP.dadd (own_re y1 x (FP.dadd y1 x)) y2)), .second, .val (.double (FP.dadd (FP.dadd y1 x) (FP.dadd (own_re y1 x (FP.dadd y1 x)) y2))), .second] [])) _
    refine XS.aloadN X29.here hx rfl (hb hby d4_48) rfl rfl ?_
    exact k
  obtain ⟨T31, X31, e31, st31⟩ := getF X29 hx hZ hown (host := "") (Or.inl (hw _ (List.mem_of_getElem? (i := 12) rfl))) Via.refl e29 F2x (g := (mkF m 49 #[.val (.ref a1), .val (.int i), .val (.ref o1), .val (.int j), .val (.double x), .second, .val (.double y1), .second, .val (.double (FP.dadd y1 x)), .second, .val (.double (FP.dadd (own_re y1 x (FP.dadd y1 x)) y2)), .second, .val (.double (FP.dadd (FP.dadd y1 x) (FP.dadd (own_re y1 x (FP.dadd y1 x)) y2))), .second] [(.ref a1)])) rfl rfl (hb hby d4_49)
  have C31 : ∀ t, Steps p.tables e below (T31.setTop (mkF m 52 #[.val (.ref a1), .val (.int i), .val (.ref o1), .val (.int j), .val (.double x), .second, .val (.double y1), .second, .val (.double (FP.dadd y1 x)), .second, .val (.double (FP.dadd (own_re y1 x (FP.dadd y1 x)) y2)), .second, .val (.double (FP.dadd (FP.dadd y1 x) (FP.dadd (own_re y1 x (FP.dadd y1 x)) y2))), .second] [(.ref ri)])) t → Steps p.tables e below (s₁.setTop (entryFrame m #[(.ref a1), (.int i), (.ref o1), (.int j), (.double x)] 14)) t := fun t k => C30 t (st31 t k)
  have C32 : ∀ t, Steps p.tables e below (T31.setTop (mkF m 59 #[.val (.ref a1), .val (.int i), .val (.ref o1), .val (.int j), .val (.double x), .second, .val (.double y1), .second, .val (.double (FP.dadd y1 x)), .second, .val (.double (FP.dadd (own_re y1 x (FP.dadd y1 x)) y2)), .second, .val (.double (FP.dadd (FP.dadd y1 x) (FP.dadd (own_re y1 x (FP.dadd y1 x)) y2))), .second] [(.double (FP.dadd (FP.dadd y1 x) (FP.dadd (own_re y1 x (FP.dadd y1 x)) y2))), (.double (FP.dadd (own_re y1 x (FP.dadd y1 x)) y2)), (.double (FP.dadd y1 x)), (.int i), (.ref ri)])) t → Steps p.tables e below (s₁.setTop (entryFrame m #[(.ref a1), (.int i), (.ref o1), (.int j), (.double x)] 14)) t := by
    intro t k
    refine C31 t ?_
    show Steps p.tables e below (T31.setTop (mkF m 52 #[.val (.ref a1), .val (.int i), .val (.ref o1), .val (.int j), .val (.double x), .second, .val (.double y1), .second, .val (.double (FP.dadd y1 x)), .second, .val (.double (FP.dadd (own_re y1 x (FP.dadd y1 x)) y2)), .second, .val (.double (FP.dadd (FP.dadd y1 x) (FP.dadd (own_re y1 x (FP.dadd y1 x)) y2))), .second] [(.ref ri)])) _
    refine XS.iloadN X31.here hx rfl (hb hby d4_52) rfl ?_
    show Steps p.tables e below (T31.setTop (mkF m 53 #[.val (.ref a1), .val (.int i), .val (.ref o1), .val (.int j), .val (.double x), .second, .val (.double y1), .second, .val (.double (FP.dadd y1 x)), .second, .val (.double (FP.dadd (own_re y1 x (FP.dadd y1 x)) y2)), .second, .val (.double (FP.dadd (FP.dadd y1 x) (FP.dadd (own_re y1 x (FP.dadd y1 x)) y2))), .second] [(.int i), (.ref ri)])) _
    refine XS.dload X31.here hx rfl (hb hby d4_53) rfl ?_
    show Steps p.tables e below (T31.setTop (mkF m 55 #[.val (.ref a1), .val (.int i), .val (.ref o1), .val (.int j), .val (.double x), .second, .val (.double y1), .second, .val (.double (FP.dadd y1 x)), .second, .val (.double (FP.dadd (own_re y1 x (FP.dadd y1 x)) y2)), .second, .val (.double (FP.dadd (FP.dadd y1 x) (FP.dadd (own_re y1 x (FP.dadd y1 x)) y2))), .second] [(.double (FP.dadd y1 x)), (.int i), (.ref ri)])) _
    refine XS.dload X31.here hx rfl (hb hby d4_55) rfl ?_
    show Steps p.tables e below (T31.setTop (mkF m 57 #[.val (.ref a1), .val (.int i), .val (.ref o1), .val (.int j), .val (.double x), .second, .val (.double y1), .second, .val (.double (FP.dadd y1 x)), .second, .val (.double (FP.dadd (own_re y1 x (FP.dadd y1 x)) y2)), .second, .val (.double (FP.dadd (FP.dadd y1 x) (FP.dadd (own_re y1 x (FP.dadd y1 x)) y2))), .second] [(.double (FP.dadd (own_re y1 x (FP.dadd y1 x)) y2)), (.double (FP.dadd y1 x)), (.int i), (.ref ri)])) _
    refine XS.dload X31.here hx rfl (hb hby d4_57) rfl ?_
    exact k
  obtain ⟨_, _, ⟨T33, L33, k33, n33⟩, -, X33, ⟨Lc33, hQ33, l33, y33, z33⟩, st33⟩ := Jvm.LawKit.callS X31 hx (y := (⟨"com/example/coverline/coverline/Instants", "roundingError", "(DDD)D"⟩ : MethodName)) hown (mvT hZ (hw _ (List.mem_of_getElem? (i := 25) rfl))) (mvT hZ (hw _ (List.mem_of_getElem? (i := 26) rfl))) (mvT hZ (hw _ (List.mem_of_getElem? (i := 2) rfl))) (mvT hZ (hw _ (List.mem_of_getElem? (i := 27) rfl))) (by decide) (backOf (W := 2) (rm5 l Z a0 hw [] (FP.dadd y1 x) (FP.dadd (own_re y1 x (FP.dadd y1 x)) y2) (FP.dadd (FP.dadd y1 x) (FP.dadd (own_re y1 x (FP.dadd y1 x)) y2)) h29 n0 Z1 nn2) hZ (hw _ (List.mem_of_getElem? (i := 27) rfl)) (hw _ (List.mem_of_getElem? (i := 2) rfl)) (by decide) (by decide)) (g := (mkF m 59 #[.val (.ref a1), .val (.int i), .val (.ref o1), .val (.int j), .val (.double x), .second, .val (.double y1), .second, .val (.double (FP.dadd y1 x)), .second, .val (.double (FP.dadd (own_re y1 x (FP.dadd y1 x)) y2)), .second, .val (.double (FP.dadd (FP.dadd y1 x) (FP.dadd (own_re y1 x (FP.dadd y1 x)) y2))), .second] [(.double (FP.dadd (FP.dadd y1 x) (FP.dadd (own_re y1 x (FP.dadd y1 x)) y2))), (.double (FP.dadd (own_re y1 x (FP.dadd y1 x)) y2)), (.double (FP.dadd y1 x)), (.int i), (.ref ri)])) rfl (by rw [hml]; rfl) (argsL := [(.double (FP.dadd y1 x)), (.double (FP.dadd (own_re y1 x (FP.dadd y1 x)) y2)), (.double (FP.dadd (FP.dadd y1 x) (FP.dadd (own_re y1 x (FP.dadd y1 x)) y2)))]) (rest := [(.int i), (.ref ri)]) (lenOf pd0 rfl) rfl (by show 2 * 0 + _ ≤ _; exact Nat.le_of_eq rfl) (hb hby d4_59) (fun _ _ => ⟨rfl, e31, (by decide : 0 + 0 ≤ _), (by decide : 0 + 0 ≤ _)⟩)
  dsimp only [Pt.U, Pt.locs, Pt.cells, Pt.slots] at X33 l33 y33 z33 st33 hQ33
  subst l33 y33 z33
  obtain ⟨rfl, N33q, q33⟩ := hQ33
  have N33 := Fr.app N29 N33q
  have C33 : ∀ t, Steps p.tables e below (T33.setTop (mkF m 62 #[.val (.ref a1), .val (.int i), .val (.ref o1), .val (.int j), .val (.double x), .second, .val (.double y1), .second, .val (.double (FP.dadd y1 x)), .second, .val (.double (FP.dadd (own_re y1 x (FP.dadd y1 x)) y2)), .second, .val (.double (FP.dadd (FP.dadd y1 x) (FP.dadd (own_re y1 x (FP.dadd y1 x)) y2))), .second] [(.double (own_re (FP.dadd y1 x) (FP.dadd (own_re y1 x (FP.dadd y1 x)) y2) (FP.dadd (FP.dadd y1 x) (FP.dadd (own_re y1 x (FP.dadd y1 x)) y2)))), (.int i), (.ref ri)])) t → Steps p.tables e below (s₁.setTop (entryFrame m #[(.ref a1), (.int i), (.ref o1), (.int j), (.double x)] 14)) t := fun t k => C32 t (st33 t k)
  obtain ⟨c34, A34, S34, V34⟩ := id Arx
  obtain ⟨T34, h34, X34, e34, W34, st34⟩ := stD X33 hx hZ q33 A34 (j := i) (own_in hi S34) (g := (mkF m 62 #[.val (.ref a1), .val (.int i), .val (.ref o1), .val (.int j), .val (.double x), .second, .val (.double y1), .second, .val (.double (FP.dadd y1 x)), .second, .val (.double (FP.dadd (own_re y1 x (FP.dadd y1 x)) y2)), .second, .val (.double (FP.dadd (FP.dadd y1 x) (FP.dadd (own_re y1 x (FP.dadd y1 x)) y2))), .second] [(.double (own_re (FP.dadd y1 x) (FP.dadd (own_re y1 x (FP.dadd y1 x)) y2) (FP.dadd (FP.dadd y1 x) (FP.dadd (own_re y1 x (FP.dadd y1 x)) y2)))), (.int i), (.ref ri)])) rfl rfl (hb hby d4_62)
  have N34 := Fr.snoc X34 N33 gr
  have C34 : ∀ t, Steps p.tables e below (T34.setTop (mkF m 63 #[.val (.ref a1), .val (.int i), .val (.ref o1), .val (.int j), .val (.double x), .second, .val (.double y1), .second, .val (.double (FP.dadd y1 x)), .second, .val (.double (FP.dadd (own_re y1 x (FP.dadd y1 x)) y2)), .second, .val (.double (FP.dadd (FP.dadd y1 x) (FP.dadd (own_re y1 x (FP.dadd y1 x)) y2))), .second] [])) t → Steps p.tables e below (s₁.setTop (entryFrame m #[(.ref a1), (.int i), (.ref o1), (.int j), (.double x)] 14)) t := fun t k => C33 t (st34 t k)
  have I2 : OwnI Z h34 a1 ti ri n (own_upd f i (FP.dadd (FP.dadd y1 x) (FP.dadd (own_re y1 x (FP.dadd y1 x)) y2))) (own_upd g i (own_re (FP.dadd y1 x) (FP.dadd (own_re y1 x (FP.dadd y1 x)) y2) (FP.dadd (FP.dadd y1 x) (FP.dadd (own_re y1 x (FP.dadd y1 x)) y2)))) := ⟨E1x.wr W34, F1x.other W34 (Or.inl at2), F2x.other W34 (Or.inl at2), Atx.other W34 tr, Arx.setD W34, tr⟩
  have K : Keep h0 h34 [ti, ri] := K1.wr W34 (Or.inl (List.mem_of_getElem? (i := 1) rfl))
  obtain ⟨fs, hr, hrun, hended, hW, hsame⟩ := X34.leave (v := none) (fun _ => rfl)
  refine ⟨_, _, C34 _ ?_, hrun, hended, _, _, rfl, ?_, ⟨_, rfl⟩, hW, hsame.mono (by decide) (by decide)⟩
  · show Steps p.tables e below (T34.setTop (mkF m 63 #[.val (.ref a1), .val (.int i), .val (.ref o1), .val (.int j), .val (.double x), .second, .val (.double y1), .second, .val (.double (FP.dadd y1 x)), .second, .val (.double (FP.dadd (own_re y1 x (FP.dadd y1 x)) y2)), .second, .val (.double (FP.dadd (FP.dadd y1 x) (FP.dadd (own_re y1 x (FP.dadd y1 x)) y2))), .second] [])) _
    exact X34.returnOut hx Bd.returns (hb hby d4_63) hr
  · show Q3 Z a1 ti ri n (own_upd f i (FP.dadd (FP.dadd y1 x) (FP.dadd (own_re y1 x (FP.dadd y1 x)) y2))) (own_upd g i (own_re (FP.dadd y1 x) (FP.dadd (own_re y1 x (FP.dadd y1 x)) y2) (FP.dadd (FP.dadd y1 x) (FP.dadd (own_re y1 x (FP.dadd y1 x)) y2)))) h0 n0 _ T34.heap _
    rw [e34]
    exact ⟨rfl, N34, I2, K⟩
def Q6 (Z : State) (z1 u1 z2 u2 : UInt64) (h0 : Heap) (n0 : Nat) (v : Option Value) (h : Heap) (L : List Loc) : Prop := v = some (.double (FP.dadd (FP.dsub z1 u1) (FP.dsub z2 u2))) ∧ Fr n0 L ∧ h = h0
theorem ef6 (m : MethodId) (x0 : Addr) (x1 : Int32) (x2 : Addr) (x3 : Int32) : entryFrame m #[(.ref x0), (.int x1), (.ref x2), (.int x3)] 4 = mkF m 0 #[.val (.ref x0), .val (.int x1), .val (.ref x2), .val (.int x3)] [] := by first | (simp [entryFrame, mkF, argsToLocals, Value.category]; done) | rfl
theorem d6_0 : decode prog_33_method_7_code 0 = .ok (.aload_n 2, 1) := by decide +kernel
theorem d6_1 : decode prog_33_method_7_code 1 = .ok (.getfield 7, 3) := by decide +kernel
theorem d6_4 : decode prog_33_method_7_code 4 = .ok (.iload_n 3, 1) := by decide +kernel
theorem d6_5 : decode prog_33_method_7_code 5 = .ok (.daload, 1) := by decide +kernel
theorem d6_6 : decode prog_33_method_7_code 6 = .ok (.aload_n 0, 1) := by decide +kernel
theorem d6_7 : decode prog_33_method_7_code 7 = .ok (.getfield 7, 3) := by decide +kernel
theorem d6_10 : decode prog_33_method_7_code 10 = .ok (.iload_n 1, 1) := by decide +kernel
theorem d6_11 : decode prog_33_method_7_code 11 = .ok (.daload, 1) := by decide +kernel
theorem d6_12 : decode prog_33_method_7_code 12 = .ok (.dsub, 1) := by decide +kernel
theorem d6_13 : decode prog_33_method_7_code 13 = .ok (.aload_n 2, 1) := by decide +kernel
theorem d6_14 : decode prog_33_method_7_code 14 = .ok (.getfield 13, 3) := by decide +kernel
theorem d6_17 : decode prog_33_method_7_code 17 = .ok (.iload_n 3, 1) := by decide +kernel
theorem d6_18 : decode prog_33_method_7_code 18 = .ok (.daload, 1) := by decide +kernel
theorem d6_19 : decode prog_33_method_7_code 19 = .ok (.aload_n 0, 1) := by decide +kernel
theorem d6_20 : decode prog_33_method_7_code 20 = .ok (.getfield 13, 3) := by decide +kernel
theorem d6_23 : decode prog_33_method_7_code 23 = .ok (.iload_n 1, 1) := by decide +kernel
theorem d6_24 : decode prog_33_method_7_code 24 = .ok (.daload, 1) := by decide +kernel
theorem d6_25 : decode prog_33_method_7_code 25 = .ok (.dsub, 1) := by decide +kernel
theorem d6_26 : decode prog_33_method_7_code 26 = .ok (.dadd, 1) := by decide +kernel
theorem d6_27 : decode prog_33_method_7_code 27 = .ok (.dreturn, 1) := by decide +kernel
set_option maxRecDepth 65536 in
set_option maxHeartbeats 40000000 in
theorem rm6 (l : Launch) (Z : State) (a0 : Array Value) (hw : ∀ d ∈ tables_1, d.before a0 Z = true) (ws : List Jvm.Cond) (a1 : Addr) (i : Int32) (o1 : Addr) (j : Int32) (ti ri ti' ri' : Addr) (n n' : Nat) (f g f' g' : Nat → UInt64) (z1 u1 z2 u2 : UInt64) (h0 : Heap) (n0 : Nat) (Z0 : n0 ≤ h0.size) (I : OwnI Z h0 a1 ti ri n f g) (J : OwnI Z h0 o1 ti' ri' n' f' g') (hi : ¬ i < 0 ∧ i.toNatClampNeg < n) (hj : ¬ j < 0 ∧ j.toNatClampNeg < n') (hz1 : f' j.toNatClampNeg = z1) (hu1 : f i.toNatClampNeg = u1) (hz2 : g' j.toNatClampNeg = z2) (hu2 : g i.toNatClampNeg = u2) (m1 : Jvm.Free.Fl.NoNaN64 (FP.dsub z1 u1)) (m2 : Jvm.Free.Fl.NoNaN64 (FP.dsub z2 u2)) (m3 : Jvm.Free.Fl.NoNaN64 (FP.dadd (FP.dsub z1 u1) (FP.dsub z2 u2))) :
    MetFree l (⟨"com/example/coverline/coverline/Instants", "timeTo", "(ILcom/example/coverline/coverline/Instants;I)D"⟩ : MethodName) (head1 (Jvm.Cond.code (⟨"com/example/coverline/coverline/Instants", "timeTo", "(ILcom/example/coverline/coverline/Instants;I)D"⟩ : MethodName) prog_33_method_7_code 4 (some .double) :: ws) ({ frames := 0, cells := 0, slots := 0, locals := 0 } : Room)) (fun a U => a = #[(.ref a1), (.int i), (.ref o1), (.int j)] ∧ Z.Warmed39 U.vm ∧ U.heap = h0) (fun _ _ _ _ _ => True) (fun _ U o U' => ∃ v L, o = .returned v ∧ Q6 Z z1 u1 z2 u2 h0 n0 v U'.heap L ∧ FrameEnd U o U' L ({ frames := 0, cells := 0, slots := 0, locals := 0 } : Room).cells ({ frames := 0, cells := 0, slots := 0, locals := 0 } : Room).slots) := by
  refine MetFree.of_bodySF (plainFor_of_name pn0) hisR ?_
  intro p e s m args below meth c s₁ Bd hml0 hP hK
  obtain ⟨rfl, hZ, hh⟩ := hP
  have hx := Bd.exec
  have hby := Bd.bytes
  have hml : c.maxLocals = 4 := hml0
  have hown : s.vm.findClass "com/example/coverline/coverline/Instants" = some m.cls := findClass_of_methodNamed Bd.named
  have hnm := (name_of_methodNamed Bd.named Bd.method).1
  have X0 : Stand p l e ({ frames := 0, cells := 0, slots := 0, locals := 0 } : Room) s m #[(.ref a1), (.int i), (.ref o1), (.int j)] below meth c s₁ [] 0 0 := Stand.of_body Bd
  have e0 : s₁.heap = h0 := by rw [← hh, Bd.state]; rfl
  have N0 := Fr.nil n0
  have pre0 : ∀ t, Steps p.tables e below (s₁.setTop (mkF m 0 #[.val (.ref a1), .val (.int i), .val (.ref o1), .val (.int j)] [])) t → Steps p.tables e below (s₁.setTop (entryFrame m #[(.ref a1), (.int i), (.ref o1), (.int j)] 4)) t := fun t k => castTop (ef6 m a1 i o1 j) k
  obtain ⟨E1, F1, F2, At, Ar, -⟩ := I
  obtain ⟨G0, G1, G2, Bt, Br, -⟩ := J
  have C35 : ∀ t, Steps p.tables e below (s₁.setTop (mkF m 1 #[.val (.ref a1), .val (.int i), .val (.ref o1), .val (.int j)] [(.ref o1)])) t → Steps p.tables e below (s₁.setTop (entryFrame m #[(.ref a1), (.int i), (.ref o1), (.int j)] 4)) t := by
    intro t k
    refine pre0 t ?_
    show Steps p.tables e below (s₁.setTop (mkF m 0 #[.val (.ref a1), .val (.int i), .val (.ref o1), .val (.int j)] [])) _
    refine XS.aloadN X0.here hx rfl (hb hby d6_0) rfl rfl ?_
    exact k
  obtain ⟨T36, X36, e36, st36⟩ := getF X0 hx hZ hown (host := "") (Or.inl (hw _ (List.mem_of_getElem? (i := 10) rfl))) Via.refl e0 G1 (g := (mkF m 1 #[.val (.ref a1), .val (.int i), .val (.ref o1), .val (.int j)] [(.ref o1)])) rfl rfl (hb hby d6_1)
  have C36 : ∀ t, Steps p.tables e below (T36.setTop (mkF m 4 #[.val (.ref a1), .val (.int i), .val (.ref o1), .val (.int j)] [(.ref ti')])) t → Steps p.tables e below (s₁.setTop (entryFrame m #[(.ref a1), (.int i), (.ref o1), (.int j)] 4)) t := fun t k => C35 t (st36 t k)
  obtain ⟨c37, A37, S37, V37⟩ := id Bt
  have C38 : ∀ t, Steps p.tables e below (T36.setTop (mkF m 7 #[.val (.ref a1), .val (.int i), .val (.ref o1), .val (.int j)] [(.ref a1), (.double z1)])) t → Steps p.tables e below (s₁.setTop (entryFrame m #[(.ref a1), (.int i), (.ref o1), (.int j)] 4)) t := by
    intro t k
    refine C36 t ?_
    show Steps p.tables e below (T36.setTop (mkF m 4 #[.val (.ref a1), .val (.int i), .val (.ref o1), .val (.int j)] [(.ref ti')])) _
    refine XS.iloadN X36.here hx rfl (hb hby d6_4) rfl ?_
    show Steps p.tables e below (T36.setTop (mkF m 5 #[.val (.ref a1), .val (.int i), .val (.ref o1), .val (.int j)] [(.int j), (.ref ti')])) _
    refine X36.daload hx (j := j) (v := (.double z1)) (by rw [e36]; exact A37.1) (State.isArrayOf_alike hZ.alike A37.2.1) A37.2.2 (own_in hj S37) ((by rw [V37 _ hj.2]; exact congrArg (fun z => some (Value.double z)) hz1)) (g := (mkF m 5 #[.val (.ref a1), .val (.int i), .val (.ref o1), .val (.int j)] [(.int j), (.ref ti')])) rfl rfl (hb hby d6_5) _ ?_
    show Steps p.tables e below (T36.setTop (mkF m 6 #[.val (.ref a1), .val (.int i), .val (.ref o1), .val (.int j)] [(.double z1)])) _
    refine XS.aloadN X36.here hx rfl (hb hby d6_6) rfl rfl ?_
    exact k
  obtain ⟨T39, X39, e39, st39⟩ := getF X36 hx hZ hown (host := "") (Or.inl (hw _ (List.mem_of_getElem? (i := 10) rfl))) Via.refl e36 F1 (g := (mkF m 7 #[.val (.ref a1), .val (.int i), .val (.ref o1), .val (.int j)] [(.ref a1), (.double z1)])) rfl rfl (hb hby d6_7)
  have C39 : ∀ t, Steps p.tables e below (T39.setTop (mkF m 10 #[.val (.ref a1), .val (.int i), .val (.ref o1), .val (.int j)] [(.ref ti), (.double z1)])) t → Steps p.tables e below (s₁.setTop (entryFrame m #[(.ref a1), (.int i), (.ref o1), (.int j)] 4)) t := fun t k => C38 t (st39 t k)
  obtain ⟨c40, A40, S40, V40⟩ := id At
  have C41 : ∀ t, Steps p.tables e below (T39.setTop (mkF m 14 #[.val (.ref a1), .val (.int i), .val (.ref o1), .val (.int j)] [(.ref o1), (.double (FP.dsub z1 u1))])) t → Steps p.tables e below (s₁.setTop (entryFrame m #[(.ref a1), (.int i), (.ref o1), (.int j)] 4)) t := by
    intro t k
    refine C39 t ?_
    show Steps p.tables e below (T39.setTop (mkF m 10 #[.val (.ref a1), .val (.int i), .val (.ref o1), .val (.int j)] [(.ref ti), (.double z1)])) _
    refine XS.iloadN X39.here hx rfl (hb hby d6_10) rfl ?_
    show Steps p.tables e below (T39.setTop (mkF m 11 #[.val (.ref a1), .val (.int i), .val (.ref o1), .val (.int j)] [(.int i), (.ref ti), (.double z1)])) _
    refine X39.daload hx (j := i) (v := (.double u1)) (by rw [e39]; exact A40.1) (State.isArrayOf_alike hZ.alike A40.2.1) A40.2.2 (own_in hi S40) ((by rw [V40 _ hi.2]; exact congrArg (fun z => some (Value.double z)) hu1)) (g := (mkF m 11 #[.val (.ref a1), .val (.int i), .val (.ref o1), .val (.int j)] [(.int i), (.ref ti), (.double z1)])) rfl rfl (hb hby d6_11) _ ?_
    show Steps p.tables e below (T39.setTop (mkF m 12 #[.val (.ref a1), .val (.int i), .val (.ref o1), .val (.int j)] [(.double u1), (.double z1)])) _
    refine XS.dsubS X39.here hx rfl (hb hby d6_12) rfl m1 rfl ?_
    show Steps p.tables e below (T39.setTop (mkF m 13 #[.val (.ref a1), .val (.int i), .val (.ref o1), .val (.int j)] [(.double (FP.dsub z1 u1))])) _
    refine XS.aloadN X39.here hx rfl (hb hby d6_13) rfl rfl ?_
    exact k
  obtain ⟨T42, X42, e42, st42⟩ := getF X39 hx hZ hown (host := "") (Or.inl (hw _ (List.mem_of_getElem? (i := 12) rfl))) Via.refl e39 G2 (g := (mkF m 14 #[.val (.ref a1), .val (.int i), .val (.ref o1), .val (.int j)] [(.ref o1), (.double (FP.dsub z1 u1))])) rfl rfl (hb hby d6_14)
  have C42 : ∀ t, Steps p.tables e below (T42.setTop (mkF m 17 #[.val (.ref a1), .val (.int i), .val (.ref o1), .val (.int j)] [(.ref ri'), (.double (FP.dsub z1 u1))])) t → Steps p.tables e below (s₁.setTop (entryFrame m #[(.ref a1), (.int i), (.ref o1), (.int j)] 4)) t := fun t k => C41 t (st42 t k)
  obtain ⟨c43, A43, S43, V43⟩ := id Br
  have C44 : ∀ t, Steps p.tables e below (T42.setTop (mkF m 20 #[.val (.ref a1), .val (.int i), .val (.ref o1), .val (.int j)] [(.ref a1), (.double z2), (.double (FP.dsub z1 u1))])) t → Steps p.tables e below (s₁.setTop (entryFrame m #[(.ref a1), (.int i), (.ref o1), (.int j)] 4)) t := by
    intro t k
    refine C42 t ?_
    show Steps p.tables e below (T42.setTop (mkF m 17 #[.val (.ref a1), .val (.int i), .val (.ref o1), .val (.int j)] [(.ref ri'), (.double (FP.dsub z1 u1))])) _
    refine XS.iloadN X42.here hx rfl (hb hby d6_17) rfl ?_
    show Steps p.tables e below (T42.setTop (mkF m 18 #[.val (.ref a1), .val (.int i), .val (.ref o1), .val (.int j)] [(.int j), (.ref ri'), (.double (FP.dsub z1 u1))])) _
    refine X42.daload hx (j := j) (v := (.double z2)) (by rw [e42]; exact A43.1) (State.isArrayOf_alike hZ.alike A43.2.1) A43.2.2 (own_in hj S43) ((by rw [V43 _ hj.2]; exact congrArg (fun z => some (Value.double z)) hz2)) (g := (mkF m 18 #[.val (.ref a1), .val (.int i), .val (.ref o1), .val (.int j)] [(.int j), (.ref ri'), (.double (FP.dsub z1 u1))])) rfl rfl (hb hby d6_18) _ ?_
    show Steps p.tables e below (T42.setTop (mkF m 19 #[.val (.ref a1), .val (.int i), .val (.ref o1), .val (.int j)] [(.double z2), (.double (FP.dsub z1 u1))])) _
    refine XS.aloadN X42.here hx rfl (hb hby d6_19) rfl rfl ?_
    exact k
  obtain ⟨T45, X45, e45, st45⟩ := getF X42 hx hZ hown (host := "") (Or.inl (hw _ (List.mem_of_getElem? (i := 12) rfl))) Via.refl e42 F2 (g := (mkF m 20 #[.val (.ref a1), .val (.int i), .val (.ref o1), .val (.int j)] [(.ref a1), (.double z2), (.double (FP.dsub z1 u1))])) rfl rfl (hb hby d6_20)
  have C45 : ∀ t, Steps p.tables e below (T45.setTop (mkF m 23 #[.val (.ref a1), .val (.int i), .val (.ref o1), .val (.int j)] [(.ref ri), (.double z2), (.double (FP.dsub z1 u1))])) t → Steps p.tables e below (s₁.setTop (entryFrame m #[(.ref a1), (.int i), (.ref o1), (.int j)] 4)) t := fun t k => C44 t (st45 t k)
  obtain ⟨c46, A46, S46, V46⟩ := id Ar
  have C47 : ∀ t, Steps p.tables e below (T45.setTop (mkF m 27 #[.val (.ref a1), .val (.int i), .val (.ref o1), .val (.int j)] [(.double (FP.dadd (FP.dsub z1 u1) (FP.dsub z2 u2)))])) t → Steps p.tables e below (s₁.setTop (entryFrame m #[(.ref a1), (.int i), (.ref o1), (.int j)] 4)) t := by
    intro t k
    refine C45 t ?_
    show Steps p.tables e below (T45.setTop (mkF m 23 #[.val (.ref a1), .val (.int i), .val (.ref o1), .val (.int j)] [(.ref ri), (.double z2), (.double (FP.dsub z1 u1))])) _
    refine XS.iloadN X45.here hx rfl (hb hby d6_23) rfl ?_
    show Steps p.tables e below (T45.setTop (mkF m 24 #[.val (.ref a1), .val (.int i), .val (.ref o1), .val (.int j)] [(.int i), (.ref ri), (.double z2), (.double (FP.dsub z1 u1))])) _
    refine X45.daload hx (j := i) (v := (.double u2)) (by rw [e45]; exact A46.1) (State.isArrayOf_alike hZ.alike A46.2.1) A46.2.2 (own_in hi S46) ((by rw [V46 _ hi.2]; exact congrArg (fun z => some (Value.double z)) hu2)) (g := (mkF m 24 #[.val (.ref a1), .val (.int i), .val (.ref o1), .val (.int j)] [(.int i), (.ref ri), (.double z2), (.double (FP.dsub z1 u1))])) rfl rfl (hb hby d6_24) _ ?_
    show Steps p.tables e below (T45.setTop (mkF m 25 #[.val (.ref a1), .val (.int i), .val (.ref o1), .val (.int j)] [(.double u2), (.double z2), (.double (FP.dsub z1 u1))])) _
    refine XS.dsubS X45.here hx rfl (hb hby d6_25) rfl m2 rfl ?_
    show Steps p.tables e below (T45.setTop (mkF m 26 #[.val (.ref a1), .val (.int i), .val (.ref o1), .val (.int j)] [(.double (FP.dsub z2 u2)), (.double (FP.dsub z1 u1))])) _
    refine XS.daddS X45.here hx rfl (hb hby d6_26) rfl m3 rfl ?_
    exact k
  obtain ⟨fs, hr, hrun, hended, hW, hsame⟩ := X45.leave (v := some (.double (FP.dadd (FP.dsub z1 u1) (FP.dsub z2 u2)))) (fun h => by rw [Bd.returns] at h; cases h)
  refine ⟨_, _, C47 _ ?_, hrun, hended, _, _, rfl, ?_, ⟨_, rfl⟩, hW, hsame.mono (by decide) (by decide)⟩
  · show Steps p.tables e below (T45.setTop (mkF m 27 #[.val (.ref a1), .val (.int i), .val (.ref o1), .val (.int j)] [(.double (FP.dadd (FP.dsub z1 u1) (FP.dsub z2 u2)))])) _
    exact retOut X45 hx Bd.returns rfl (Or.inr (Or.inr (Or.inl ⟨rfl, rfl, _, rfl⟩))) (hb hby d6_27) hr
  · show Q6 Z z1 u1 z2 u2 h0 n0 _ T45.heap _
    rw [e45]
    exact ⟨rfl, N0, rfl⟩
def Q0 (Z : State) (p1 p2 p3 p4 : Int32) (h0 : Heap) (n0 : Nat) (v : Option Value) (h : Heap) (L : List Loc) : Prop := v = some (.int 1) ∧ Fr n0 L
theorem own_clamp {x : Int32} (h1 : 0 ≤ x.toInt) : x.toNatClampNeg = x.toInt.toNat := rfl
theorem own_nneg {x : Int32} (h1 : 0 ≤ x.toInt) : ¬ x < 0 := fun q => by rw [Int32.lt_iff_toInt_lt, show (0 : Int32).toInt = 0 from rfl] at q; omega
theorem own_bit (x : Int32) : ¬ (x &&& (1 : Int32)) < 0 ∧ (x &&& (1 : Int32)).toNatClampNeg < 2 := by
  have h := c_mask x 1 1 (by decide) (by decide)
  rw [show ((2 ^ 1 : Nat) : Int) = 2 from rfl] at h
  have h0 : 0 ≤ (x &&& (1 : Int32)).toInt := by omega
  refine ⟨own_nneg h0, ?_⟩
  rw [own_clamp h0]
  omega
theorem own_flip {i : Int32} (hi : ¬ i < 0 ∧ i.toNatClampNeg < 2) : (¬ ((1 : Int32) - i) < 0 ∧ ((1 : Int32) - i).toNatClampNeg < 2) ∧ ((1 : Int32) - i).toNatClampNeg ≠ i.toNatClampNeg := by
  have h1 : 0 ≤ i.toInt := by
    have := hi.1
    rw [Int32.lt_iff_toInt_lt, show (0 : Int32).toInt = 0 from rfl] at this
    omega
  have h2 := hi.2
  rw [own_clamp h1] at h2
  have h3 := c_isub 1 i
  rw [show (1 : Int32).toInt = 1 from rfl] at h3
  have t1 := ((1 : Int32) - i).toInt_lt
  have t2 := ((1 : Int32) - i).le_toInt
  have h4 : ((1 : Int32) - i).toInt = 1 - i.toInt := by omega
  have h5 : 0 ≤ ((1 : Int32) - i).toInt := by omega
  refine ⟨⟨own_nneg h5, ?_⟩, ?_⟩
  · rw [own_clamp h5]; omega
  · rw [own_clamp h5, own_clamp h1]; omega
theorem own_sh (x : Int32) : -524288 ≤ (x >>> ((12 : Int32) &&& 31)).toInt ∧ (x >>> ((12 : Int32) &&& 31)).toInt ≤ 524287 := by
  have h := c_ishr x 12 12 (by decide)
  rw [show ((2 ^ 12 : Nat) : Int) = 4096 from rfl] at h
  have t1 := x.toInt_lt
  have t2 := x.le_toInt
  omega
theorem own_lawA (a b : Int32) : Jvm.Free.Fl.NoNaN64 (FP.dsub (FP.i2d b) (FP.i2d a)) ∧ Jvm.Free.Fl.NoNaN64 (FP.dsub 0 0) ∧ Jvm.Free.Fl.NoNaN64 (FP.dadd (FP.dsub (FP.i2d b) (FP.i2d a)) (FP.dsub 0 0)) ∧
    cmpValue (FP.dcmp (FP.dadd (FP.dsub (FP.i2d b) (FP.i2d a)) (FP.dsub 0 0)) (FP.l2d ((b.toInt64) - (a.toInt64)))) .l = 0 := by
  have a1 := a.toInt_lt
  have a2 := a.le_toInt
  have b1 := b.toInt_lt
  have b2 := b.le_toInt
  have d1 := (own_w_i2d b).subS (own_w_i2d a) (by omega)
  have d2 := own_w_zero.subS own_w_zero (by decide)
  have d3 := d1.addS d2 (by omega)
  have h := c_lsub b.toInt64 a.toInt64
  rw [c_i2l, c_i2l] at h
  have t1 := (b.toInt64 - a.toInt64).toInt_lt
  have t2 := (b.toInt64 - a.toInt64).le_toInt
  have h2 : (b.toInt64 - a.toInt64).toInt = b.toInt - a.toInt := by omega
  have d4 := own_w_l2d (v := b.toInt64 - a.toInt64) (by rw [h2]; omega)
  rw [h2] at d4
  exact ⟨d1.nn, d2.nn, d3.nn, (d3.cast (show b.toInt - a.toInt + (0 - 0) = b.toInt - a.toInt by omega)).eq0 d4 .l⟩
theorem own_lawB {ta tb ra rb : UInt64} {ia ib be : Int} {da db : Int32} (va6 : OwnW ta ia) (va7 : (ia - be).natAbs ≤ 2 ^ 40) (va8 : OwnW ra (be + da.toInt - ia)) (vb6 : OwnW tb ib) (vb7 : (ib - be).natAbs ≤ 2 ^ 40) (vb8 : OwnW rb (be + db.toInt - ib)) (hda : -524288 ≤ da.toInt ∧ da.toInt ≤ 524287) (hdb : -524288 ≤ db.toInt ∧ db.toInt ≤ 524287) :
    Jvm.Free.Fl.NoNaN64 (FP.dsub tb ta) ∧ Jvm.Free.Fl.NoNaN64 (FP.dsub rb ra) ∧ Jvm.Free.Fl.NoNaN64 (FP.dadd (FP.dsub tb ta) (FP.dsub rb ra)) ∧ cmpValue (FP.dcmp (FP.dadd (FP.dsub tb ta) (FP.dsub rb ra)) (FP.i2d (db - da))) .l = 0 := by
  have d1 := vb6.subS va6 (by omega)
  have d2 := vb8.subS va8 (by omega)
  have d3 := d1.addS d2 (by omega)
  have h := c_isub db da
  have t1 := (db - da).toInt_lt
  have t2 := (db - da).le_toInt
  have h2 : (db - da).toInt = db.toInt - da.toInt := by omega
  have d4 := own_w_i2d (db - da)
  rw [h2] at d4
  exact ⟨d1.nn, d2.nn, d3.nn, (d3.cast (by omega)).eq0 d4 .l⟩
theorem pd1 : parseMethodDescriptor "(I)V" = some ⟨[.int], none⟩ := by decide +kernel
theorem pd2 : parseMethodDescriptor "(ID)V" = some ⟨[.int, .double], none⟩ := by decide +kernel
theorem pd3 : parseMethodDescriptor "(ILcom/example/coverline/coverline/Instants;I)D" = some ⟨[.int, (.object "com/example/coverline/coverline/Instants"), .int], some .double⟩ := by decide +kernel
theorem pn1 : plainName "com/example/coverline/coverline/InstantsTimeToPinLaw" = true := by first | (simp [plainName, overriddenIn]; done) | decide +kernel
theorem ef0 (m : MethodId) (x0 : Int32) (x1 : Int32) (x2 : Int32) (x3 : Int32) : entryFrame m #[(.int x0), (.int x1), (.int x2), (.int x3)] maxLocals = mkF m 0 #[.val (.int x0), .val (.int x1), .val (.int x2), .val (.int x3), .unset, .unset, .unset, .unset, .unset, .unset, .unset, .unset, .unset, .unset, .unset, .unset, .unset] [] := by first | (simp [entryFrame, mkF, argsToLocals, Value.category, maxLocals]; done) | rfl
set_option maxRecDepth 65536 in
set_option maxHeartbeats 40000000 in
theorem rm0_11 (l : Launch) (Z : State) (a0 : Array Value) (hw : ∀ d ∈ tables_1, d.before a0 Z = true) (ws : List Jvm.Cond) (p1 p2 p3 p4 : Int32) (h0 : Heap) (n0 : Nat) (Z0 : n0 ≤ h0.size) (hsame : ¬ (p4 &&& (4 : Int32)) = 0) (hmode : (p3 &&& (3 : Int32)) = 0) :
    MetFree l x (head1 (Jvm.Cond.code x code maxLocals ret :: ws) room_1) (fun a U => a = #[(.int p1), (.int p2), (.int p3), (.int p4)] ∧ Z.Warmed39 U.vm ∧ U.heap = h0) (fun _ _ _ _ _ => True) (fun _ U o U' => ∃ v L, o = .returned v ∧ Q0 Z p1 p2 p3 p4 h0 n0 v U'.heap L ∧ FrameEnd U o U' L room_1.cells room_1.slots) := by
  refine MetFree.of_bodySF (plainFor_of_name pn1) hisR ?_
  intro p e s m args below meth c s₁ Bd hml0 hP hK
  obtain ⟨rfl, hZ, hh⟩ := hP
  have hx := Bd.exec
  have hby := Bd.bytes
  have hml : c.maxLocals = 17 := hml0
  have hown : s.vm.findClass "com/example/coverline/coverline/InstantsTimeToPinLaw" = some m.cls := findClass_of_methodNamed Bd.named
  have hnm := (name_of_methodNamed Bd.named Bd.method).1
  have X0 : Stand p l e room_1 s m #[(.int p1), (.int p2), (.int p3), (.int p4)] below meth c s₁ [] 0 0 := Stand.of_body Bd
  have e0 : s₁.heap = h0 := by rw [← hh, Bd.state]; rfl
  have N0 := Fr.nil n0
  have pre0 : ∀ t, Steps p.tables e below (s₁.setTop (mkF m 0 #[.val (.int p1), .val (.int p2), .val (.int p3), .val (.int p4), .unset, .unset, .unset, .unset, .unset, .unset, .unset, .unset, .unset, .unset, .unset, .unset, .unset] [])) t → Steps p.tables e below (s₁.setTop (entryFrame m #[(.int p1), (.int p2), (.int p3), (.int p4)] maxLocals)) t := fun t k => castTop (ef0 m p1 p2 p3 p4) k
  have C48 : ∀ t, Steps p.tables e below (s₁.setTop (mkF m 8 #[.val (.int p1), .val (.int p2), .val (.int p3), .val (.int p4), .val (.int (p3 &&& (3 : Int32))), .unset, .unset, .unset, .unset, .unset, .unset, .unset, .unset, .unset, .unset, .unset, .unset] [(.int (p4 &&& (4 : Int32)))])) t → Steps p.tables e below (s₁.setTop (entryFrame m #[(.int p1), (.int p2), (.int p3), (.int p4)] maxLocals)) t := by
    intro t k
    refine pre0 t ?_
    show Steps p.tables e below (s₁.setTop (mkF m 0 #[.val (.int p1), .val (.int p2), .val (.int p3), .val (.int p4), .unset, .unset, .unset, .unset, .unset, .unset, .unset, .unset, .unset, .unset, .unset, .unset, .unset] [])) _
    refine XS.iloadN X0.here hx rfl (hb hby at_0) rfl ?_
    show Steps p.tables e below (s₁.setTop (mkF m 1 #[.val (.int p1), .val (.int p2), .val (.int p3), .val (.int p4), .unset, .unset, .unset, .unset, .unset, .unset, .unset, .unset, .unset, .unset, .unset, .unset, .unset] [(.int p3)])) _
    refine XS.iconst X0.here hx rfl (hb hby at_1) ?_
    show Steps p.tables e below (s₁.setTop (mkF m 2 #[.val (.int p1), .val (.int p2), .val (.int p3), .val (.int p4), .unset, .unset, .unset, .unset, .unset, .unset, .unset, .unset, .unset, .unset, .unset, .unset, .unset] [(.int (3 : Int32)), (.int p3)])) _
    refine XS.iand X0.here hx rfl (hb hby at_2) rfl ?_
    show Steps p.tables e below (s₁.setTop (mkF m 3 #[.val (.int p1), .val (.int p2), .val (.int p3), .val (.int p4), .unset, .unset, .unset, .unset, .unset, .unset, .unset, .unset, .unset, .unset, .unset, .unset, .unset] [(.int (p3 &&& (3 : Int32)))])) _
    refine XS.istore X0.here hx rfl (hb hby at_3) rfl (l' := #[.val (.int p1), .val (.int p2), .val (.int p3), .val (.int p4), .val (.int (p3 &&& (3 : Int32))), .unset, .unset, .unset, .unset, .unset, .unset, .unset, .unset, .unset, .unset, .unset, .unset]) rfl ?_
    show Steps p.tables e below (s₁.setTop (mkF m 5 #[.val (.int p1), .val (.int p2), .val (.int p3), .val (.int p4), .val (.int (p3 &&& (3 : Int32))), .unset, .unset, .unset, .unset, .unset, .unset, .unset, .unset, .unset, .unset, .unset, .unset] [])) _
    refine XS.iloadN X0.here hx rfl (hb hby at_5) rfl ?_
    show Steps p.tables e below (s₁.setTop (mkF m 6 #[.val (.int p1), .val (.int p2), .val (.int p3), .val (.int p4), .val (.int (p3 &&& (3 : Int32))), .unset, .unset, .unset, .unset, .unset, .unset, .unset, .unset, .unset, .unset, .unset, .unset] [(.int p4)])) _
    refine XS.iconst X0.here hx rfl (hb hby at_6) ?_
    show Steps p.tables e below (s₁.setTop (mkF m 7 #[.val (.int p1), .val (.int p2), .val (.int p3), .val (.int p4), .val (.int (p3 &&& (3 : Int32))), .unset, .unset, .unset, .unset, .unset, .unset, .unset, .unset, .unset, .unset, .unset, .unset] [(.int (4 : Int32)), (.int p4)])) _
    refine XS.iand X0.here hx rfl (hb hby at_7) rfl ?_
    exact k
  obtain ⟨mo, h_mo⟩ : ∃ z : Int32, z = (p3 &&& (3 : Int32)) := ⟨_, rfl⟩
  rw [← h_mo] at C48
  rw [← h_mo] at hmode
  have C49 : ∀ t, Steps p.tables e below (s₁.setTop (mkF m 18 #[.val (.int p1), .val (.int p2), .val (.int p3), .val (.int p4), .val (.int mo), .val (.int (1 : Int32)), .unset, .unset, .unset, .unset, .unset, .unset, .unset, .unset, .unset, .unset, .unset] [])) t → Steps p.tables e below (s₁.setTop (entryFrame m #[(.int p1), (.int p2), (.int p3), (.int p4)] maxLocals)) t := by
    intro t k
    refine C48 t ?_
    show Steps p.tables e below (s₁.setTop (mkF m 8 #[.val (.int p1), .val (.int p2), .val (.int p3), .val (.int p4), .val (.int mo), .unset, .unset, .unset, .unset, .unset, .unset, .unset, .unset, .unset, .unset, .unset, .unset] [(.int (p4 &&& (4 : Int32)))])) _
    refine XS.ifNo X0.here hx rfl (hb hby at_8) rfl (XT.i0_eq_f hsame) ?_
    show Steps p.tables e below (s₁.setTop (mkF m 11 #[.val (.int p1), .val (.int p2), .val (.int p3), .val (.int p4), .val (.int mo), .unset, .unset, .unset, .unset, .unset, .unset, .unset, .unset, .unset, .unset, .unset, .unset] [])) _
    refine XS.iconst X0.here hx rfl (hb hby at_11) ?_
    show Steps p.tables e below (s₁.setTop (mkF m 12 #[.val (.int p1), .val (.int p2), .val (.int p3), .val (.int p4), .val (.int mo), .unset, .unset, .unset, .unset, .unset, .unset, .unset, .unset, .unset, .unset, .unset, .unset] [(.int (1 : Int32))])) _
    refine XS.goto X0.here hx rfl (pc0 := 12) (pc' := 16) rfl (hb hby at_12) (by decide) (by decide) ?_
    show Steps p.tables e below (s₁.setTop (mkF m 16 #[.val (.int p1), .val (.int p2), .val (.int p3), .val (.int p4), .val (.int mo), .unset, .unset, .unset, .unset, .unset, .unset, .unset, .unset, .unset, .unset, .unset, .unset] [(.int (1 : Int32))])) _
    refine XS.istore X0.here hx rfl (hb hby at_16) rfl (l' := #[.val (.int p1), .val (.int p2), .val (.int p3), .val (.int p4), .val (.int mo), .val (.int (1 : Int32)), .unset, .unset, .unset, .unset, .unset, .unset, .unset, .unset, .unset, .unset, .unset]) rfl ?_
    exact k
  obtain ⟨T50, h50, X50, e50, E50, A50, D50, -, st50⟩ := newO X0 hx hZ hown (hw _ (List.mem_of_getElem? (i := 0) rfl)) (hw _ (List.mem_of_getElem? (i := 1) rfl)) (hw _ (List.mem_of_getElem? (i := 2) rfl)) e0 (g := (mkF m 18 #[.val (.int p1), .val (.int p2), .val (.int p3), .val (.int p4), .val (.int mo), .val (.int (1 : Int32)), .unset, .unset, .unset, .unset, .unset, .unset, .unset, .unset, .unset, .unset, .unset] [])) rfl (hb hby at_18) (by decide) (by decide)
  obtain ⟨b50, g50⟩ : ∃ z, z = h0.size := ⟨_, rfl⟩
  rw [← g50] at A50 D50 st50
  have C50 : ∀ t, Steps p.tables e below (T50.setTop (mkF m 21 #[.val (.int p1), .val (.int p2), .val (.int p3), .val (.int p4), .val (.int mo), .val (.int (1 : Int32)), .unset, .unset, .unset, .unset, .unset, .unset, .unset, .unset, .unset, .unset, .unset] [(.ref b50)])) t → Steps p.tables e below (s₁.setTop (entryFrame m #[(.int p1), (.int p2), (.int p3), (.int p4)] maxLocals)) t := fun t k => C49 t (st50 t k)
  have F1_50 : Fld Z h50 b50 "com/example/coverline/coverline/Instants" "times" "[D" .null := D50 (Or.inr (hw _ (List.mem_of_getElem? (i := 11) rfl))) (ty := (.array .double)) (by decide)
  have F2_50 : Fld Z h50 b50 "com/example/coverline/coverline/Instants" "remainders" "[D" .null := D50 (Or.inr (hw _ (List.mem_of_getElem? (i := 13) rfl))) (ty := (.array .double)) (by decide)
  have Zs50 : n0 ≤ h50.size := Nat.le_trans Z0 E50.1
  have gb50 : n0 ≤ b50 := Nat.le_trans Z0 (Nat.le_of_eq g50.symm)
  have C51 : ∀ t, Steps p.tables e below (T50.setTop (mkF m 23 #[.val (.int p1), .val (.int p2), .val (.int p3), .val (.int p4), .val (.int mo), .val (.int (1 : Int32)), .unset, .unset, .unset, .unset, .unset, .unset, .unset, .unset, .unset, .unset, .unset] [(.int (2 : Int32)), (.ref b50), (.ref b50)])) t → Steps p.tables e below (s₁.setTop (entryFrame m #[(.int p1), (.int p2), (.int p3), (.int p4)] maxLocals)) t := by
    intro t k
    refine C50 t ?_
    show Steps p.tables e below (T50.setTop (mkF m 21 #[.val (.int p1), .val (.int p2), .val (.int p3), .val (.int p4), .val (.int mo), .val (.int (1 : Int32)), .unset, .unset, .unset, .unset, .unset, .unset, .unset, .unset, .unset, .unset, .unset] [(.ref b50)])) _
    refine XS.dup X50.here hx rfl (hb hby at_21) rfl rfl ?_
    show Steps p.tables e below (T50.setTop (mkF m 22 #[.val (.int p1), .val (.int p2), .val (.int p3), .val (.int p4), .val (.int mo), .val (.int (1 : Int32)), .unset, .unset, .unset, .unset, .unset, .unset, .unset, .unset, .unset, .unset, .unset] [(.ref b50), (.ref b50)])) _
    refine XS.iconst X50.here hx rfl (hb hby at_22) ?_
    exact k
  obtain ⟨_, _, ⟨T52, L52, k52, n52⟩, -, X52, ⟨Lc52, hQ52, l52, y52, z52⟩, st52⟩ := X50.specialBack hx (y := (⟨"com/example/coverline/coverline/Instants", "<init>", "(I)V"⟩ : MethodName)) rfl hown (mvT hZ (hw _ (List.mem_of_getElem? (i := 3) rfl))) (mvT hZ (hw _ (List.mem_of_getElem? (i := 4) rfl))) (mvT hZ (hw _ (List.mem_of_getElem? (i := 5) rfl))) (by decide) (backOf (W := 1) (rm1 l Z a0 hw [] b50 (2 : Int32) 2 h50 n0 Zs50 F1_50 F2_50 A50 gb50 (by decide) (by decide) (by decide)) hZ (hw _ (List.mem_of_getElem? (i := 5) rfl)) (hw _ (List.mem_of_getElem? (i := 2) rfl)) (by decide) (by decide)) (g := (mkF m 23 #[.val (.int p1), .val (.int p2), .val (.int p3), .val (.int p4), .val (.int mo), .val (.int (1 : Int32)), .unset, .unset, .unset, .unset, .unset, .unset, .unset, .unset, .unset, .unset, .unset] [(.int (2 : Int32)), (.ref b50), (.ref b50)])) rfl (by rw [hml]; rfl) (Steps.refl _) (a := b50) (argsL := [(.int (2 : Int32))]) (rest := [(.ref b50)]) (lenOf pd1 rfl) rfl (by show 2 * 0 + _ ≤ _; exact Nat.le_of_eq rfl) (hb hby at_23) (fun _ _ => ⟨rfl, e50, (by decide : 1 + 2 ≤ _), (by decide : 2 + 4 ≤ _)⟩)
  dsimp only [Pt.U, Pt.locs, Pt.cells, Pt.slots] at X52 l52 y52 z52 st52 hQ52
  subst l52 y52 z52
  obtain ⟨rfl, N52q, t52, r52, I52, K52, ft52, fr52⟩ := hQ52
  have N52 := Fr.app N0 N52q
  have C52 : ∀ t, Steps p.tables e below (T52.setTop (mkF m 26 #[.val (.int p1), .val (.int p2), .val (.int p3), .val (.int p4), .val (.int mo), .val (.int (1 : Int32)), .unset, .unset, .unset, .unset, .unset, .unset, .unset, .unset, .unset, .unset, .unset] [(.ref b50)])) t → Steps p.tables e below (s₁.setTop (entryFrame m #[(.int p1), (.int p2), (.int p3), (.int p4)] maxLocals)) t := fun t k => C51 t (st52.trans k)
  have Zc52 : n0 ≤ T52.heap.size := Nat.le_trans Zs50 K52.1
  have gt52 : n0 ≤ t52 := Nat.le_trans Zs50 ft52
  have gr52 : n0 ≤ r52 := Nat.le_trans Zs50 fr52
  have I1 := I52
  have C53 : ∀ t, Steps p.tables e below (T52.setTop (mkF m 55 #[.val (.int p1), .val (.int p2), .val (.int p3), .val (.int p4), .val (.int mo), .val (.int (1 : Int32)), .val (.ref b50), .val (.ref b50), .val (.int (p4 &&& (1 : Int32))), .unset, .unset, .unset, .unset, .unset, .unset, .unset, .unset] [(.int (1 : Int32))])) t → Steps p.tables e below (s₁.setTop (entryFrame m #[(.int p1), (.int p2), (.int p3), (.int p4)] maxLocals)) t := by
    intro t k
    refine C52 t ?_
    show Steps p.tables e below (T52.setTop (mkF m 26 #[.val (.int p1), .val (.int p2), .val (.int p3), .val (.int p4), .val (.int mo), .val (.int (1 : Int32)), .unset, .unset, .unset, .unset, .unset, .unset, .unset, .unset, .unset, .unset, .unset] [(.ref b50)])) _
    refine XS.astore X52.here hx rfl (hb hby at_26) rfl rfl (l' := #[.val (.int p1), .val (.int p2), .val (.int p3), .val (.int p4), .val (.int mo), .val (.int (1 : Int32)), .val (.ref b50), .unset, .unset, .unset, .unset, .unset, .unset, .unset, .unset, .unset, .unset]) rfl ?_
    show Steps p.tables e below (T52.setTop (mkF m 28 #[.val (.int p1), .val (.int p2), .val (.int p3), .val (.int p4), .val (.int mo), .val (.int (1 : Int32)), .val (.ref b50), .unset, .unset, .unset, .unset, .unset, .unset, .unset, .unset, .unset, .unset] [])) _
    refine XS.iload X52.here hx rfl (hb hby at_28) rfl ?_
    show Steps p.tables e below (T52.setTop (mkF m 30 #[.val (.int p1), .val (.int p2), .val (.int p3), .val (.int p4), .val (.int mo), .val (.int (1 : Int32)), .val (.ref b50), .unset, .unset, .unset, .unset, .unset, .unset, .unset, .unset, .unset, .unset] [(.int (1 : Int32))])) _
    refine XS.ifNo X52.here hx rfl (hb hby at_30) rfl (XT.i0_eq_f (by decide)) ?_
    show Steps p.tables e below (T52.setTop (mkF m 33 #[.val (.int p1), .val (.int p2), .val (.int p3), .val (.int p4), .val (.int mo), .val (.int (1 : Int32)), .val (.ref b50), .unset, .unset, .unset, .unset, .unset, .unset, .unset, .unset, .unset, .unset] [])) _
    refine XS.aload X52.here hx rfl (hb hby at_33) rfl rfl ?_
    show Steps p.tables e below (T52.setTop (mkF m 35 #[.val (.int p1), .val (.int p2), .val (.int p3), .val (.int p4), .val (.int mo), .val (.int (1 : Int32)), .val (.ref b50), .unset, .unset, .unset, .unset, .unset, .unset, .unset, .unset, .unset, .unset] [(.ref b50)])) _
    refine XS.goto X52.here hx rfl (pc0 := 35) (pc' := 46) rfl (hb hby at_35) (by decide) (by decide) ?_
    show Steps p.tables e below (T52.setTop (mkF m 46 #[.val (.int p1), .val (.int p2), .val (.int p3), .val (.int p4), .val (.int mo), .val (.int (1 : Int32)), .val (.ref b50), .unset, .unset, .unset, .unset, .unset, .unset, .unset, .unset, .unset, .unset] [(.ref b50)])) _
    refine XS.astore X52.here hx rfl (hb hby at_46) rfl rfl (l' := #[.val (.int p1), .val (.int p2), .val (.int p3), .val (.int p4), .val (.int mo), .val (.int (1 : Int32)), .val (.ref b50), .val (.ref b50), .unset, .unset, .unset, .unset, .unset, .unset, .unset, .unset, .unset]) rfl ?_
    show Steps p.tables e below (T52.setTop (mkF m 48 #[.val (.int p1), .val (.int p2), .val (.int p3), .val (.int p4), .val (.int mo), .val (.int (1 : Int32)), .val (.ref b50), .val (.ref b50), .unset, .unset, .unset, .unset, .unset, .unset, .unset, .unset, .unset] [])) _
    refine XS.iloadN X52.here hx rfl (hb hby at_48) rfl ?_
    show Steps p.tables e below (T52.setTop (mkF m 49 #[.val (.int p1), .val (.int p2), .val (.int p3), .val (.int p4), .val (.int mo), .val (.int (1 : Int32)), .val (.ref b50), .val (.ref b50), .unset, .unset, .unset, .unset, .unset, .unset, .unset, .unset, .unset] [(.int p4)])) _
    refine XS.iconst X52.here hx rfl (hb hby at_49) ?_
    show Steps p.tables e below (T52.setTop (mkF m 50 #[.val (.int p1), .val (.int p2), .val (.int p3), .val (.int p4), .val (.int mo), .val (.int (1 : Int32)), .val (.ref b50), .val (.ref b50), .unset, .unset, .unset, .unset, .unset, .unset, .unset, .unset, .unset] [(.int (1 : Int32)), (.int p4)])) _
    refine XS.iand X52.here hx rfl (hb hby at_50) rfl ?_
    show Steps p.tables e below (T52.setTop (mkF m 51 #[.val (.int p1), .val (.int p2), .val (.int p3), .val (.int p4), .val (.int mo), .val (.int (1 : Int32)), .val (.ref b50), .val (.ref b50), .unset, .unset, .unset, .unset, .unset, .unset, .unset, .unset, .unset] [(.int (p4 &&& (1 : Int32)))])) _
    refine XS.istore X52.here hx rfl (hb hby at_51) rfl (l' := #[.val (.int p1), .val (.int p2), .val (.int p3), .val (.int p4), .val (.int mo), .val (.int (1 : Int32)), .val (.ref b50), .val (.ref b50), .val (.int (p4 &&& (1 : Int32))), .unset, .unset, .unset, .unset, .unset, .unset, .unset, .unset]) rfl ?_
    show Steps p.tables e below (T52.setTop (mkF m 53 #[.val (.int p1), .val (.int p2), .val (.int p3), .val (.int p4), .val (.int mo), .val (.int (1 : Int32)), .val (.ref b50), .val (.ref b50), .val (.int (p4 &&& (1 : Int32))), .unset, .unset, .unset, .unset, .unset, .unset, .unset, .unset] [])) _
    refine XS.iload X52.here hx rfl (hb hby at_53) rfl ?_
    exact k
  obtain ⟨ii, h_ii⟩ : ∃ z : Int32, z = (p4 &&& (1 : Int32)) := ⟨_, rfl⟩
  rw [← h_ii] at C53
  have C54 : ∀ t, Steps p.tables e below (T52.setTop (mkF m 74 #[.val (.int p1), .val (.int p2), .val (.int p3), .val (.int p4), .val (.int mo), .val (.int (1 : Int32)), .val (.ref b50), .val (.ref b50), .val (.int ii), .val (.int ((1 : Int32) - ii)), .unset, .unset, .unset, .unset, .unset, .unset, .unset] [(.int mo)])) t → Steps p.tables e below (s₁.setTop (entryFrame m #[(.int p1), (.int p2), (.int p3), (.int p4)] maxLocals)) t := by
    intro t k
    refine C53 t ?_
    show Steps p.tables e below (T52.setTop (mkF m 55 #[.val (.int p1), .val (.int p2), .val (.int p3), .val (.int p4), .val (.int mo), .val (.int (1 : Int32)), .val (.ref b50), .val (.ref b50), .val (.int ii), .unset, .unset, .unset, .unset, .unset, .unset, .unset, .unset] [(.int (1 : Int32))])) _
    refine XS.ifNo X52.here hx rfl (hb hby at_55) rfl (XT.i0_eq_f (by decide)) ?_
    show Steps p.tables e below (T52.setTop (mkF m 58 #[.val (.int p1), .val (.int p2), .val (.int p3), .val (.int p4), .val (.int mo), .val (.int (1 : Int32)), .val (.ref b50), .val (.ref b50), .val (.int ii), .unset, .unset, .unset, .unset, .unset, .unset, .unset, .unset] [])) _
    refine XS.iconst X52.here hx rfl (hb hby at_58) ?_
    show Steps p.tables e below (T52.setTop (mkF m 59 #[.val (.int p1), .val (.int p2), .val (.int p3), .val (.int p4), .val (.int mo), .val (.int (1 : Int32)), .val (.ref b50), .val (.ref b50), .val (.int ii), .unset, .unset, .unset, .unset, .unset, .unset, .unset, .unset] [(.int (1 : Int32))])) _
    refine XS.iload X52.here hx rfl (hb hby at_59) rfl ?_
    show Steps p.tables e below (T52.setTop (mkF m 61 #[.val (.int p1), .val (.int p2), .val (.int p3), .val (.int p4), .val (.int mo), .val (.int (1 : Int32)), .val (.ref b50), .val (.ref b50), .val (.int ii), .unset, .unset, .unset, .unset, .unset, .unset, .unset, .unset] [(.int ii), (.int (1 : Int32))])) _
    refine XS.isub X52.here hx rfl (hb hby at_61) rfl ?_
    show Steps p.tables e below (T52.setTop (mkF m 62 #[.val (.int p1), .val (.int p2), .val (.int p3), .val (.int p4), .val (.int mo), .val (.int (1 : Int32)), .val (.ref b50), .val (.ref b50), .val (.int ii), .unset, .unset, .unset, .unset, .unset, .unset, .unset, .unset] [(.int ((1 : Int32) - ii))])) _
    refine XS.goto X52.here hx rfl (pc0 := 62) (pc' := 70) rfl (hb hby at_62) (by decide) (by decide) ?_
    show Steps p.tables e below (T52.setTop (mkF m 70 #[.val (.int p1), .val (.int p2), .val (.int p3), .val (.int p4), .val (.int mo), .val (.int (1 : Int32)), .val (.ref b50), .val (.ref b50), .val (.int ii), .unset, .unset, .unset, .unset, .unset, .unset, .unset, .unset] [(.int ((1 : Int32) - ii))])) _
    refine XS.istore X52.here hx rfl (hb hby at_70) rfl (l' := #[.val (.int p1), .val (.int p2), .val (.int p3), .val (.int p4), .val (.int mo), .val (.int (1 : Int32)), .val (.ref b50), .val (.ref b50), .val (.int ii), .val (.int ((1 : Int32) - ii)), .unset, .unset, .unset, .unset, .unset, .unset, .unset]) rfl ?_
    show Steps p.tables e below (T52.setTop (mkF m 72 #[.val (.int p1), .val (.int p2), .val (.int p3), .val (.int p4), .val (.int mo), .val (.int (1 : Int32)), .val (.ref b50), .val (.ref b50), .val (.int ii), .val (.int ((1 : Int32) - ii)), .unset, .unset, .unset, .unset, .unset, .unset, .unset] [])) _
    refine XS.iload X52.here hx rfl (hb hby at_72) rfl ?_
    exact k
  obtain ⟨jj, h_jj⟩ : ∃ z : Int32, z = ((1 : Int32) - ii) := ⟨_, rfl⟩
  rw [← h_jj] at C54
  have hii : ¬ ii < 0 ∧ ii.toNatClampNeg < 2 := by rw [h_ii]; exact own_bit p4
  have hjj : ¬ jj < 0 ∧ jj.toNatClampNeg < 2 := by rw [h_jj]; exact (own_flip hii).1
  have hij : jj.toNatClampNeg ≠ ii.toNatClampNeg := by rw [h_jj]; exact (own_flip hii).2
  have C55 : ∀ t, Steps p.tables e below (T52.setTop (mkF m 83 #[.val (.int p1), .val (.int p2), .val (.int p3), .val (.int p4), .val (.int mo), .val (.int (1 : Int32)), .val (.ref b50), .val (.ref b50), .val (.int ii), .val (.int jj), .unset, .unset, .unset, .unset, .unset, .unset, .unset] [(.double (FP.i2d p1)), (.int ii), (.ref b50)])) t → Steps p.tables e below (s₁.setTop (entryFrame m #[(.int p1), (.int p2), (.int p3), (.int p4)] maxLocals)) t := by
    intro t k
    refine C54 t ?_
    show Steps p.tables e below (T52.setTop (mkF m 74 #[.val (.int p1), .val (.int p2), .val (.int p3), .val (.int p4), .val (.int mo), .val (.int (1 : Int32)), .val (.ref b50), .val (.ref b50), .val (.int ii), .val (.int jj), .unset, .unset, .unset, .unset, .unset, .unset, .unset] [(.int mo)])) _
    refine XS.ifNo X52.here hx rfl (hb hby at_74) rfl (XT.i0_ne_f hmode) ?_
    show Steps p.tables e below (T52.setTop (mkF m 77 #[.val (.int p1), .val (.int p2), .val (.int p3), .val (.int p4), .val (.int mo), .val (.int (1 : Int32)), .val (.ref b50), .val (.ref b50), .val (.int ii), .val (.int jj), .unset, .unset, .unset, .unset, .unset, .unset, .unset] [])) _
    refine XS.aload X52.here hx rfl (hb hby at_77) rfl rfl ?_
    show Steps p.tables e below (T52.setTop (mkF m 79 #[.val (.int p1), .val (.int p2), .val (.int p3), .val (.int p4), .val (.int mo), .val (.int (1 : Int32)), .val (.ref b50), .val (.ref b50), .val (.int ii), .val (.int jj), .unset, .unset, .unset, .unset, .unset, .unset, .unset] [(.ref b50)])) _
    refine XS.iload X52.here hx rfl (hb hby at_79) rfl ?_
    show Steps p.tables e below (T52.setTop (mkF m 81 #[.val (.int p1), .val (.int p2), .val (.int p3), .val (.int p4), .val (.int mo), .val (.int (1 : Int32)), .val (.ref b50), .val (.ref b50), .val (.int ii), .val (.int jj), .unset, .unset, .unset, .unset, .unset, .unset, .unset] [(.int ii), (.ref b50)])) _
    refine XS.iloadN X52.here hx rfl (hb hby at_81) rfl ?_
    show Steps p.tables e below (T52.setTop (mkF m 82 #[.val (.int p1), .val (.int p2), .val (.int p3), .val (.int p4), .val (.int mo), .val (.int (1 : Int32)), .val (.ref b50), .val (.ref b50), .val (.int ii), .val (.int jj), .unset, .unset, .unset, .unset, .unset, .unset, .unset] [(.int p1), (.int ii), (.ref b50)])) _
    refine XS.i2dS X52.here hx rfl (hb hby at_82) rfl rfl ?_
    exact k
  obtain ⟨cq56, kq56, q56a, q56b, q56c⟩ := isOf hZ rfl I1.1
  obtain ⟨_, _, ⟨T56, L56, k56, n56⟩, -, X56, ⟨Lc56, hQ56, l56, y56, z56⟩, st56⟩ := X52.virtualBack hx (y := (⟨"com/example/coverline/coverline/Instants", "set", "(ID)V"⟩ : MethodName)) (z := (⟨"com/example/coverline/coverline/Instants", "set", "(ID)V"⟩ : MethodName)) hown (mvT hZ (hw _ (List.mem_of_getElem? (i := 15) rfl))) (mvT hZ (hw _ (List.mem_of_getElem? (i := 16) rfl))) (notFace_of_selects (args := #[]) (mvT hZ (hw _ (List.mem_of_getElem? (i := 18) rfl)))) (mvT hZ (hw _ (List.mem_of_getElem? (i := 18) rfl))) (mvT hZ (hw _ (List.mem_of_getElem? (i := 17) rfl))) (by decide) (backOf (W := 0) (rm3 l Z a0 hw [] b50 ii (FP.i2d p1) t52 r52 2 (fun _ => 0) (fun _ => 0) T52.heap n0 Zc52 I1 hii gt52 gr52) hZ (hw _ (List.mem_of_getElem? (i := 19) rfl)) (hw _ (List.mem_of_getElem? (i := 2) rfl)) (by decide) (by decide)) q56a q56c (g := (mkF m 83 #[.val (.int p1), .val (.int p2), .val (.int p3), .val (.int p4), .val (.int mo), .val (.int (1 : Int32)), .val (.ref b50), .val (.ref b50), .val (.int ii), .val (.int jj), .unset, .unset, .unset, .unset, .unset, .unset, .unset] [(.double (FP.i2d p1)), (.int ii), (.ref b50)])) rfl (by rw [hml]; rfl) (Steps.refl _) (argsL := [(.int ii), (.double (FP.i2d p1))]) (rest := []) (lenOf pd2 rfl) rfl (by show 2 * 0 + _ ≤ _; exact Nat.le_of_eq rfl) (hb hby at_83) (fun _ _ => ⟨rfl, rfl, (by decide : 3 + 0 ≤ _), (by decide : 6 + 0 ≤ _)⟩)
  dsimp only [Pt.U, Pt.locs, Pt.cells, Pt.slots] at X56 l56 y56 z56 st56 hQ56
  subst l56 y56 z56
  obtain ⟨rfl, N56q, J56, K56⟩ := hQ56
  have N56 := Fr.app N52 N56q
  have C56 : ∀ t, Steps p.tables e below (T56.setTop (mkF m 86 #[.val (.int p1), .val (.int p2), .val (.int p3), .val (.int p4), .val (.int mo), .val (.int (1 : Int32)), .val (.ref b50), .val (.ref b50), .val (.int ii), .val (.int jj), .unset, .unset, .unset, .unset, .unset, .unset, .unset] [])) t → Steps p.tables e below (s₁.setTop (entryFrame m #[(.int p1), (.int p2), (.int p3), (.int p4)] maxLocals)) t := fun t k => C55 t (st56.trans k)
  have Zc56 : n0 ≤ T56.heap.size := Nat.le_trans Zc52 K56.1
  have C57 : ∀ t, Steps p.tables e below (T56.setTop (mkF m 92 #[.val (.int p1), .val (.int p2), .val (.int p3), .val (.int p4), .val (.int mo), .val (.int (1 : Int32)), .val (.ref b50), .val (.ref b50), .val (.int ii), .val (.int jj), .unset, .unset, .unset, .unset, .unset, .unset, .unset] [(.double (FP.i2d p2)), (.int jj), (.ref b50)])) t → Steps p.tables e below (s₁.setTop (entryFrame m #[(.int p1), (.int p2), (.int p3), (.int p4)] maxLocals)) t := by
    intro t k
    refine C56 t ?_
    show Steps p.tables e below (T56.setTop (mkF m 86 #[.val (.int p1), .val (.int p2), .val (.int p3), .val (.int p4), .val (.int mo), .val (.int (1 : Int32)), .val (.ref b50), .val (.ref b50), .val (.int ii), .val (.int jj), .unset, .unset, .unset, .unset, .unset, .unset, .unset] [])) _
    refine XS.aload X56.here hx rfl (hb hby at_86) rfl rfl ?_
    show Steps p.tables e below (T56.setTop (mkF m 88 #[.val (.int p1), .val (.int p2), .val (.int p3), .val (.int p4), .val (.int mo), .val (.int (1 : Int32)), .val (.ref b50), .val (.ref b50), .val (.int ii), .val (.int jj), .unset, .unset, .unset, .unset, .unset, .unset, .unset] [(.ref b50)])) _
    refine XS.iload X56.here hx rfl (hb hby at_88) rfl ?_
    show Steps p.tables e below (T56.setTop (mkF m 90 #[.val (.int p1), .val (.int p2), .val (.int p3), .val (.int p4), .val (.int mo), .val (.int (1 : Int32)), .val (.ref b50), .val (.ref b50), .val (.int ii), .val (.int jj), .unset, .unset, .unset, .unset, .unset, .unset, .unset] [(.int jj), (.ref b50)])) _
    refine XS.iloadN X56.here hx rfl (hb hby at_90) rfl ?_
    show Steps p.tables e below (T56.setTop (mkF m 91 #[.val (.int p1), .val (.int p2), .val (.int p3), .val (.int p4), .val (.int mo), .val (.int (1 : Int32)), .val (.ref b50), .val (.ref b50), .val (.int ii), .val (.int jj), .unset, .unset, .unset, .unset, .unset, .unset, .unset] [(.int p2), (.int jj), (.ref b50)])) _
    refine XS.i2dS X56.here hx rfl (hb hby at_91) rfl rfl ?_
    exact k
  obtain ⟨cq58, kq58, q58a, q58b, q58c⟩ := isOf hZ rfl J56.1
  obtain ⟨_, _, ⟨T58, L58, k58, n58⟩, -, X58, ⟨Lc58, hQ58, l58, y58, z58⟩, st58⟩ := X56.virtualBack hx (y := (⟨"com/example/coverline/coverline/Instants", "set", "(ID)V"⟩ : MethodName)) (z := (⟨"com/example/coverline/coverline/Instants", "set", "(ID)V"⟩ : MethodName)) hown (mvT hZ (hw _ (List.mem_of_getElem? (i := 15) rfl))) (mvT hZ (hw _ (List.mem_of_getElem? (i := 16) rfl))) (notFace_of_selects (args := #[]) (mvT hZ (hw _ (List.mem_of_getElem? (i := 18) rfl)))) (mvT hZ (hw _ (List.mem_of_getElem? (i := 18) rfl))) (mvT hZ (hw _ (List.mem_of_getElem? (i := 17) rfl))) (by decide) (backOf (W := 0) (rm3 l Z a0 hw [] b50 jj (FP.i2d p2) t52 r52 2 (own_upd (fun _ => 0) ii (FP.i2d p1)) (own_upd (fun _ => 0) ii 0) T56.heap n0 Zc56 J56 hjj gt52 gr52) hZ (hw _ (List.mem_of_getElem? (i := 19) rfl)) (hw _ (List.mem_of_getElem? (i := 2) rfl)) (by decide) (by decide)) q58a q58c (g := (mkF m 92 #[.val (.int p1), .val (.int p2), .val (.int p3), .val (.int p4), .val (.int mo), .val (.int (1 : Int32)), .val (.ref b50), .val (.ref b50), .val (.int ii), .val (.int jj), .unset, .unset, .unset, .unset, .unset, .unset, .unset] [(.double (FP.i2d p2)), (.int jj), (.ref b50)])) rfl (by rw [hml]; rfl) (Steps.refl _) (argsL := [(.int jj), (.double (FP.i2d p2))]) (rest := []) (lenOf pd2 rfl) rfl (by show 2 * 0 + _ ≤ _; exact Nat.le_of_eq rfl) (hb hby at_92) (fun _ _ => ⟨rfl, rfl, (by decide : 3 + 0 ≤ _), (by decide : 6 + 0 ≤ _)⟩)
  dsimp only [Pt.U, Pt.locs, Pt.cells, Pt.slots] at X58 l58 y58 z58 st58 hQ58
  subst l58 y58 z58
  obtain ⟨rfl, N58q, J58, K58⟩ := hQ58
  have N58 := Fr.app N56 N58q
  have C58 : ∀ t, Steps p.tables e below (T58.setTop (mkF m 95 #[.val (.int p1), .val (.int p2), .val (.int p3), .val (.int p4), .val (.int mo), .val (.int (1 : Int32)), .val (.ref b50), .val (.ref b50), .val (.int ii), .val (.int jj), .unset, .unset, .unset, .unset, .unset, .unset, .unset] [])) t → Steps p.tables e below (s₁.setTop (entryFrame m #[(.int p1), (.int p2), (.int p3), (.int p4)] maxLocals)) t := fun t k => C57 t (st58.trans k)
  have Zc58 : n0 ≤ T58.heap.size := Nat.le_trans Zc56 K58.1
  have C59 : ∀ t, Steps p.tables e below (T58.setTop (mkF m 207 #[.val (.int p1), .val (.int p2), .val (.int p3), .val (.int p4), .val (.int mo), .val (.int (1 : Int32)), .val (.ref b50), .val (.ref b50), .val (.int ii), .val (.int jj), .val (.double (FP.l2d ((p2.toInt64) - (p1.toInt64)))), .second, .unset, .unset, .unset, .unset, .unset] [(.int jj), (.ref b50), (.int ii), (.ref b50)])) t → Steps p.tables e below (s₁.setTop (entryFrame m #[(.int p1), (.int p2), (.int p3), (.int p4)] maxLocals)) t := by
    intro t k
    refine C58 t ?_
    show Steps p.tables e below (T58.setTop (mkF m 95 #[.val (.int p1), .val (.int p2), .val (.int p3), .val (.int p4), .val (.int mo), .val (.int (1 : Int32)), .val (.ref b50), .val (.ref b50), .val (.int ii), .val (.int jj), .unset, .unset, .unset, .unset, .unset, .unset, .unset] [])) _
    refine XS.iloadN X58.here hx rfl (hb hby at_95) rfl ?_
    show Steps p.tables e below (T58.setTop (mkF m 96 #[.val (.int p1), .val (.int p2), .val (.int p3), .val (.int p4), .val (.int mo), .val (.int (1 : Int32)), .val (.ref b50), .val (.ref b50), .val (.int ii), .val (.int jj), .unset, .unset, .unset, .unset, .unset, .unset, .unset] [(.int p2)])) _
    refine XS.i2l X58.here hx rfl (hb hby at_96) rfl ?_
    show Steps p.tables e below (T58.setTop (mkF m 97 #[.val (.int p1), .val (.int p2), .val (.int p3), .val (.int p4), .val (.int mo), .val (.int (1 : Int32)), .val (.ref b50), .val (.ref b50), .val (.int ii), .val (.int jj), .unset, .unset, .unset, .unset, .unset, .unset, .unset] [(.long (p2.toInt64))])) _
    refine XS.iloadN X58.here hx rfl (hb hby at_97) rfl ?_
    show Steps p.tables e below (T58.setTop (mkF m 98 #[.val (.int p1), .val (.int p2), .val (.int p3), .val (.int p4), .val (.int mo), .val (.int (1 : Int32)), .val (.ref b50), .val (.ref b50), .val (.int ii), .val (.int jj), .unset, .unset, .unset, .unset, .unset, .unset, .unset] [(.int p1), (.long (p2.toInt64))])) _
    refine XS.i2l X58.here hx rfl (hb hby at_98) rfl ?_
    show Steps p.tables e below (T58.setTop (mkF m 99 #[.val (.int p1), .val (.int p2), .val (.int p3), .val (.int p4), .val (.int mo), .val (.int (1 : Int32)), .val (.ref b50), .val (.ref b50), .val (.int ii), .val (.int jj), .unset, .unset, .unset, .unset, .unset, .unset, .unset] [(.long (p1.toInt64)), (.long (p2.toInt64))])) _
    refine XS.lsub X58.here hx rfl (hb hby at_99) rfl ?_
    show Steps p.tables e below (T58.setTop (mkF m 100 #[.val (.int p1), .val (.int p2), .val (.int p3), .val (.int p4), .val (.int mo), .val (.int (1 : Int32)), .val (.ref b50), .val (.ref b50), .val (.int ii), .val (.int jj), .unset, .unset, .unset, .unset, .unset, .unset, .unset] [(.long ((p2.toInt64) - (p1.toInt64)))])) _
    refine XS.l2dS X58.here hx rfl (hb hby at_100) rfl rfl ?_
    show Steps p.tables e below (T58.setTop (mkF m 101 #[.val (.int p1), .val (.int p2), .val (.int p3), .val (.int p4), .val (.int mo), .val (.int (1 : Int32)), .val (.ref b50), .val (.ref b50), .val (.int ii), .val (.int jj), .unset, .unset, .unset, .unset, .unset, .unset, .unset] [(.double (FP.l2d ((p2.toInt64) - (p1.toInt64))))])) _
    refine XS.dstore X58.here hx rfl (hb hby at_101) rfl (l' := #[.val (.int p1), .val (.int p2), .val (.int p3), .val (.int p4), .val (.int mo), .val (.int (1 : Int32)), .val (.ref b50), .val (.ref b50), .val (.int ii), .val (.int jj), .val (.double (FP.l2d ((p2.toInt64) - (p1.toInt64)))), .second, .unset, .unset, .unset, .unset, .unset]) rfl ?_
    show Steps p.tables e below (T58.setTop (mkF m 103 #[.val (.int p1), .val (.int p2), .val (.int p3), .val (.int p4), .val (.int mo), .val (.int (1 : Int32)), .val (.ref b50), .val (.ref b50), .val (.int ii), .val (.int jj), .val (.double (FP.l2d ((p2.toInt64) - (p1.toInt64)))), .second, .unset, .unset, .unset, .unset, .unset] [])) _
    refine XS.goto X58.here hx rfl (pc0 := 103) (pc' := 199) rfl (hb hby at_103) (by decide) (by decide) ?_
    show Steps p.tables e below (T58.setTop (mkF m 199 #[.val (.int p1), .val (.int p2), .val (.int p3), .val (.int p4), .val (.int mo), .val (.int (1 : Int32)), .val (.ref b50), .val (.ref b50), .val (.int ii), .val (.int jj), .val (.double (FP.l2d ((p2.toInt64) - (p1.toInt64)))), .second, .unset, .unset, .unset, .unset, .unset] [])) _
    refine XS.aload X58.here hx rfl (hb hby at_199) rfl rfl ?_
    show Steps p.tables e below (T58.setTop (mkF m 201 #[.val (.int p1), .val (.int p2), .val (.int p3), .val (.int p4), .val (.int mo), .val (.int (1 : Int32)), .val (.ref b50), .val (.ref b50), .val (.int ii), .val (.int jj), .val (.double (FP.l2d ((p2.toInt64) - (p1.toInt64)))), .second, .unset, .unset, .unset, .unset, .unset] [(.ref b50)])) _
    refine XS.iload X58.here hx rfl (hb hby at_201) rfl ?_
    show Steps p.tables e below (T58.setTop (mkF m 203 #[.val (.int p1), .val (.int p2), .val (.int p3), .val (.int p4), .val (.int mo), .val (.int (1 : Int32)), .val (.ref b50), .val (.ref b50), .val (.int ii), .val (.int jj), .val (.double (FP.l2d ((p2.toInt64) - (p1.toInt64)))), .second, .unset, .unset, .unset, .unset, .unset] [(.int ii), (.ref b50)])) _
    refine XS.aload X58.here hx rfl (hb hby at_203) rfl rfl ?_
    show Steps p.tables e below (T58.setTop (mkF m 205 #[.val (.int p1), .val (.int p2), .val (.int p3), .val (.int p4), .val (.int mo), .val (.int (1 : Int32)), .val (.ref b50), .val (.ref b50), .val (.int ii), .val (.int jj), .val (.double (FP.l2d ((p2.toInt64) - (p1.toInt64)))), .second, .unset, .unset, .unset, .unset, .unset] [(.ref b50), (.int ii), (.ref b50)])) _
    refine XS.iload X58.here hx rfl (hb hby at_205) rfl ?_
    exact k
  obtain ⟨cq60, kq60, q60a, q60b, q60c⟩ := isOf hZ rfl J58.1
  obtain ⟨_, _, ⟨T60, L60, k60, n60⟩, -, X60, ⟨Lc60, hQ60, l60, y60, z60⟩, st60⟩ := X58.virtualBack hx (y := (⟨"com/example/coverline/coverline/Instants", "timeTo", "(ILcom/example/coverline/coverline/Instants;I)D"⟩ : MethodName)) (z := (⟨"com/example/coverline/coverline/Instants", "timeTo", "(ILcom/example/coverline/coverline/Instants;I)D"⟩ : MethodName)) hown (mvT hZ (hw _ (List.mem_of_getElem? (i := 28) rfl))) (mvT hZ (hw _ (List.mem_of_getElem? (i := 29) rfl))) (notFace_of_selects (args := #[]) (mvT hZ (hw _ (List.mem_of_getElem? (i := 31) rfl)))) (mvT hZ (hw _ (List.mem_of_getElem? (i := 31) rfl))) (mvT hZ (hw _ (List.mem_of_getElem? (i := 30) rfl))) (by decide) (backOf (W := 0) (rm6 l Z a0 hw [] b50 ii b50 jj t52 r52 t52 r52 2 2 (own_upd (own_upd (fun _ => 0) ii (FP.i2d p1)) jj (FP.i2d p2)) (own_upd (own_upd (fun _ => 0) ii 0) jj 0) (own_upd (own_upd (fun _ => 0) ii (FP.i2d p1)) jj (FP.i2d p2)) (own_upd (own_upd (fun _ => 0) ii 0) jj 0) (FP.i2d p2) (FP.i2d p1) 0 0 T58.heap n0 Zc58 J58 J58 hii hjj (own_upd_same _ _ _) ((own_upd_ne _ _ (Ne.symm hij)).trans (own_upd_same _ _ _)) (own_upd_same _ _ _) ((own_upd_ne _ _ (Ne.symm hij)).trans (own_upd_same _ _ _)) (own_lawA p1 p2).1 (own_lawA p1 p2).2.1 (own_lawA p1 p2).2.2.1) hZ (hw _ (List.mem_of_getElem? (i := 32) rfl)) (hw _ (List.mem_of_getElem? (i := 2) rfl)) (by decide) (by decide)) q60a q60c (g := (mkF m 207 #[.val (.int p1), .val (.int p2), .val (.int p3), .val (.int p4), .val (.int mo), .val (.int (1 : Int32)), .val (.ref b50), .val (.ref b50), .val (.int ii), .val (.int jj), .val (.double (FP.l2d ((p2.toInt64) - (p1.toInt64)))), .second, .unset, .unset, .unset, .unset, .unset] [(.int jj), (.ref b50), (.int ii), (.ref b50)])) rfl (by rw [hml]; rfl) (Steps.refl _) (argsL := [(.int ii), (.ref b50), (.int jj)]) (rest := []) (lenOf pd3 rfl) rfl (by show 2 * 0 + _ ≤ _; exact Nat.le_of_eq rfl) (hb hby at_207) (fun _ _ => ⟨rfl, rfl, (by decide : 3 + 0 ≤ _), (by decide : 6 + 0 ≤ _)⟩)
  dsimp only [Pt.U, Pt.locs, Pt.cells, Pt.slots] at X60 l60 y60 z60 st60 hQ60
  subst l60 y60 z60
  obtain ⟨rfl, N60q, q60⟩ := hQ60
  have N60 := Fr.app N58 N60q
  have C60 : ∀ t, Steps p.tables e below (T60.setTop (mkF m 210 #[.val (.int p1), .val (.int p2), .val (.int p3), .val (.int p4), .val (.int mo), .val (.int (1 : Int32)), .val (.ref b50), .val (.ref b50), .val (.int ii), .val (.int jj), .val (.double (FP.l2d ((p2.toInt64) - (p1.toInt64)))), .second, .unset, .unset, .unset, .unset, .unset] [(.double (FP.dadd (FP.dsub (FP.i2d p2) (FP.i2d p1)) (FP.dsub 0 0)))])) t → Steps p.tables e below (s₁.setTop (entryFrame m #[(.int p1), (.int p2), (.int p3), (.int p4)] maxLocals)) t := fun t k => C59 t (st60.trans k)
  have C61 : ∀ t, Steps p.tables e below (T60.setTop (mkF m 221 #[.val (.int p1), .val (.int p2), .val (.int p3), .val (.int p4), .val (.int mo), .val (.int (1 : Int32)), .val (.ref b50), .val (.ref b50), .val (.int ii), .val (.int jj), .val (.double (FP.l2d ((p2.toInt64) - (p1.toInt64)))), .second, .unset, .unset, .unset, .unset, .unset] [(.int (1 : Int32))])) t → Steps p.tables e below (s₁.setTop (entryFrame m #[(.int p1), (.int p2), (.int p3), (.int p4)] maxLocals)) t := by
    intro t k
    refine C60 t ?_
    show Steps p.tables e below (T60.setTop (mkF m 210 #[.val (.int p1), .val (.int p2), .val (.int p3), .val (.int p4), .val (.int mo), .val (.int (1 : Int32)), .val (.ref b50), .val (.ref b50), .val (.int ii), .val (.int jj), .val (.double (FP.l2d ((p2.toInt64) - (p1.toInt64)))), .second, .unset, .unset, .unset, .unset, .unset] [(.double (FP.dadd (FP.dsub (FP.i2d p2) (FP.i2d p1)) (FP.dsub 0 0)))])) _
    refine XS.dload X60.here hx rfl (hb hby at_210) rfl ?_
    show Steps p.tables e below (T60.setTop (mkF m 212 #[.val (.int p1), .val (.int p2), .val (.int p3), .val (.int p4), .val (.int mo), .val (.int (1 : Int32)), .val (.ref b50), .val (.ref b50), .val (.int ii), .val (.int jj), .val (.double (FP.l2d ((p2.toInt64) - (p1.toInt64)))), .second, .unset, .unset, .unset, .unset, .unset] [(.double (FP.l2d ((p2.toInt64) - (p1.toInt64)))), (.double (FP.dadd (FP.dsub (FP.i2d p2) (FP.i2d p1)) (FP.dsub 0 0)))])) _
    refine XS.dcmpS X60.here hx rfl (hb hby at_212) rfl (own_lawA p1 p2).2.2.2 ?_
    show Steps p.tables e below (T60.setTop (mkF m 213 #[.val (.int p1), .val (.int p2), .val (.int p3), .val (.int p4), .val (.int mo), .val (.int (1 : Int32)), .val (.ref b50), .val (.ref b50), .val (.int ii), .val (.int jj), .val (.double (FP.l2d ((p2.toInt64) - (p1.toInt64)))), .second, .unset, .unset, .unset, .unset, .unset] [(.int (0 : Int32))])) _
    refine XS.ifNo X60.here hx rfl (hb hby at_213) rfl (XT.i0_ne_f rfl) ?_
    show Steps p.tables e below (T60.setTop (mkF m 216 #[.val (.int p1), .val (.int p2), .val (.int p3), .val (.int p4), .val (.int mo), .val (.int (1 : Int32)), .val (.ref b50), .val (.ref b50), .val (.int ii), .val (.int jj), .val (.double (FP.l2d ((p2.toInt64) - (p1.toInt64)))), .second, .unset, .unset, .unset, .unset, .unset] [])) _
    refine XS.iconst X60.here hx rfl (hb hby at_216) ?_
    show Steps p.tables e below (T60.setTop (mkF m 217 #[.val (.int p1), .val (.int p2), .val (.int p3), .val (.int p4), .val (.int mo), .val (.int (1 : Int32)), .val (.ref b50), .val (.ref b50), .val (.int ii), .val (.int jj), .val (.double (FP.l2d ((p2.toInt64) - (p1.toInt64)))), .second, .unset, .unset, .unset, .unset, .unset] [(.int (1 : Int32))])) _
    refine XS.goto X60.here hx rfl (pc0 := 217) (pc' := 221) rfl (hb hby at_217) (by decide) (by decide) ?_
    exact k
  obtain ⟨fs, hr, hrun, hended, hW, hsame⟩ := X60.leave (v := some (.int (1 : Int32))) (fun h => by rw [Bd.returns] at h; cases h)
  refine ⟨_, _, C61 _ ?_, hrun, hended, _, _, rfl, ?_, ⟨_, rfl⟩, hW, hsame.mono (by decide) (by decide)⟩
  · show Steps p.tables e below (T60.setTop (mkF m 221 #[.val (.int p1), .val (.int p2), .val (.int p3), .val (.int p4), .val (.int mo), .val (.int (1 : Int32)), .val (.ref b50), .val (.ref b50), .val (.int ii), .val (.int jj), .val (.double (FP.l2d ((p2.toInt64) - (p1.toInt64)))), .second, .unset, .unset, .unset, .unset, .unset] [(.int (1 : Int32))])) _
    exact retN X60 hx (t := .boolean) Bd.returns (by simp) (hb hby at_221) hr
  · show Q0 Z p1 p2 p3 p4 h0 n0 _ T60.heap _
    rw [q60]
    exact ⟨rfl, N60⟩
theorem pd4 : parseMethodDescriptor "(ILcom/example/coverline/coverline/Instants;ID)V" = some ⟨[.int, (.object "com/example/coverline/coverline/Instants"), .int, .double], none⟩ := by decide +kernel
set_option maxRecDepth 65536 in
set_option maxHeartbeats 40000000 in
theorem rm0_10 (l : Launch) (Z : State) (a0 : Array Value) (hw : ∀ d ∈ tables_1, d.before a0 Z = true) (ws : List Jvm.Cond) (p1 p2 p3 p4 : Int32) (h0 : Heap) (n0 : Nat) (Z0 : n0 ≤ h0.size) (hsame : ¬ (p4 &&& (4 : Int32)) = 0) (hmode : ¬ (p3 &&& (3 : Int32)) = 0) :
    MetFree l x (head1 (Jvm.Cond.code x code maxLocals ret :: ws) room_1) (fun a U => a = #[(.int p1), (.int p2), (.int p3), (.int p4)] ∧ Z.Warmed39 U.vm ∧ U.heap = h0) (fun _ _ _ _ _ => True) (fun _ U o U' => ∃ v L, o = .returned v ∧ Q0 Z p1 p2 p3 p4 h0 n0 v U'.heap L ∧ FrameEnd U o U' L room_1.cells room_1.slots) := by
  refine MetFree.of_bodySF (plainFor_of_name pn1) hisR ?_
  intro p e s m args below meth c s₁ Bd hml0 hP hK
  obtain ⟨rfl, hZ, hh⟩ := hP
  have hx := Bd.exec
  have hby := Bd.bytes
  have hml : c.maxLocals = 17 := hml0
  have hown : s.vm.findClass "com/example/coverline/coverline/InstantsTimeToPinLaw" = some m.cls := findClass_of_methodNamed Bd.named
  have hnm := (name_of_methodNamed Bd.named Bd.method).1
  have X0 : Stand p l e room_1 s m #[(.int p1), (.int p2), (.int p3), (.int p4)] below meth c s₁ [] 0 0 := Stand.of_body Bd
  have e0 : s₁.heap = h0 := by rw [← hh, Bd.state]; rfl
  have N0 := Fr.nil n0
  have pre0 : ∀ t, Steps p.tables e below (s₁.setTop (mkF m 0 #[.val (.int p1), .val (.int p2), .val (.int p3), .val (.int p4), .unset, .unset, .unset, .unset, .unset, .unset, .unset, .unset, .unset, .unset, .unset, .unset, .unset] [])) t → Steps p.tables e below (s₁.setTop (entryFrame m #[(.int p1), (.int p2), (.int p3), (.int p4)] maxLocals)) t := fun t k => castTop (ef0 m p1 p2 p3 p4) k
  have C62 : ∀ t, Steps p.tables e below (s₁.setTop (mkF m 8 #[.val (.int p1), .val (.int p2), .val (.int p3), .val (.int p4), .val (.int (p3 &&& (3 : Int32))), .unset, .unset, .unset, .unset, .unset, .unset, .unset, .unset, .unset, .unset, .unset, .unset] [(.int (p4 &&& (4 : Int32)))])) t → Steps p.tables e below (s₁.setTop (entryFrame m #[(.int p1), (.int p2), (.int p3), (.int p4)] maxLocals)) t := by
    intro t k
    refine pre0 t ?_
    show Steps p.tables e below (s₁.setTop (mkF m 0 #[.val (.int p1), .val (.int p2), .val (.int p3), .val (.int p4), .unset, .unset, .unset, .unset, .unset, .unset, .unset, .unset, .unset, .unset, .unset, .unset, .unset] [])) _
    refine XS.iloadN X0.here hx rfl (hb hby at_0) rfl ?_
    show Steps p.tables e below (s₁.setTop (mkF m 1 #[.val (.int p1), .val (.int p2), .val (.int p3), .val (.int p4), .unset, .unset, .unset, .unset, .unset, .unset, .unset, .unset, .unset, .unset, .unset, .unset, .unset] [(.int p3)])) _
    refine XS.iconst X0.here hx rfl (hb hby at_1) ?_
    show Steps p.tables e below (s₁.setTop (mkF m 2 #[.val (.int p1), .val (.int p2), .val (.int p3), .val (.int p4), .unset, .unset, .unset, .unset, .unset, .unset, .unset, .unset, .unset, .unset, .unset, .unset, .unset] [(.int (3 : Int32)), (.int p3)])) _
    refine XS.iand X0.here hx rfl (hb hby at_2) rfl ?_
    show Steps p.tables e below (s₁.setTop (mkF m 3 #[.val (.int p1), .val (.int p2), .val (.int p3), .val (.int p4), .unset, .unset, .unset, .unset, .unset, .unset, .unset, .unset, .unset, .unset, .unset, .unset, .unset] [(.int (p3 &&& (3 : Int32)))])) _
    refine XS.istore X0.here hx rfl (hb hby at_3) rfl (l' := #[.val (.int p1), .val (.int p2), .val (.int p3), .val (.int p4), .val (.int (p3 &&& (3 : Int32))), .unset, .unset, .unset, .unset, .unset, .unset, .unset, .unset, .unset, .unset, .unset, .unset]) rfl ?_
    show Steps p.tables e below (s₁.setTop (mkF m 5 #[.val (.int p1), .val (.int p2), .val (.int p3), .val (.int p4), .val (.int (p3 &&& (3 : Int32))), .unset, .unset, .unset, .unset, .unset, .unset, .unset, .unset, .unset, .unset, .unset, .unset] [])) _
    refine XS.iloadN X0.here hx rfl (hb hby at_5) rfl ?_
    show Steps p.tables e below (s₁.setTop (mkF m 6 #[.val (.int p1), .val (.int p2), .val (.int p3), .val (.int p4), .val (.int (p3 &&& (3 : Int32))), .unset, .unset, .unset, .unset, .unset, .unset, .unset, .unset, .unset, .unset, .unset, .unset] [(.int p4)])) _
    refine XS.iconst X0.here hx rfl (hb hby at_6) ?_
    show Steps p.tables e below (s₁.setTop (mkF m 7 #[.val (.int p1), .val (.int p2), .val (.int p3), .val (.int p4), .val (.int (p3 &&& (3 : Int32))), .unset, .unset, .unset, .unset, .unset, .unset, .unset, .unset, .unset, .unset, .unset, .unset] [(.int (4 : Int32)), (.int p4)])) _
    refine XS.iand X0.here hx rfl (hb hby at_7) rfl ?_
    exact k
  obtain ⟨mo, h_mo⟩ : ∃ z : Int32, z = (p3 &&& (3 : Int32)) := ⟨_, rfl⟩
  rw [← h_mo] at C62
  rw [← h_mo] at hmode
  have C63 : ∀ t, Steps p.tables e below (s₁.setTop (mkF m 18 #[.val (.int p1), .val (.int p2), .val (.int p3), .val (.int p4), .val (.int mo), .val (.int (1 : Int32)), .unset, .unset, .unset, .unset, .unset, .unset, .unset, .unset, .unset, .unset, .unset] [])) t → Steps p.tables e below (s₁.setTop (entryFrame m #[(.int p1), (.int p2), (.int p3), (.int p4)] maxLocals)) t := by
    intro t k
    refine C62 t ?_
    show Steps p.tables e below (s₁.setTop (mkF m 8 #[.val (.int p1), .val (.int p2), .val (.int p3), .val (.int p4), .val (.int mo), .unset, .unset, .unset, .unset, .unset, .unset, .unset, .unset, .unset, .unset, .unset, .unset] [(.int (p4 &&& (4 : Int32)))])) _
    refine XS.ifNo X0.here hx rfl (hb hby at_8) rfl (XT.i0_eq_f hsame) ?_
    show Steps p.tables e below (s₁.setTop (mkF m 11 #[.val (.int p1), .val (.int p2), .val (.int p3), .val (.int p4), .val (.int mo), .unset, .unset, .unset, .unset, .unset, .unset, .unset, .unset, .unset, .unset, .unset, .unset] [])) _
    refine XS.iconst X0.here hx rfl (hb hby at_11) ?_
    show Steps p.tables e below (s₁.setTop (mkF m 12 #[.val (.int p1), .val (.int p2), .val (.int p3), .val (.int p4), .val (.int mo), .unset, .unset, .unset, .unset, .unset, .unset, .unset, .unset, .unset, .unset, .unset, .unset] [(.int (1 : Int32))])) _
    refine XS.goto X0.here hx rfl (pc0 := 12) (pc' := 16) rfl (hb hby at_12) (by decide) (by decide) ?_
    show Steps p.tables e below (s₁.setTop (mkF m 16 #[.val (.int p1), .val (.int p2), .val (.int p3), .val (.int p4), .val (.int mo), .unset, .unset, .unset, .unset, .unset, .unset, .unset, .unset, .unset, .unset, .unset, .unset] [(.int (1 : Int32))])) _
    refine XS.istore X0.here hx rfl (hb hby at_16) rfl (l' := #[.val (.int p1), .val (.int p2), .val (.int p3), .val (.int p4), .val (.int mo), .val (.int (1 : Int32)), .unset, .unset, .unset, .unset, .unset, .unset, .unset, .unset, .unset, .unset, .unset]) rfl ?_
    exact k
  obtain ⟨T64, h64, X64, e64, E64, A64, D64, -, st64⟩ := newO X0 hx hZ hown (hw _ (List.mem_of_getElem? (i := 0) rfl)) (hw _ (List.mem_of_getElem? (i := 1) rfl)) (hw _ (List.mem_of_getElem? (i := 2) rfl)) e0 (g := (mkF m 18 #[.val (.int p1), .val (.int p2), .val (.int p3), .val (.int p4), .val (.int mo), .val (.int (1 : Int32)), .unset, .unset, .unset, .unset, .unset, .unset, .unset, .unset, .unset, .unset, .unset] [])) rfl (hb hby at_18) (by decide) (by decide)
  obtain ⟨b64, g64⟩ : ∃ z, z = h0.size := ⟨_, rfl⟩
  rw [← g64] at A64 D64 st64
  have C64 : ∀ t, Steps p.tables e below (T64.setTop (mkF m 21 #[.val (.int p1), .val (.int p2), .val (.int p3), .val (.int p4), .val (.int mo), .val (.int (1 : Int32)), .unset, .unset, .unset, .unset, .unset, .unset, .unset, .unset, .unset, .unset, .unset] [(.ref b64)])) t → Steps p.tables e below (s₁.setTop (entryFrame m #[(.int p1), (.int p2), (.int p3), (.int p4)] maxLocals)) t := fun t k => C63 t (st64 t k)
  have F1_64 : Fld Z h64 b64 "com/example/coverline/coverline/Instants" "times" "[D" .null := D64 (Or.inr (hw _ (List.mem_of_getElem? (i := 11) rfl))) (ty := (.array .double)) (by decide)
  have F2_64 : Fld Z h64 b64 "com/example/coverline/coverline/Instants" "remainders" "[D" .null := D64 (Or.inr (hw _ (List.mem_of_getElem? (i := 13) rfl))) (ty := (.array .double)) (by decide)
  have Zs64 : n0 ≤ h64.size := Nat.le_trans Z0 E64.1
  have gb64 : n0 ≤ b64 := Nat.le_trans Z0 (Nat.le_of_eq g64.symm)
  have C65 : ∀ t, Steps p.tables e below (T64.setTop (mkF m 23 #[.val (.int p1), .val (.int p2), .val (.int p3), .val (.int p4), .val (.int mo), .val (.int (1 : Int32)), .unset, .unset, .unset, .unset, .unset, .unset, .unset, .unset, .unset, .unset, .unset] [(.int (2 : Int32)), (.ref b64), (.ref b64)])) t → Steps p.tables e below (s₁.setTop (entryFrame m #[(.int p1), (.int p2), (.int p3), (.int p4)] maxLocals)) t := by
    intro t k
    refine C64 t ?_
    show Steps p.tables e below (T64.setTop (mkF m 21 #[.val (.int p1), .val (.int p2), .val (.int p3), .val (.int p4), .val (.int mo), .val (.int (1 : Int32)), .unset, .unset, .unset, .unset, .unset, .unset, .unset, .unset, .unset, .unset, .unset] [(.ref b64)])) _
    refine XS.dup X64.here hx rfl (hb hby at_21) rfl rfl ?_
    show Steps p.tables e below (T64.setTop (mkF m 22 #[.val (.int p1), .val (.int p2), .val (.int p3), .val (.int p4), .val (.int mo), .val (.int (1 : Int32)), .unset, .unset, .unset, .unset, .unset, .unset, .unset, .unset, .unset, .unset, .unset] [(.ref b64), (.ref b64)])) _
    refine XS.iconst X64.here hx rfl (hb hby at_22) ?_
    exact k
  obtain ⟨_, _, ⟨T66, L66, k66, n66⟩, -, X66, ⟨Lc66, hQ66, l66, y66, z66⟩, st66⟩ := X64.specialBack hx (y := (⟨"com/example/coverline/coverline/Instants", "<init>", "(I)V"⟩ : MethodName)) rfl hown (mvT hZ (hw _ (List.mem_of_getElem? (i := 3) rfl))) (mvT hZ (hw _ (List.mem_of_getElem? (i := 4) rfl))) (mvT hZ (hw _ (List.mem_of_getElem? (i := 5) rfl))) (by decide) (backOf (W := 1) (rm1 l Z a0 hw [] b64 (2 : Int32) 2 h64 n0 Zs64 F1_64 F2_64 A64 gb64 (by decide) (by decide) (by decide)) hZ (hw _ (List.mem_of_getElem? (i := 5) rfl)) (hw _ (List.mem_of_getElem? (i := 2) rfl)) (by decide) (by decide)) (g := (mkF m 23 #[.val (.int p1), .val (.int p2), .val (.int p3), .val (.int p4), .val (.int mo), .val (.int (1 : Int32)), .unset, .unset, .unset, .unset, .unset, .unset, .unset, .unset, .unset, .unset, .unset] [(.int (2 : Int32)), (.ref b64), (.ref b64)])) rfl (by rw [hml]; rfl) (Steps.refl _) (a := b64) (argsL := [(.int (2 : Int32))]) (rest := [(.ref b64)]) (lenOf pd1 rfl) rfl (by show 2 * 0 + _ ≤ _; exact Nat.le_of_eq rfl) (hb hby at_23) (fun _ _ => ⟨rfl, e64, (by decide : 1 + 2 ≤ _), (by decide : 2 + 4 ≤ _)⟩)
  dsimp only [Pt.U, Pt.locs, Pt.cells, Pt.slots] at X66 l66 y66 z66 st66 hQ66
  subst l66 y66 z66
  obtain ⟨rfl, N66q, t66, r66, I66, K66, ft66, fr66⟩ := hQ66
  have N66 := Fr.app N0 N66q
  have C66 : ∀ t, Steps p.tables e below (T66.setTop (mkF m 26 #[.val (.int p1), .val (.int p2), .val (.int p3), .val (.int p4), .val (.int mo), .val (.int (1 : Int32)), .unset, .unset, .unset, .unset, .unset, .unset, .unset, .unset, .unset, .unset, .unset] [(.ref b64)])) t → Steps p.tables e below (s₁.setTop (entryFrame m #[(.int p1), (.int p2), (.int p3), (.int p4)] maxLocals)) t := fun t k => C65 t (st66.trans k)
  have Zc66 : n0 ≤ T66.heap.size := Nat.le_trans Zs64 K66.1
  have gt66 : n0 ≤ t66 := Nat.le_trans Zs64 ft66
  have gr66 : n0 ≤ r66 := Nat.le_trans Zs64 fr66
  have I1 := I66
  have C67 : ∀ t, Steps p.tables e below (T66.setTop (mkF m 55 #[.val (.int p1), .val (.int p2), .val (.int p3), .val (.int p4), .val (.int mo), .val (.int (1 : Int32)), .val (.ref b64), .val (.ref b64), .val (.int (p4 &&& (1 : Int32))), .unset, .unset, .unset, .unset, .unset, .unset, .unset, .unset] [(.int (1 : Int32))])) t → Steps p.tables e below (s₁.setTop (entryFrame m #[(.int p1), (.int p2), (.int p3), (.int p4)] maxLocals)) t := by
    intro t k
    refine C66 t ?_
    show Steps p.tables e below (T66.setTop (mkF m 26 #[.val (.int p1), .val (.int p2), .val (.int p3), .val (.int p4), .val (.int mo), .val (.int (1 : Int32)), .unset, .unset, .unset, .unset, .unset, .unset, .unset, .unset, .unset, .unset, .unset] [(.ref b64)])) _
    refine XS.astore X66.here hx rfl (hb hby at_26) rfl rfl (l' := #[.val (.int p1), .val (.int p2), .val (.int p3), .val (.int p4), .val (.int mo), .val (.int (1 : Int32)), .val (.ref b64), .unset, .unset, .unset, .unset, .unset, .unset, .unset, .unset, .unset, .unset]) rfl ?_
    show Steps p.tables e below (T66.setTop (mkF m 28 #[.val (.int p1), .val (.int p2), .val (.int p3), .val (.int p4), .val (.int mo), .val (.int (1 : Int32)), .val (.ref b64), .unset, .unset, .unset, .unset, .unset, .unset, .unset, .unset, .unset, .unset] [])) _
    refine XS.iload X66.here hx rfl (hb hby at_28) rfl ?_
    show Steps p.tables e below (T66.setTop (mkF m 30 #[.val (.int p1), .val (.int p2), .val (.int p3), .val (.int p4), .val (.int mo), .val (.int (1 : Int32)), .val (.ref b64), .unset, .unset, .unset, .unset, .unset, .unset, .unset, .unset, .unset, .unset] [(.int (1 : Int32))])) _
    refine XS.ifNo X66.here hx rfl (hb hby at_30) rfl (XT.i0_eq_f (by decide)) ?_
    show Steps p.tables e below (T66.setTop (mkF m 33 #[.val (.int p1), .val (.int p2), .val (.int p3), .val (.int p4), .val (.int mo), .val (.int (1 : Int32)), .val (.ref b64), .unset, .unset, .unset, .unset, .unset, .unset, .unset, .unset, .unset, .unset] [])) _
    refine XS.aload X66.here hx rfl (hb hby at_33) rfl rfl ?_
    show Steps p.tables e below (T66.setTop (mkF m 35 #[.val (.int p1), .val (.int p2), .val (.int p3), .val (.int p4), .val (.int mo), .val (.int (1 : Int32)), .val (.ref b64), .unset, .unset, .unset, .unset, .unset, .unset, .unset, .unset, .unset, .unset] [(.ref b64)])) _
    refine XS.goto X66.here hx rfl (pc0 := 35) (pc' := 46) rfl (hb hby at_35) (by decide) (by decide) ?_
    show Steps p.tables e below (T66.setTop (mkF m 46 #[.val (.int p1), .val (.int p2), .val (.int p3), .val (.int p4), .val (.int mo), .val (.int (1 : Int32)), .val (.ref b64), .unset, .unset, .unset, .unset, .unset, .unset, .unset, .unset, .unset, .unset] [(.ref b64)])) _
    refine XS.astore X66.here hx rfl (hb hby at_46) rfl rfl (l' := #[.val (.int p1), .val (.int p2), .val (.int p3), .val (.int p4), .val (.int mo), .val (.int (1 : Int32)), .val (.ref b64), .val (.ref b64), .unset, .unset, .unset, .unset, .unset, .unset, .unset, .unset, .unset]) rfl ?_
    show Steps p.tables e below (T66.setTop (mkF m 48 #[.val (.int p1), .val (.int p2), .val (.int p3), .val (.int p4), .val (.int mo), .val (.int (1 : Int32)), .val (.ref b64), .val (.ref b64), .unset, .unset, .unset, .unset, .unset, .unset, .unset, .unset, .unset] [])) _
    refine XS.iloadN X66.here hx rfl (hb hby at_48) rfl ?_
    show Steps p.tables e below (T66.setTop (mkF m 49 #[.val (.int p1), .val (.int p2), .val (.int p3), .val (.int p4), .val (.int mo), .val (.int (1 : Int32)), .val (.ref b64), .val (.ref b64), .unset, .unset, .unset, .unset, .unset, .unset, .unset, .unset, .unset] [(.int p4)])) _
    refine XS.iconst X66.here hx rfl (hb hby at_49) ?_
    show Steps p.tables e below (T66.setTop (mkF m 50 #[.val (.int p1), .val (.int p2), .val (.int p3), .val (.int p4), .val (.int mo), .val (.int (1 : Int32)), .val (.ref b64), .val (.ref b64), .unset, .unset, .unset, .unset, .unset, .unset, .unset, .unset, .unset] [(.int (1 : Int32)), (.int p4)])) _
    refine XS.iand X66.here hx rfl (hb hby at_50) rfl ?_
    show Steps p.tables e below (T66.setTop (mkF m 51 #[.val (.int p1), .val (.int p2), .val (.int p3), .val (.int p4), .val (.int mo), .val (.int (1 : Int32)), .val (.ref b64), .val (.ref b64), .unset, .unset, .unset, .unset, .unset, .unset, .unset, .unset, .unset] [(.int (p4 &&& (1 : Int32)))])) _
    refine XS.istore X66.here hx rfl (hb hby at_51) rfl (l' := #[.val (.int p1), .val (.int p2), .val (.int p3), .val (.int p4), .val (.int mo), .val (.int (1 : Int32)), .val (.ref b64), .val (.ref b64), .val (.int (p4 &&& (1 : Int32))), .unset, .unset, .unset, .unset, .unset, .unset, .unset, .unset]) rfl ?_
    show Steps p.tables e below (T66.setTop (mkF m 53 #[.val (.int p1), .val (.int p2), .val (.int p3), .val (.int p4), .val (.int mo), .val (.int (1 : Int32)), .val (.ref b64), .val (.ref b64), .val (.int (p4 &&& (1 : Int32))), .unset, .unset, .unset, .unset, .unset, .unset, .unset, .unset] [])) _
    refine XS.iload X66.here hx rfl (hb hby at_53) rfl ?_
    exact k
  obtain ⟨ii, h_ii⟩ : ∃ z : Int32, z = (p4 &&& (1 : Int32)) := ⟨_, rfl⟩
  rw [← h_ii] at C67
  have C68 : ∀ t, Steps p.tables e below (T66.setTop (mkF m 74 #[.val (.int p1), .val (.int p2), .val (.int p3), .val (.int p4), .val (.int mo), .val (.int (1 : Int32)), .val (.ref b64), .val (.ref b64), .val (.int ii), .val (.int ((1 : Int32) - ii)), .unset, .unset, .unset, .unset, .unset, .unset, .unset] [(.int mo)])) t → Steps p.tables e below (s₁.setTop (entryFrame m #[(.int p1), (.int p2), (.int p3), (.int p4)] maxLocals)) t := by
    intro t k
    refine C67 t ?_
    show Steps p.tables e below (T66.setTop (mkF m 55 #[.val (.int p1), .val (.int p2), .val (.int p3), .val (.int p4), .val (.int mo), .val (.int (1 : Int32)), .val (.ref b64), .val (.ref b64), .val (.int ii), .unset, .unset, .unset, .unset, .unset, .unset, .unset, .unset] [(.int (1 : Int32))])) _
    refine XS.ifNo X66.here hx rfl (hb hby at_55) rfl (XT.i0_eq_f (by decide)) ?_
    show Steps p.tables e below (T66.setTop (mkF m 58 #[.val (.int p1), .val (.int p2), .val (.int p3), .val (.int p4), .val (.int mo), .val (.int (1 : Int32)), .val (.ref b64), .val (.ref b64), .val (.int ii), .unset, .unset, .unset, .unset, .unset, .unset, .unset, .unset] [])) _
    refine XS.iconst X66.here hx rfl (hb hby at_58) ?_
    show Steps p.tables e below (T66.setTop (mkF m 59 #[.val (.int p1), .val (.int p2), .val (.int p3), .val (.int p4), .val (.int mo), .val (.int (1 : Int32)), .val (.ref b64), .val (.ref b64), .val (.int ii), .unset, .unset, .unset, .unset, .unset, .unset, .unset, .unset] [(.int (1 : Int32))])) _
    refine XS.iload X66.here hx rfl (hb hby at_59) rfl ?_
    show Steps p.tables e below (T66.setTop (mkF m 61 #[.val (.int p1), .val (.int p2), .val (.int p3), .val (.int p4), .val (.int mo), .val (.int (1 : Int32)), .val (.ref b64), .val (.ref b64), .val (.int ii), .unset, .unset, .unset, .unset, .unset, .unset, .unset, .unset] [(.int ii), (.int (1 : Int32))])) _
    refine XS.isub X66.here hx rfl (hb hby at_61) rfl ?_
    show Steps p.tables e below (T66.setTop (mkF m 62 #[.val (.int p1), .val (.int p2), .val (.int p3), .val (.int p4), .val (.int mo), .val (.int (1 : Int32)), .val (.ref b64), .val (.ref b64), .val (.int ii), .unset, .unset, .unset, .unset, .unset, .unset, .unset, .unset] [(.int ((1 : Int32) - ii))])) _
    refine XS.goto X66.here hx rfl (pc0 := 62) (pc' := 70) rfl (hb hby at_62) (by decide) (by decide) ?_
    show Steps p.tables e below (T66.setTop (mkF m 70 #[.val (.int p1), .val (.int p2), .val (.int p3), .val (.int p4), .val (.int mo), .val (.int (1 : Int32)), .val (.ref b64), .val (.ref b64), .val (.int ii), .unset, .unset, .unset, .unset, .unset, .unset, .unset, .unset] [(.int ((1 : Int32) - ii))])) _
    refine XS.istore X66.here hx rfl (hb hby at_70) rfl (l' := #[.val (.int p1), .val (.int p2), .val (.int p3), .val (.int p4), .val (.int mo), .val (.int (1 : Int32)), .val (.ref b64), .val (.ref b64), .val (.int ii), .val (.int ((1 : Int32) - ii)), .unset, .unset, .unset, .unset, .unset, .unset, .unset]) rfl ?_
    show Steps p.tables e below (T66.setTop (mkF m 72 #[.val (.int p1), .val (.int p2), .val (.int p3), .val (.int p4), .val (.int mo), .val (.int (1 : Int32)), .val (.ref b64), .val (.ref b64), .val (.int ii), .val (.int ((1 : Int32) - ii)), .unset, .unset, .unset, .unset, .unset, .unset, .unset] [])) _
    refine XS.iload X66.here hx rfl (hb hby at_72) rfl ?_
    exact k
  obtain ⟨jj, h_jj⟩ : ∃ z : Int32, z = ((1 : Int32) - ii) := ⟨_, rfl⟩
  rw [← h_jj] at C68
  have hii : ¬ ii < 0 ∧ ii.toNatClampNeg < 2 := by rw [h_ii]; exact own_bit p4
  have hjj : ¬ jj < 0 ∧ jj.toNatClampNeg < 2 := by rw [h_jj]; exact (own_flip hii).1
  have hij : jj.toNatClampNeg ≠ ii.toNatClampNeg := by rw [h_jj]; exact (own_flip hii).2
  have C69 : ∀ t, Steps p.tables e below (T66.setTop (mkF m 118 #[.val (.int p1), .val (.int p2), .val (.int p3), .val (.int p4), .val (.int mo), .val (.int (1 : Int32)), .val (.ref b64), .val (.ref b64), .val (.int ii), .val (.int jj), .unset, .unset, .val (.int (p1 >>> ((12 : Int32) &&& 31))), .val (.int (p2 >>> ((12 : Int32) &&& 31))), .unset, .unset, .unset] [])) t → Steps p.tables e below (s₁.setTop (entryFrame m #[(.int p1), (.int p2), (.int p3), (.int p4)] maxLocals)) t := by
    intro t k
    refine C68 t ?_
    show Steps p.tables e below (T66.setTop (mkF m 74 #[.val (.int p1), .val (.int p2), .val (.int p3), .val (.int p4), .val (.int mo), .val (.int (1 : Int32)), .val (.ref b64), .val (.ref b64), .val (.int ii), .val (.int jj), .unset, .unset, .unset, .unset, .unset, .unset, .unset] [(.int mo)])) _
    refine XS.ifYes X66.here hx rfl (pc0 := 74) (pc' := 106) rfl (hb hby at_74) rfl (XT.i0_ne_t hmode) (by decide) (by decide) ?_
    show Steps p.tables e below (T66.setTop (mkF m 106 #[.val (.int p1), .val (.int p2), .val (.int p3), .val (.int p4), .val (.int mo), .val (.int (1 : Int32)), .val (.ref b64), .val (.ref b64), .val (.int ii), .val (.int jj), .unset, .unset, .unset, .unset, .unset, .unset, .unset] [])) _
    refine XS.iloadN X66.here hx rfl (hb hby at_106) rfl ?_
    show Steps p.tables e below (T66.setTop (mkF m 107 #[.val (.int p1), .val (.int p2), .val (.int p3), .val (.int p4), .val (.int mo), .val (.int (1 : Int32)), .val (.ref b64), .val (.ref b64), .val (.int ii), .val (.int jj), .unset, .unset, .unset, .unset, .unset, .unset, .unset] [(.int p1)])) _
    refine XS.bipush X66.here hx rfl (hb hby at_107) ?_
    show Steps p.tables e below (T66.setTop (mkF m 109 #[.val (.int p1), .val (.int p2), .val (.int p3), .val (.int p4), .val (.int mo), .val (.int (1 : Int32)), .val (.ref b64), .val (.ref b64), .val (.int ii), .val (.int jj), .unset, .unset, .unset, .unset, .unset, .unset, .unset] [(.int (12 : Int32)), (.int p1)])) _
    refine XS.ishr X66.here hx rfl (hb hby at_109) rfl ?_
    show Steps p.tables e below (T66.setTop (mkF m 110 #[.val (.int p1), .val (.int p2), .val (.int p3), .val (.int p4), .val (.int mo), .val (.int (1 : Int32)), .val (.ref b64), .val (.ref b64), .val (.int ii), .val (.int jj), .unset, .unset, .unset, .unset, .unset, .unset, .unset] [(.int (p1 >>> ((12 : Int32) &&& 31)))])) _
    refine XS.istore X66.here hx rfl (hb hby at_110) rfl (l' := #[.val (.int p1), .val (.int p2), .val (.int p3), .val (.int p4), .val (.int mo), .val (.int (1 : Int32)), .val (.ref b64), .val (.ref b64), .val (.int ii), .val (.int jj), .unset, .unset, .val (.int (p1 >>> ((12 : Int32) &&& 31))), .unset, .unset, .unset, .unset]) rfl ?_
    show Steps p.tables e below (T66.setTop (mkF m 112 #[.val (.int p1), .val (.int p2), .val (.int p3), .val (.int p4), .val (.int mo), .val (.int (1 : Int32)), .val (.ref b64), .val (.ref b64), .val (.int ii), .val (.int jj), .unset, .unset, .val (.int (p1 >>> ((12 : Int32) &&& 31))), .unset, .unset, .unset, .unset] [])) _
    refine XS.iloadN X66.here hx rfl (hb hby at_112) rfl ?_
    show Steps p.tables e below (T66.setTop (mkF m 113 #[.val (.int p1), .val (.int p2), .val (.int p3), .val (.int p4), .val (.int mo), .val (.int (1 : Int32)), .val (.ref b64), .val (.ref b64), .val (.int ii), .val (.int jj), .unset, .unset, .val (.int (p1 >>> ((12 : Int32) &&& 31))), .unset, .unset, .unset, .unset] [(.int p2)])) _
    refine XS.bipush X66.here hx rfl (hb hby at_113) ?_
    show Steps p.tables e below (T66.setTop (mkF m 115 #[.val (.int p1), .val (.int p2), .val (.int p3), .val (.int p4), .val (.int mo), .val (.int (1 : Int32)), .val (.ref b64), .val (.ref b64), .val (.int ii), .val (.int jj), .unset, .unset, .val (.int (p1 >>> ((12 : Int32) &&& 31))), .unset, .unset, .unset, .unset] [(.int (12 : Int32)), (.int p2)])) _
    refine XS.ishr X66.here hx rfl (hb hby at_115) rfl ?_
    show Steps p.tables e below (T66.setTop (mkF m 116 #[.val (.int p1), .val (.int p2), .val (.int p3), .val (.int p4), .val (.int mo), .val (.int (1 : Int32)), .val (.ref b64), .val (.ref b64), .val (.int ii), .val (.int jj), .unset, .unset, .val (.int (p1 >>> ((12 : Int32) &&& 31))), .unset, .unset, .unset, .unset] [(.int (p2 >>> ((12 : Int32) &&& 31)))])) _
    refine XS.istore X66.here hx rfl (hb hby at_116) rfl (l' := #[.val (.int p1), .val (.int p2), .val (.int p3), .val (.int p4), .val (.int mo), .val (.int (1 : Int32)), .val (.ref b64), .val (.ref b64), .val (.int ii), .val (.int jj), .unset, .unset, .val (.int (p1 >>> ((12 : Int32) &&& 31))), .val (.int (p2 >>> ((12 : Int32) &&& 31))), .unset, .unset, .unset]) rfl ?_
    exact k
  obtain ⟨da, h_da⟩ : ∃ z : Int32, z = (p1 >>> ((12 : Int32) &&& 31)) := ⟨_, rfl⟩
  rw [← h_da] at C69
  obtain ⟨db, h_db⟩ : ∃ z : Int32, z = (p2 >>> ((12 : Int32) &&& 31)) := ⟨_, rfl⟩
  rw [← h_db] at C69
  have hda := own_sh p1
  rw [← h_da] at hda
  have hdb := own_sh p2
  rw [← h_db] at hdb
  have C70 : ∀ t, Steps p.tables e below (T66.setTop (mkF m 121 #[.val (.int p1), .val (.int p2), .val (.int p3), .val (.int p4), .val (.int mo), .val (.int (1 : Int32)), .val (.ref b64), .val (.ref b64), .val (.int ii), .val (.int jj), .unset, .unset, .val (.int da), .val (.int db), .unset, .unset, .unset] [(.int (1 : Int32)), (.int mo)])) t → Steps p.tables e below (s₁.setTop (entryFrame m #[(.int p1), (.int p2), (.int p3), (.int p4)] maxLocals)) t := by
    intro t k
    refine C69 t ?_
    show Steps p.tables e below (T66.setTop (mkF m 118 #[.val (.int p1), .val (.int p2), .val (.int p3), .val (.int p4), .val (.int mo), .val (.int (1 : Int32)), .val (.ref b64), .val (.ref b64), .val (.int ii), .val (.int jj), .unset, .unset, .val (.int da), .val (.int db), .unset, .unset, .unset] [])) _
    refine XS.iload X66.here hx rfl (hb hby at_118) rfl ?_
    show Steps p.tables e below (T66.setTop (mkF m 120 #[.val (.int p1), .val (.int p2), .val (.int p3), .val (.int p4), .val (.int mo), .val (.int (1 : Int32)), .val (.ref b64), .val (.ref b64), .val (.int ii), .val (.int jj), .unset, .unset, .val (.int da), .val (.int db), .unset, .unset, .unset] [(.int mo)])) _
    refine XS.iconst X66.here hx rfl (hb hby at_120) ?_
    exact k
  obtain ⟨bs, hbs, C145⟩ : ∃ bs : UInt64, OwnBase bs ∧ ∀ t, Steps p.tables e below (T66.setTop (mkF m 145 #[.val (.int p1), .val (.int p2), .val (.int p3), .val (.int p4), .val (.int mo), .val (.int (1 : Int32)), .val (.ref b64), .val (.ref b64), .val (.int ii), .val (.int jj), .unset, .unset, .val (.int da), .val (.int db), .unset, .unset, .unset] [(.double bs)])) t → Steps p.tables e below (s₁.setTop (entryFrame m #[(.int p1), (.int p2), (.int p3), (.int p4)] maxLocals)) t := by
    by_cases hm1 : mo = 1
    · refine ⟨4845873199050653696, own_base1, ?_⟩
      intro t k
      refine C70 t ?_
      show Steps p.tables e below (T66.setTop (mkF m 121 #[.val (.int p1), .val (.int p2), .val (.int p3), .val (.int p4), .val (.int mo), .val (.int (1 : Int32)), .val (.ref b64), .val (.ref b64), .val (.int ii), .val (.int jj), .unset, .unset, .val (.int da), .val (.int db), .unset, .unset, .unset] [(.int (1 : Int32)), (.int mo)])) _
      refine XS.icmpNo X66.here hx rfl (hb hby at_121) rfl (XT.ii_ne_f hm1) ?_
      show Steps p.tables e below (T66.setTop (mkF m 124 #[.val (.int p1), .val (.int p2), .val (.int p3), .val (.int p4), .val (.int mo), .val (.int (1 : Int32)), .val (.ref b64), .val (.ref b64), .val (.int ii), .val (.int jj), .unset, .unset, .val (.int da), .val (.int db), .unset, .unset, .unset] [])) _
      refine X66.ldc2DoubleC hx hown (mvT hZ (hw _ (List.mem_of_getElem? (i := 34) rfl))) (g := (mkF m 124 #[.val (.int p1), .val (.int p2), .val (.int p3), .val (.int p4), .val (.int mo), .val (.int (1 : Int32)), .val (.ref b64), .val (.ref b64), .val (.int ii), .val (.int jj), .unset, .unset, .val (.int da), .val (.int db), .unset, .unset, .unset] [])) rfl (hb hby at_124) _ ?_
      show Steps p.tables e below (T66.setTop (mkF m 127 #[.val (.int p1), .val (.int p2), .val (.int p3), .val (.int p4), .val (.int mo), .val (.int (1 : Int32)), .val (.ref b64), .val (.ref b64), .val (.int ii), .val (.int jj), .unset, .unset, .val (.int da), .val (.int db), .unset, .unset, .unset] [(.double 4845873199050653696)])) _
      refine XS.goto X66.here hx rfl (pc0 := 127) (pc' := 145) rfl (hb hby at_127) (by decide) (by decide) ?_
      exact k
    · by_cases hm2 : mo = 2
      · refine ⟨14100770433297022976, own_base2, ?_⟩
        intro t k
        refine C70 t ?_
        show Steps p.tables e below (T66.setTop (mkF m 121 #[.val (.int p1), .val (.int p2), .val (.int p3), .val (.int p4), .val (.int mo), .val (.int (1 : Int32)), .val (.ref b64), .val (.ref b64), .val (.int ii), .val (.int jj), .unset, .unset, .val (.int da), .val (.int db), .unset, .unset, .unset] [(.int (1 : Int32)), (.int mo)])) _
        refine XS.icmpYes X66.here hx rfl (pc0 := 121) (pc' := 130) rfl (hb hby at_121) rfl (XT.ii_ne_t hm1) (by decide) (by decide) ?_
        show Steps p.tables e below (T66.setTop (mkF m 130 #[.val (.int p1), .val (.int p2), .val (.int p3), .val (.int p4), .val (.int mo), .val (.int (1 : Int32)), .val (.ref b64), .val (.ref b64), .val (.int ii), .val (.int jj), .unset, .unset, .val (.int da), .val (.int db), .unset, .unset, .unset] [])) _
        refine XS.iload X66.here hx rfl (hb hby at_130) rfl ?_
        show Steps p.tables e below (T66.setTop (mkF m 132 #[.val (.int p1), .val (.int p2), .val (.int p3), .val (.int p4), .val (.int mo), .val (.int (1 : Int32)), .val (.ref b64), .val (.ref b64), .val (.int ii), .val (.int jj), .unset, .unset, .val (.int da), .val (.int db), .unset, .unset, .unset] [(.int mo)])) _
        refine XS.iconst X66.here hx rfl (hb hby at_132) ?_
        show Steps p.tables e below (T66.setTop (mkF m 133 #[.val (.int p1), .val (.int p2), .val (.int p3), .val (.int p4), .val (.int mo), .val (.int (1 : Int32)), .val (.ref b64), .val (.ref b64), .val (.int ii), .val (.int jj), .unset, .unset, .val (.int da), .val (.int db), .unset, .unset, .unset] [(.int (2 : Int32)), (.int mo)])) _
        refine XS.icmpNo X66.here hx rfl (hb hby at_133) rfl (XT.ii_ne_f hm2) ?_
        show Steps p.tables e below (T66.setTop (mkF m 136 #[.val (.int p1), .val (.int p2), .val (.int p3), .val (.int p4), .val (.int mo), .val (.int (1 : Int32)), .val (.ref b64), .val (.ref b64), .val (.int ii), .val (.int jj), .unset, .unset, .val (.int da), .val (.int db), .unset, .unset, .unset] [])) _
        refine X66.ldc2DoubleC hx hown (mvT hZ (hw _ (List.mem_of_getElem? (i := 14) rfl))) (g := (mkF m 136 #[.val (.int p1), .val (.int p2), .val (.int p3), .val (.int p4), .val (.int mo), .val (.int (1 : Int32)), .val (.ref b64), .val (.ref b64), .val (.int ii), .val (.int jj), .unset, .unset, .val (.int da), .val (.int db), .unset, .unset, .unset] [])) rfl (hb hby at_136) _ ?_
        show Steps p.tables e below (T66.setTop (mkF m 139 #[.val (.int p1), .val (.int p2), .val (.int p3), .val (.int p4), .val (.int mo), .val (.int (1 : Int32)), .val (.ref b64), .val (.ref b64), .val (.int ii), .val (.int jj), .unset, .unset, .val (.int da), .val (.int db), .unset, .unset, .unset] [(.double 14100770433297022976)])) _
        refine XS.goto X66.here hx rfl (pc0 := 139) (pc' := 145) rfl (hb hby at_139) (by decide) (by decide) ?_
        exact k
      · refine ⟨4967470388989657088, own_base3, ?_⟩
        intro t k
        refine C70 t ?_
        show Steps p.tables e below (T66.setTop (mkF m 121 #[.val (.int p1), .val (.int p2), .val (.int p3), .val (.int p4), .val (.int mo), .val (.int (1 : Int32)), .val (.ref b64), .val (.ref b64), .val (.int ii), .val (.int jj), .unset, .unset, .val (.int da), .val (.int db), .unset, .unset, .unset] [(.int (1 : Int32)), (.int mo)])) _
        refine XS.icmpYes X66.here hx rfl (pc0 := 121) (pc' := 130) rfl (hb hby at_121) rfl (XT.ii_ne_t hm1) (by decide) (by decide) ?_
        show Steps p.tables e below (T66.setTop (mkF m 130 #[.val (.int p1), .val (.int p2), .val (.int p3), .val (.int p4), .val (.int mo), .val (.int (1 : Int32)), .val (.ref b64), .val (.ref b64), .val (.int ii), .val (.int jj), .unset, .unset, .val (.int da), .val (.int db), .unset, .unset, .unset] [])) _
        refine XS.iload X66.here hx rfl (hb hby at_130) rfl ?_
        show Steps p.tables e below (T66.setTop (mkF m 132 #[.val (.int p1), .val (.int p2), .val (.int p3), .val (.int p4), .val (.int mo), .val (.int (1 : Int32)), .val (.ref b64), .val (.ref b64), .val (.int ii), .val (.int jj), .unset, .unset, .val (.int da), .val (.int db), .unset, .unset, .unset] [(.int mo)])) _
        refine XS.iconst X66.here hx rfl (hb hby at_132) ?_
        show Steps p.tables e below (T66.setTop (mkF m 133 #[.val (.int p1), .val (.int p2), .val (.int p3), .val (.int p4), .val (.int mo), .val (.int (1 : Int32)), .val (.ref b64), .val (.ref b64), .val (.int ii), .val (.int jj), .unset, .unset, .val (.int da), .val (.int db), .unset, .unset, .unset] [(.int (2 : Int32)), (.int mo)])) _
        refine XS.icmpYes X66.here hx rfl (pc0 := 133) (pc' := 142) rfl (hb hby at_133) rfl (XT.ii_ne_t hm2) (by decide) (by decide) ?_
        show Steps p.tables e below (T66.setTop (mkF m 142 #[.val (.int p1), .val (.int p2), .val (.int p3), .val (.int p4), .val (.int mo), .val (.int (1 : Int32)), .val (.ref b64), .val (.ref b64), .val (.int ii), .val (.int jj), .unset, .unset, .val (.int da), .val (.int db), .unset, .unset, .unset] [])) _
        refine X66.ldc2DoubleC hx hown (mvT hZ (hw _ (List.mem_of_getElem? (i := 33) rfl))) (g := (mkF m 142 #[.val (.int p1), .val (.int p2), .val (.int p3), .val (.int p4), .val (.int mo), .val (.int (1 : Int32)), .val (.ref b64), .val (.ref b64), .val (.int ii), .val (.int jj), .unset, .unset, .val (.int da), .val (.int db), .unset, .unset, .unset] [])) rfl (hb hby at_142) _ ?_
        exact k
  have C71 : ∀ t, Steps p.tables e below (T66.setTop (mkF m 147 #[.val (.int p1), .val (.int p2), .val (.int p3), .val (.int p4), .val (.int mo), .val (.int (1 : Int32)), .val (.ref b64), .val (.ref b64), .val (.int ii), .val (.int jj), .unset, .unset, .val (.int da), .val (.int db), .val (.double bs), .second, .unset] [])) t → Steps p.tables e below (s₁.setTop (entryFrame m #[(.int p1), (.int p2), (.int p3), (.int p4)] maxLocals)) t := by
    intro t k
    refine C145 t ?_
    show Steps p.tables e below (T66.setTop (mkF m 145 #[.val (.int p1), .val (.int p2), .val (.int p3), .val (.int p4), .val (.int mo), .val (.int (1 : Int32)), .val (.ref b64), .val (.ref b64), .val (.int ii), .val (.int jj), .unset, .unset, .val (.int da), .val (.int db), .unset, .unset, .unset] [(.double bs)])) _
    refine XS.dstore X66.here hx rfl (hb hby at_145) rfl (l' := #[.val (.int p1), .val (.int p2), .val (.int p3), .val (.int p4), .val (.int mo), .val (.int (1 : Int32)), .val (.ref b64), .val (.ref b64), .val (.int ii), .val (.int jj), .unset, .unset, .val (.int da), .val (.int db), .val (.double bs), .second, .unset]) rfl ?_
    exact k
  obtain ⟨T72, h72, X72, e72, E72, A72, D72, -, st72⟩ := newO X66 hx hZ hown (hw _ (List.mem_of_getElem? (i := 0) rfl)) (hw _ (List.mem_of_getElem? (i := 1) rfl)) (hw _ (List.mem_of_getElem? (i := 2) rfl)) rfl (g := (mkF m 147 #[.val (.int p1), .val (.int p2), .val (.int p3), .val (.int p4), .val (.int mo), .val (.int (1 : Int32)), .val (.ref b64), .val (.ref b64), .val (.int ii), .val (.int jj), .unset, .unset, .val (.int da), .val (.int db), .val (.double bs), .second, .unset] [])) rfl (hb hby at_147) (by decide) (by decide)
  obtain ⟨b72, g72⟩ : ∃ z, z = T66.heap.size := ⟨_, rfl⟩
  rw [← g72] at A72 D72 st72
  have C72 : ∀ t, Steps p.tables e below (T72.setTop (mkF m 150 #[.val (.int p1), .val (.int p2), .val (.int p3), .val (.int p4), .val (.int mo), .val (.int (1 : Int32)), .val (.ref b64), .val (.ref b64), .val (.int ii), .val (.int jj), .unset, .unset, .val (.int da), .val (.int db), .val (.double bs), .second, .unset] [(.ref b72)])) t → Steps p.tables e below (s₁.setTop (entryFrame m #[(.int p1), (.int p2), (.int p3), (.int p4)] maxLocals)) t := fun t k => C71 t (st72 t k)
  have F1_72 : Fld Z h72 b72 "com/example/coverline/coverline/Instants" "times" "[D" .null := D72 (Or.inr (hw _ (List.mem_of_getElem? (i := 11) rfl))) (ty := (.array .double)) (by decide)
  have F2_72 : Fld Z h72 b72 "com/example/coverline/coverline/Instants" "remainders" "[D" .null := D72 (Or.inr (hw _ (List.mem_of_getElem? (i := 13) rfl))) (ty := (.array .double)) (by decide)
  have Zs72 : n0 ≤ h72.size := Nat.le_trans Zc66 E72.1
  have gb72 : n0 ≤ b72 := Nat.le_trans Zc66 (Nat.le_of_eq g72.symm)
  have C73 : ∀ t, Steps p.tables e below (T72.setTop (mkF m 152 #[.val (.int p1), .val (.int p2), .val (.int p3), .val (.int p4), .val (.int mo), .val (.int (1 : Int32)), .val (.ref b64), .val (.ref b64), .val (.int ii), .val (.int jj), .unset, .unset, .val (.int da), .val (.int db), .val (.double bs), .second, .unset] [(.int (1 : Int32)), (.ref b72), (.ref b72)])) t → Steps p.tables e below (s₁.setTop (entryFrame m #[(.int p1), (.int p2), (.int p3), (.int p4)] maxLocals)) t := by
    intro t k
    refine C72 t ?_
    show Steps p.tables e below (T72.setTop (mkF m 150 #[.val (.int p1), .val (.int p2), .val (.int p3), .val (.int p4), .val (.int mo), .val (.int (1 : Int32)), .val (.ref b64), .val (.ref b64), .val (.int ii), .val (.int jj), .unset, .unset, .val (.int da), .val (.int db), .val (.double bs), .second, .unset] [(.ref b72)])) _
    refine XS.dup X72.here hx rfl (hb hby at_150) rfl rfl ?_
    show Steps p.tables e below (T72.setTop (mkF m 151 #[.val (.int p1), .val (.int p2), .val (.int p3), .val (.int p4), .val (.int mo), .val (.int (1 : Int32)), .val (.ref b64), .val (.ref b64), .val (.int ii), .val (.int jj), .unset, .unset, .val (.int da), .val (.int db), .val (.double bs), .second, .unset] [(.ref b72), (.ref b72)])) _
    refine XS.iconst X72.here hx rfl (hb hby at_151) ?_
    exact k
  obtain ⟨_, _, ⟨T74, L74, k74, n74⟩, -, X74, ⟨Lc74, hQ74, l74, y74, z74⟩, st74⟩ := X72.specialBack hx (y := (⟨"com/example/coverline/coverline/Instants", "<init>", "(I)V"⟩ : MethodName)) rfl hown (mvT hZ (hw _ (List.mem_of_getElem? (i := 3) rfl))) (mvT hZ (hw _ (List.mem_of_getElem? (i := 4) rfl))) (mvT hZ (hw _ (List.mem_of_getElem? (i := 5) rfl))) (by decide) (backOf (W := 1) (rm1 l Z a0 hw [] b72 (1 : Int32) 1 h72 n0 Zs72 F1_72 F2_72 A72 gb72 (by decide) (by decide) (by decide)) hZ (hw _ (List.mem_of_getElem? (i := 5) rfl)) (hw _ (List.mem_of_getElem? (i := 2) rfl)) (by decide) (by decide)) (g := (mkF m 152 #[.val (.int p1), .val (.int p2), .val (.int p3), .val (.int p4), .val (.int mo), .val (.int (1 : Int32)), .val (.ref b64), .val (.ref b64), .val (.int ii), .val (.int jj), .unset, .unset, .val (.int da), .val (.int db), .val (.double bs), .second, .unset] [(.int (1 : Int32)), (.ref b72), (.ref b72)])) rfl (by rw [hml]; rfl) (Steps.refl _) (a := b72) (argsL := [(.int (1 : Int32))]) (rest := [(.ref b72)]) (lenOf pd1 rfl) rfl (by show 2 * 0 + _ ≤ _; exact Nat.le_of_eq rfl) (hb hby at_152) (fun _ _ => ⟨rfl, e72, (by decide : 4 + 2 ≤ _), (by decide : 8 + 4 ≤ _)⟩)
  dsimp only [Pt.U, Pt.locs, Pt.cells, Pt.slots] at X74 l74 y74 z74 st74 hQ74
  subst l74 y74 z74
  obtain ⟨rfl, N74q, t74, r74, I74, K74, ft74, fr74⟩ := hQ74
  have N74 := Fr.app N66 N74q
  have C74 : ∀ t, Steps p.tables e below (T74.setTop (mkF m 155 #[.val (.int p1), .val (.int p2), .val (.int p3), .val (.int p4), .val (.int mo), .val (.int (1 : Int32)), .val (.ref b64), .val (.ref b64), .val (.int ii), .val (.int jj), .unset, .unset, .val (.int da), .val (.int db), .val (.double bs), .second, .unset] [(.ref b72)])) t → Steps p.tables e below (s₁.setTop (entryFrame m #[(.int p1), (.int p2), (.int p3), (.int p4)] maxLocals)) t := fun t k => C73 t (st74.trans k)
  have Zc74 : n0 ≤ T74.heap.size := Nat.le_trans Zs72 K74.1
  have gt74 : n0 ≤ t74 := Nat.le_trans Zs72 ft74
  have gr74 : n0 ≤ r74 := Nat.le_trans Zs72 fr74
  have I1o := I1.over E72 g72 K74
  have s1o := I1.sep E72.1 ft74 fr74
  have h00 : ¬ (0 : Int32) < 0 ∧ (0 : Int32).toNatClampNeg < 1 := by decide
  have C75 : ∀ t, Steps p.tables e below (T74.setTop (mkF m 162 #[.val (.int p1), .val (.int p2), .val (.int p3), .val (.int p4), .val (.int mo), .val (.int (1 : Int32)), .val (.ref b64), .val (.ref b64), .val (.int ii), .val (.int jj), .unset, .unset, .val (.int da), .val (.int db), .val (.double bs), .second, .val (.ref b72)] [(.double bs), (.int (0 : Int32)), (.ref b72)])) t → Steps p.tables e below (s₁.setTop (entryFrame m #[(.int p1), (.int p2), (.int p3), (.int p4)] maxLocals)) t := by
    intro t k
    refine C74 t ?_
    show Steps p.tables e below (T74.setTop (mkF m 155 #[.val (.int p1), .val (.int p2), .val (.int p3), .val (.int p4), .val (.int mo), .val (.int (1 : Int32)), .val (.ref b64), .val (.ref b64), .val (.int ii), .val (.int jj), .unset, .unset, .val (.int da), .val (.int db), .val (.double bs), .second, .unset] [(.ref b72)])) _
    refine XS.astore X74.here hx rfl (hb hby at_155) rfl rfl (l' := #[.val (.int p1), .val (.int p2), .val (.int p3), .val (.int p4), .val (.int mo), .val (.int (1 : Int32)), .val (.ref b64), .val (.ref b64), .val (.int ii), .val (.int jj), .unset, .unset, .val (.int da), .val (.int db), .val (.double bs), .second, .val (.ref b72)]) rfl ?_
    show Steps p.tables e below (T74.setTop (mkF m 157 #[.val (.int p1), .val (.int p2), .val (.int p3), .val (.int p4), .val (.int mo), .val (.int (1 : Int32)), .val (.ref b64), .val (.ref b64), .val (.int ii), .val (.int jj), .unset, .unset, .val (.int da), .val (.int db), .val (.double bs), .second, .val (.ref b72)] [])) _
    refine XS.aload X74.here hx rfl (hb hby at_157) rfl rfl ?_
    show Steps p.tables e below (T74.setTop (mkF m 159 #[.val (.int p1), .val (.int p2), .val (.int p3), .val (.int p4), .val (.int mo), .val (.int (1 : Int32)), .val (.ref b64), .val (.ref b64), .val (.int ii), .val (.int jj), .unset, .unset, .val (.int da), .val (.int db), .val (.double bs), .second, .val (.ref b72)] [(.ref b72)])) _
    refine XS.iconst X74.here hx rfl (hb hby at_159) ?_
    show Steps p.tables e below (T74.setTop (mkF m 160 #[.val (.int p1), .val (.int p2), .val (.int p3), .val (.int p4), .val (.int mo), .val (.int (1 : Int32)), .val (.ref b64), .val (.ref b64), .val (.int ii), .val (.int jj), .unset, .unset, .val (.int da), .val (.int db), .val (.double bs), .second, .val (.ref b72)] [(.int (0 : Int32)), (.ref b72)])) _
    refine XS.dload X74.here hx rfl (hb hby at_160) rfl ?_
    exact k
  obtain ⟨cq76, kq76, q76a, q76b, q76c⟩ := isOf hZ rfl I74.1
  obtain ⟨_, _, ⟨T76, L76, k76, n76⟩, -, X76, ⟨Lc76, hQ76, l76, y76, z76⟩, st76⟩ := X74.virtualBack hx (y := (⟨"com/example/coverline/coverline/Instants", "set", "(ID)V"⟩ : MethodName)) (z := (⟨"com/example/coverline/coverline/Instants", "set", "(ID)V"⟩ : MethodName)) hown (mvT hZ (hw _ (List.mem_of_getElem? (i := 15) rfl))) (mvT hZ (hw _ (List.mem_of_getElem? (i := 16) rfl))) (notFace_of_selects (args := #[]) (mvT hZ (hw _ (List.mem_of_getElem? (i := 18) rfl)))) (mvT hZ (hw _ (List.mem_of_getElem? (i := 18) rfl))) (mvT hZ (hw _ (List.mem_of_getElem? (i := 17) rfl))) (by decide) (backOf (W := 0) (rm3 l Z a0 hw [] b72 0 bs t74 r74 1 (fun _ => 0) (fun _ => 0) T74.heap n0 Zc74 I74 h00 gt74 gr74) hZ (hw _ (List.mem_of_getElem? (i := 19) rfl)) (hw _ (List.mem_of_getElem? (i := 2) rfl)) (by decide) (by decide)) q76a q76c (g := (mkF m 162 #[.val (.int p1), .val (.int p2), .val (.int p3), .val (.int p4), .val (.int mo), .val (.int (1 : Int32)), .val (.ref b64), .val (.ref b64), .val (.int ii), .val (.int jj), .unset, .unset, .val (.int da), .val (.int db), .val (.double bs), .second, .val (.ref b72)] [(.double bs), (.int (0 : Int32)), (.ref b72)])) rfl (by rw [hml]; rfl) (Steps.refl _) (argsL := [(.int (0 : Int32)), (.double bs)]) (rest := []) (lenOf pd2 rfl) rfl (by show 2 * 0 + _ ≤ _; exact Nat.le_of_eq rfl) (hb hby at_162) (fun _ _ => ⟨rfl, rfl, (by decide : 6 + 0 ≤ _), (by decide : 12 + 0 ≤ _)⟩)
  dsimp only [Pt.U, Pt.locs, Pt.cells, Pt.slots] at X76 l76 y76 z76 st76 hQ76
  subst l76 y76 z76
  obtain ⟨rfl, N76q, J76, K76⟩ := hQ76
  have N76 := Fr.app N74 N76q
  have C76 : ∀ t, Steps p.tables e below (T76.setTop (mkF m 165 #[.val (.int p1), .val (.int p2), .val (.int p3), .val (.int p4), .val (.int mo), .val (.int (1 : Int32)), .val (.ref b64), .val (.ref b64), .val (.int ii), .val (.int jj), .unset, .unset, .val (.int da), .val (.int db), .val (.double bs), .second, .val (.ref b72)] [])) t → Steps p.tables e below (s₁.setTop (entryFrame m #[(.int p1), (.int p2), (.int p3), (.int p4)] maxLocals)) t := fun t k => C75 t (st76.trans k)
  have Zc76 : n0 ≤ T76.heap.size := Nat.le_trans Zc74 K76.1
  have I1p := I1o.beside (hw _ (List.mem_of_getElem? (i := 1) rfl)) I74 K76 s1o
  obtain ⟨be, vl, vh, hbq, hlq, hhq, far⟩ := hbs
  obtain ⟨ta, va1, va2, va3, va4, va5, va6, va7, va8⟩ := own_after hbq hlq hhq far (own_w_i2d da) (by omega)
  obtain ⟨tb, vb1, vb2, vb3, vb4, vb5, vb6, vb7, vb8⟩ := own_after hbq hlq hhq far (own_w_i2d db) (by omega)
  have C77 : ∀ t, Steps p.tables e below (T76.setTop (mkF m 175 #[.val (.int p1), .val (.int p2), .val (.int p3), .val (.int p4), .val (.int mo), .val (.int (1 : Int32)), .val (.ref b64), .val (.ref b64), .val (.int ii), .val (.int jj), .unset, .unset, .val (.int da), .val (.int db), .val (.double bs), .second, .val (.ref b72)] [(.double (FP.i2d da)), (.int (0 : Int32)), (.ref b72), (.int ii), (.ref b64)])) t → Steps p.tables e below (s₁.setTop (entryFrame m #[(.int p1), (.int p2), (.int p3), (.int p4)] maxLocals)) t := by
    intro t k
    refine C76 t ?_
    show Steps p.tables e below (T76.setTop (mkF m 165 #[.val (.int p1), .val (.int p2), .val (.int p3), .val (.int p4), .val (.int mo), .val (.int (1 : Int32)), .val (.ref b64), .val (.ref b64), .val (.int ii), .val (.int jj), .unset, .unset, .val (.int da), .val (.int db), .val (.double bs), .second, .val (.ref b72)] [])) _
    refine XS.aload X76.here hx rfl (hb hby at_165) rfl rfl ?_
    show Steps p.tables e below (T76.setTop (mkF m 167 #[.val (.int p1), .val (.int p2), .val (.int p3), .val (.int p4), .val (.int mo), .val (.int (1 : Int32)), .val (.ref b64), .val (.ref b64), .val (.int ii), .val (.int jj), .unset, .unset, .val (.int da), .val (.int db), .val (.double bs), .second, .val (.ref b72)] [(.ref b64)])) _
    refine XS.iload X76.here hx rfl (hb hby at_167) rfl ?_
    show Steps p.tables e below (T76.setTop (mkF m 169 #[.val (.int p1), .val (.int p2), .val (.int p3), .val (.int p4), .val (.int mo), .val (.int (1 : Int32)), .val (.ref b64), .val (.ref b64), .val (.int ii), .val (.int jj), .unset, .unset, .val (.int da), .val (.int db), .val (.double bs), .second, .val (.ref b72)] [(.int ii), (.ref b64)])) _
    refine XS.aload X76.here hx rfl (hb hby at_169) rfl rfl ?_
    show Steps p.tables e below (T76.setTop (mkF m 171 #[.val (.int p1), .val (.int p2), .val (.int p3), .val (.int p4), .val (.int mo), .val (.int (1 : Int32)), .val (.ref b64), .val (.ref b64), .val (.int ii), .val (.int jj), .unset, .unset, .val (.int da), .val (.int db), .val (.double bs), .second, .val (.ref b72)] [(.ref b72), (.int ii), (.ref b64)])) _
    refine XS.iconst X76.here hx rfl (hb hby at_171) ?_
    show Steps p.tables e below (T76.setTop (mkF m 172 #[.val (.int p1), .val (.int p2), .val (.int p3), .val (.int p4), .val (.int mo), .val (.int (1 : Int32)), .val (.ref b64), .val (.ref b64), .val (.int ii), .val (.int jj), .unset, .unset, .val (.int da), .val (.int db), .val (.double bs), .second, .val (.ref b72)] [(.int (0 : Int32)), (.ref b72), (.int ii), (.ref b64)])) _
    refine XS.iload X76.here hx rfl (hb hby at_172) rfl ?_
    show Steps p.tables e below (T76.setTop (mkF m 174 #[.val (.int p1), .val (.int p2), .val (.int p3), .val (.int p4), .val (.int mo), .val (.int (1 : Int32)), .val (.ref b64), .val (.ref b64), .val (.int ii), .val (.int jj), .unset, .unset, .val (.int da), .val (.int db), .val (.double bs), .second, .val (.ref b72)] [(.int da), (.int (0 : Int32)), (.ref b72), (.int ii), (.ref b64)])) _
    refine XS.i2dS X76.here hx rfl (hb hby at_174) rfl rfl ?_
    exact k
  obtain ⟨cq78, kq78, q78a, q78b, q78c⟩ := isOf hZ rfl I1p.1
  obtain ⟨_, _, ⟨T78, L78, k78, n78⟩, -, X78, ⟨Lc78, hQ78, l78, y78, z78⟩, st78⟩ := X76.virtualBack hx (y := (⟨"com/example/coverline/coverline/Instants", "setAfter", "(ILcom/example/coverline/coverline/Instants;ID)V"⟩ : MethodName)) (z := (⟨"com/example/coverline/coverline/Instants", "setAfter", "(ILcom/example/coverline/coverline/Instants;ID)V"⟩ : MethodName)) hown (mvT hZ (hw _ (List.mem_of_getElem? (i := 20) rfl))) (mvT hZ (hw _ (List.mem_of_getElem? (i := 21) rfl))) (notFace_of_selects (args := #[]) (mvT hZ (hw _ (List.mem_of_getElem? (i := 23) rfl)))) (mvT hZ (hw _ (List.mem_of_getElem? (i := 23) rfl))) (mvT hZ (hw _ (List.mem_of_getElem? (i := 22) rfl))) (by decide) (backOf (W := 0) (rm4 l Z a0 hw [] b64 ii b72 0 (FP.i2d da) t66 r66 t74 r74 2 1 (fun _ => 0) (fun _ => 0) (own_upd (fun _ => 0) 0 bs) (own_upd (fun _ => 0) 0 0) bs 0 T76.heap n0 Zc76 I1p J76 hii h00 gt66 gr66 (own_upd_same _ _ _) (own_upd_same _ _ _) va2 va1 va3 va4 va5) hZ (hw _ (List.mem_of_getElem? (i := 24) rfl)) (hw _ (List.mem_of_getElem? (i := 2) rfl)) (by decide) (by decide)) q78a q78c (g := (mkF m 175 #[.val (.int p1), .val (.int p2), .val (.int p3), .val (.int p4), .val (.int mo), .val (.int (1 : Int32)), .val (.ref b64), .val (.ref b64), .val (.int ii), .val (.int jj), .unset, .unset, .val (.int da), .val (.int db), .val (.double bs), .second, .val (.ref b72)] [(.double (FP.i2d da)), (.int (0 : Int32)), (.ref b72), (.int ii), (.ref b64)])) rfl (by rw [hml]; rfl) (Steps.refl _) (argsL := [(.int ii), (.ref b72), (.int (0 : Int32)), (.double (FP.i2d da))]) (rest := []) (lenOf pd4 rfl) rfl (by show 2 * 0 + _ ≤ _; exact Nat.le_of_eq rfl) (hb hby at_175) (fun _ _ => ⟨rfl, rfl, (by decide : 6 + 0 ≤ _), (by decide : 12 + 0 ≤ _)⟩)
  dsimp only [Pt.U, Pt.locs, Pt.cells, Pt.slots] at X78 l78 y78 z78 st78 hQ78
  subst l78 y78 z78
  obtain ⟨rfl, N78q, J78, K78⟩ := hQ78
  have N78 := Fr.app N76 N78q
  have C78 : ∀ t, Steps p.tables e below (T78.setTop (mkF m 178 #[.val (.int p1), .val (.int p2), .val (.int p3), .val (.int p4), .val (.int mo), .val (.int (1 : Int32)), .val (.ref b64), .val (.ref b64), .val (.int ii), .val (.int jj), .unset, .unset, .val (.int da), .val (.int db), .val (.double bs), .second, .val (.ref b72)] [])) t → Steps p.tables e below (s₁.setTop (entryFrame m #[(.int p1), (.int p2), (.int p3), (.int p4)] maxLocals)) t := fun t k => C77 t (st78.trans k)
  have Zc78 : n0 ≤ T78.heap.size := Nat.le_trans Zc76 K78.1
  have Jo := J76.beside (hw _ (List.mem_of_getElem? (i := 1) rfl)) I1p K78 (own_sepsym s1o)
  have C79 : ∀ t, Steps p.tables e below (T78.setTop (mkF m 188 #[.val (.int p1), .val (.int p2), .val (.int p3), .val (.int p4), .val (.int mo), .val (.int (1 : Int32)), .val (.ref b64), .val (.ref b64), .val (.int ii), .val (.int jj), .unset, .unset, .val (.int da), .val (.int db), .val (.double bs), .second, .val (.ref b72)] [(.double (FP.i2d db)), (.int (0 : Int32)), (.ref b72), (.int jj), (.ref b64)])) t → Steps p.tables e below (s₁.setTop (entryFrame m #[(.int p1), (.int p2), (.int p3), (.int p4)] maxLocals)) t := by
    intro t k
    refine C78 t ?_
    show Steps p.tables e below (T78.setTop (mkF m 178 #[.val (.int p1), .val (.int p2), .val (.int p3), .val (.int p4), .val (.int mo), .val (.int (1 : Int32)), .val (.ref b64), .val (.ref b64), .val (.int ii), .val (.int jj), .unset, .unset, .val (.int da), .val (.int db), .val (.double bs), .second, .val (.ref b72)] [])) _
    refine XS.aload X78.here hx rfl (hb hby at_178) rfl rfl ?_
    show Steps p.tables e below (T78.setTop (mkF m 180 #[.val (.int p1), .val (.int p2), .val (.int p3), .val (.int p4), .val (.int mo), .val (.int (1 : Int32)), .val (.ref b64), .val (.ref b64), .val (.int ii), .val (.int jj), .unset, .unset, .val (.int da), .val (.int db), .val (.double bs), .second, .val (.ref b72)] [(.ref b64)])) _
    refine XS.iload X78.here hx rfl (hb hby at_180) rfl ?_
    show Steps p.tables e below (T78.setTop (mkF m 182 #[.val (.int p1), .val (.int p2), .val (.int p3), .val (.int p4), .val (.int mo), .val (.int (1 : Int32)), .val (.ref b64), .val (.ref b64), .val (.int ii), .val (.int jj), .unset, .unset, .val (.int da), .val (.int db), .val (.double bs), .second, .val (.ref b72)] [(.int jj), (.ref b64)])) _
    refine XS.aload X78.here hx rfl (hb hby at_182) rfl rfl ?_
    show Steps p.tables e below (T78.setTop (mkF m 184 #[.val (.int p1), .val (.int p2), .val (.int p3), .val (.int p4), .val (.int mo), .val (.int (1 : Int32)), .val (.ref b64), .val (.ref b64), .val (.int ii), .val (.int jj), .unset, .unset, .val (.int da), .val (.int db), .val (.double bs), .second, .val (.ref b72)] [(.ref b72), (.int jj), (.ref b64)])) _
    refine XS.iconst X78.here hx rfl (hb hby at_184) ?_
    show Steps p.tables e below (T78.setTop (mkF m 185 #[.val (.int p1), .val (.int p2), .val (.int p3), .val (.int p4), .val (.int mo), .val (.int (1 : Int32)), .val (.ref b64), .val (.ref b64), .val (.int ii), .val (.int jj), .unset, .unset, .val (.int da), .val (.int db), .val (.double bs), .second, .val (.ref b72)] [(.int (0 : Int32)), (.ref b72), (.int jj), (.ref b64)])) _
    refine XS.iload X78.here hx rfl (hb hby at_185) rfl ?_
    show Steps p.tables e below (T78.setTop (mkF m 187 #[.val (.int p1), .val (.int p2), .val (.int p3), .val (.int p4), .val (.int mo), .val (.int (1 : Int32)), .val (.ref b64), .val (.ref b64), .val (.int ii), .val (.int jj), .unset, .unset, .val (.int da), .val (.int db), .val (.double bs), .second, .val (.ref b72)] [(.int db), (.int (0 : Int32)), (.ref b72), (.int jj), (.ref b64)])) _
    refine XS.i2dS X78.here hx rfl (hb hby at_187) rfl rfl ?_
    exact k
  obtain ⟨cq80, kq80, q80a, q80b, q80c⟩ := isOf hZ rfl J78.1
  obtain ⟨_, _, ⟨T80, L80, k80, n80⟩, -, X80, ⟨Lc80, hQ80, l80, y80, z80⟩, st80⟩ := X78.virtualBack hx (y := (⟨"com/example/coverline/coverline/Instants", "setAfter", "(ILcom/example/coverline/coverline/Instants;ID)V"⟩ : MethodName)) (z := (⟨"com/example/coverline/coverline/Instants", "setAfter", "(ILcom/example/coverline/coverline/Instants;ID)V"⟩ : MethodName)) hown (mvT hZ (hw _ (List.mem_of_getElem? (i := 20) rfl))) (mvT hZ (hw _ (List.mem_of_getElem? (i := 21) rfl))) (notFace_of_selects (args := #[]) (mvT hZ (hw _ (List.mem_of_getElem? (i := 23) rfl)))) (mvT hZ (hw _ (List.mem_of_getElem? (i := 23) rfl))) (mvT hZ (hw _ (List.mem_of_getElem? (i := 22) rfl))) (by decide) (backOf (W := 0) (rm4 l Z a0 hw [] b64 jj b72 0 (FP.i2d db) t66 r66 t74 r74 2 1 (own_upd (fun _ => 0) ii (FP.dadd (FP.dadd bs (FP.i2d da)) (FP.dadd (own_re bs (FP.i2d da) (FP.dadd bs (FP.i2d da))) 0))) (own_upd (fun _ => 0) ii (own_re (FP.dadd bs (FP.i2d da)) (FP.dadd (own_re bs (FP.i2d da) (FP.dadd bs (FP.i2d da))) 0) (FP.dadd (FP.dadd bs (FP.i2d da)) (FP.dadd (own_re bs (FP.i2d da) (FP.dadd bs (FP.i2d da))) 0)))) (own_upd (fun _ => 0) 0 bs) (own_upd (fun _ => 0) 0 0) bs 0 T78.heap n0 Zc78 J78 Jo hjj h00 gt66 gr66 (own_upd_same _ _ _) (own_upd_same _ _ _) vb2 vb1 vb3 vb4 vb5) hZ (hw _ (List.mem_of_getElem? (i := 24) rfl)) (hw _ (List.mem_of_getElem? (i := 2) rfl)) (by decide) (by decide)) q80a q80c (g := (mkF m 188 #[.val (.int p1), .val (.int p2), .val (.int p3), .val (.int p4), .val (.int mo), .val (.int (1 : Int32)), .val (.ref b64), .val (.ref b64), .val (.int ii), .val (.int jj), .unset, .unset, .val (.int da), .val (.int db), .val (.double bs), .second, .val (.ref b72)] [(.double (FP.i2d db)), (.int (0 : Int32)), (.ref b72), (.int jj), (.ref b64)])) rfl (by rw [hml]; rfl) (Steps.refl _) (argsL := [(.int jj), (.ref b72), (.int (0 : Int32)), (.double (FP.i2d db))]) (rest := []) (lenOf pd4 rfl) rfl (by show 2 * 0 + _ ≤ _; exact Nat.le_of_eq rfl) (hb hby at_188) (fun _ _ => ⟨rfl, rfl, (by decide : 6 + 0 ≤ _), (by decide : 12 + 0 ≤ _)⟩)
  dsimp only [Pt.U, Pt.locs, Pt.cells, Pt.slots] at X80 l80 y80 z80 st80 hQ80
  subst l80 y80 z80
  obtain ⟨rfl, N80q, J80, K80⟩ := hQ80
  have N80 := Fr.app N78 N80q
  have C80 : ∀ t, Steps p.tables e below (T80.setTop (mkF m 191 #[.val (.int p1), .val (.int p2), .val (.int p3), .val (.int p4), .val (.int mo), .val (.int (1 : Int32)), .val (.ref b64), .val (.ref b64), .val (.int ii), .val (.int jj), .unset, .unset, .val (.int da), .val (.int db), .val (.double bs), .second, .val (.ref b72)] [])) t → Steps p.tables e below (s₁.setTop (entryFrame m #[(.int p1), (.int p2), (.int p3), (.int p4)] maxLocals)) t := fun t k => C79 t (st80.trans k)
  have Zc80 : n0 ≤ T80.heap.size := Nat.le_trans Zc78 K80.1
  obtain ⟨m1, m2, m3, m4⟩ := own_lawB va6 va7 va8 vb6 vb7 vb8 hda hdb
  have C81 : ∀ t, Steps p.tables e below (T80.setTop (mkF m 207 #[.val (.int p1), .val (.int p2), .val (.int p3), .val (.int p4), .val (.int mo), .val (.int (1 : Int32)), .val (.ref b64), .val (.ref b64), .val (.int ii), .val (.int jj), .val (.double (FP.i2d (db - da))), .second, .val (.int da), .val (.int db), .val (.double bs), .second, .val (.ref b72)] [(.int jj), (.ref b64), (.int ii), (.ref b64)])) t → Steps p.tables e below (s₁.setTop (entryFrame m #[(.int p1), (.int p2), (.int p3), (.int p4)] maxLocals)) t := by
    intro t k
    refine C80 t ?_
    show Steps p.tables e below (T80.setTop (mkF m 191 #[.val (.int p1), .val (.int p2), .val (.int p3), .val (.int p4), .val (.int mo), .val (.int (1 : Int32)), .val (.ref b64), .val (.ref b64), .val (.int ii), .val (.int jj), .unset, .unset, .val (.int da), .val (.int db), .val (.double bs), .second, .val (.ref b72)] [])) _
    refine XS.iload X80.here hx rfl (hb hby at_191) rfl ?_
    show Steps p.tables e below (T80.setTop (mkF m 193 #[.val (.int p1), .val (.int p2), .val (.int p3), .val (.int p4), .val (.int mo), .val (.int (1 : Int32)), .val (.ref b64), .val (.ref b64), .val (.int ii), .val (.int jj), .unset, .unset, .val (.int da), .val (.int db), .val (.double bs), .second, .val (.ref b72)] [(.int db)])) _
    refine XS.iload X80.here hx rfl (hb hby at_193) rfl ?_
    show Steps p.tables e below (T80.setTop (mkF m 195 #[.val (.int p1), .val (.int p2), .val (.int p3), .val (.int p4), .val (.int mo), .val (.int (1 : Int32)), .val (.ref b64), .val (.ref b64), .val (.int ii), .val (.int jj), .unset, .unset, .val (.int da), .val (.int db), .val (.double bs), .second, .val (.ref b72)] [(.int da), (.int db)])) _
    refine XS.isub X80.here hx rfl (hb hby at_195) rfl ?_
    show Steps p.tables e below (T80.setTop (mkF m 196 #[.val (.int p1), .val (.int p2), .val (.int p3), .val (.int p4), .val (.int mo), .val (.int (1 : Int32)), .val (.ref b64), .val (.ref b64), .val (.int ii), .val (.int jj), .unset, .unset, .val (.int da), .val (.int db), .val (.double bs), .second, .val (.ref b72)] [(.int (db - da))])) _
    refine XS.i2dS X80.here hx rfl (hb hby at_196) rfl rfl ?_
    show Steps p.tables e below (T80.setTop (mkF m 197 #[.val (.int p1), .val (.int p2), .val (.int p3), .val (.int p4), .val (.int mo), .val (.int (1 : Int32)), .val (.ref b64), .val (.ref b64), .val (.int ii), .val (.int jj), .unset, .unset, .val (.int da), .val (.int db), .val (.double bs), .second, .val (.ref b72)] [(.double (FP.i2d (db - da)))])) _
    refine XS.dstore X80.here hx rfl (hb hby at_197) rfl (l' := #[.val (.int p1), .val (.int p2), .val (.int p3), .val (.int p4), .val (.int mo), .val (.int (1 : Int32)), .val (.ref b64), .val (.ref b64), .val (.int ii), .val (.int jj), .val (.double (FP.i2d (db - da))), .second, .val (.int da), .val (.int db), .val (.double bs), .second, .val (.ref b72)]) rfl ?_
    show Steps p.tables e below (T80.setTop (mkF m 199 #[.val (.int p1), .val (.int p2), .val (.int p3), .val (.int p4), .val (.int mo), .val (.int (1 : Int32)), .val (.ref b64), .val (.ref b64), .val (.int ii), .val (.int jj), .val (.double (FP.i2d (db - da))), .second, .val (.int da), .val (.int db), .val (.double bs), .second, .val (.ref b72)] [])) _
    refine XS.aload X80.here hx rfl (hb hby at_199) rfl rfl ?_
    show Steps p.tables e below (T80.setTop (mkF m 201 #[.val (.int p1), .val (.int p2), .val (.int p3), .val (.int p4), .val (.int mo), .val (.int (1 : Int32)), .val (.ref b64), .val (.ref b64), .val (.int ii), .val (.int jj), .val (.double (FP.i2d (db - da))), .second, .val (.int da), .val (.int db), .val (.double bs), .second, .val (.ref b72)] [(.ref b64)])) _
    refine XS.iload X80.here hx rfl (hb hby at_201) rfl ?_
    show Steps p.tables e below (T80.setTop (mkF m 203 #[.val (.int p1), .val (.int p2), .val (.int p3), .val (.int p4), .val (.int mo), .val (.int (1 : Int32)), .val (.ref b64), .val (.ref b64), .val (.int ii), .val (.int jj), .val (.double (FP.i2d (db - da))), .second, .val (.int da), .val (.int db), .val (.double bs), .second, .val (.ref b72)] [(.int ii), (.ref b64)])) _
    refine XS.aload X80.here hx rfl (hb hby at_203) rfl rfl ?_
    show Steps p.tables e below (T80.setTop (mkF m 205 #[.val (.int p1), .val (.int p2), .val (.int p3), .val (.int p4), .val (.int mo), .val (.int (1 : Int32)), .val (.ref b64), .val (.ref b64), .val (.int ii), .val (.int jj), .val (.double (FP.i2d (db - da))), .second, .val (.int da), .val (.int db), .val (.double bs), .second, .val (.ref b72)] [(.ref b64), (.int ii), (.ref b64)])) _
    refine XS.iload X80.here hx rfl (hb hby at_205) rfl ?_
    exact k
  obtain ⟨cq82, kq82, q82a, q82b, q82c⟩ := isOf hZ rfl J80.1
  obtain ⟨_, _, ⟨T82, L82, k82, n82⟩, -, X82, ⟨Lc82, hQ82, l82, y82, z82⟩, st82⟩ := X80.virtualBack hx (y := (⟨"com/example/coverline/coverline/Instants", "timeTo", "(ILcom/example/coverline/coverline/Instants;I)D"⟩ : MethodName)) (z := (⟨"com/example/coverline/coverline/Instants", "timeTo", "(ILcom/example/coverline/coverline/Instants;I)D"⟩ : MethodName)) hown (mvT hZ (hw _ (List.mem_of_getElem? (i := 28) rfl))) (mvT hZ (hw _ (List.mem_of_getElem? (i := 29) rfl))) (notFace_of_selects (args := #[]) (mvT hZ (hw _ (List.mem_of_getElem? (i := 31) rfl)))) (mvT hZ (hw _ (List.mem_of_getElem? (i := 31) rfl))) (mvT hZ (hw _ (List.mem_of_getElem? (i := 30) rfl))) (by decide) (backOf (W := 0) (rm6 l Z a0 hw [] b64 ii b64 jj t66 r66 t66 r66 2 2 (own_upd (own_upd (fun _ => 0) ii (FP.dadd (FP.dadd bs (FP.i2d da)) (FP.dadd (own_re bs (FP.i2d da) (FP.dadd bs (FP.i2d da))) 0))) jj (FP.dadd (FP.dadd bs (FP.i2d db)) (FP.dadd (own_re bs (FP.i2d db) (FP.dadd bs (FP.i2d db))) 0))) (own_upd (own_upd (fun _ => 0) ii (own_re (FP.dadd bs (FP.i2d da)) (FP.dadd (own_re bs (FP.i2d da) (FP.dadd bs (FP.i2d da))) 0) (FP.dadd (FP.dadd bs (FP.i2d da)) (FP.dadd (own_re bs (FP.i2d da) (FP.dadd bs (FP.i2d da))) 0)))) jj (own_re (FP.dadd bs (FP.i2d db)) (FP.dadd (own_re bs (FP.i2d db) (FP.dadd bs (FP.i2d db))) 0) (FP.dadd (FP.dadd bs (FP.i2d db)) (FP.dadd (own_re bs (FP.i2d db) (FP.dadd bs (FP.i2d db))) 0)))) (own_upd (own_upd (fun _ => 0) ii (FP.dadd (FP.dadd bs (FP.i2d da)) (FP.dadd (own_re bs (FP.i2d da) (FP.dadd bs (FP.i2d da))) 0))) jj (FP.dadd (FP.dadd bs (FP.i2d db)) (FP.dadd (own_re bs (FP.i2d db) (FP.dadd bs (FP.i2d db))) 0))) (own_upd (own_upd (fun _ => 0) ii (own_re (FP.dadd bs (FP.i2d da)) (FP.dadd (own_re bs (FP.i2d da) (FP.dadd bs (FP.i2d da))) 0) (FP.dadd (FP.dadd bs (FP.i2d da)) (FP.dadd (own_re bs (FP.i2d da) (FP.dadd bs (FP.i2d da))) 0)))) jj (own_re (FP.dadd bs (FP.i2d db)) (FP.dadd (own_re bs (FP.i2d db) (FP.dadd bs (FP.i2d db))) 0) (FP.dadd (FP.dadd bs (FP.i2d db)) (FP.dadd (own_re bs (FP.i2d db) (FP.dadd bs (FP.i2d db))) 0)))) (FP.dadd (FP.dadd bs (FP.i2d db)) (FP.dadd (own_re bs (FP.i2d db) (FP.dadd bs (FP.i2d db))) 0)) (FP.dadd (FP.dadd bs (FP.i2d da)) (FP.dadd (own_re bs (FP.i2d da) (FP.dadd bs (FP.i2d da))) 0)) (own_re (FP.dadd bs (FP.i2d db)) (FP.dadd (own_re bs (FP.i2d db) (FP.dadd bs (FP.i2d db))) 0) (FP.dadd (FP.dadd bs (FP.i2d db)) (FP.dadd (own_re bs (FP.i2d db) (FP.dadd bs (FP.i2d db))) 0))) (own_re (FP.dadd bs (FP.i2d da)) (FP.dadd (own_re bs (FP.i2d da) (FP.dadd bs (FP.i2d da))) 0) (FP.dadd (FP.dadd bs (FP.i2d da)) (FP.dadd (own_re bs (FP.i2d da) (FP.dadd bs (FP.i2d da))) 0))) T80.heap n0 Zc80 J80 J80 hii hjj (own_upd_same _ _ _) ((own_upd_ne _ _ (Ne.symm hij)).trans (own_upd_same _ _ _)) (own_upd_same _ _ _) ((own_upd_ne _ _ (Ne.symm hij)).trans (own_upd_same _ _ _)) m1 m2 m3) hZ (hw _ (List.mem_of_getElem? (i := 32) rfl)) (hw _ (List.mem_of_getElem? (i := 2) rfl)) (by decide) (by decide)) q82a q82c (g := (mkF m 207 #[.val (.int p1), .val (.int p2), .val (.int p3), .val (.int p4), .val (.int mo), .val (.int (1 : Int32)), .val (.ref b64), .val (.ref b64), .val (.int ii), .val (.int jj), .val (.double (FP.i2d (db - da))), .second, .val (.int da), .val (.int db), .val (.double bs), .second, .val (.ref b72)] [(.int jj), (.ref b64), (.int ii), (.ref b64)])) rfl (by rw [hml]; rfl) (Steps.refl _) (argsL := [(.int ii), (.ref b64), (.int jj)]) (rest := []) (lenOf pd3 rfl) rfl (by show 2 * 0 + _ ≤ _; exact Nat.le_of_eq rfl) (hb hby at_207) (fun _ _ => ⟨rfl, rfl, (by decide : 6 + 0 ≤ _), (by decide : 12 + 0 ≤ _)⟩)
  dsimp only [Pt.U, Pt.locs, Pt.cells, Pt.slots] at X82 l82 y82 z82 st82 hQ82
  subst l82 y82 z82
  obtain ⟨rfl, N82q, q82⟩ := hQ82
  have N82 := Fr.app N80 N82q
  have C82 : ∀ t, Steps p.tables e below (T82.setTop (mkF m 210 #[.val (.int p1), .val (.int p2), .val (.int p3), .val (.int p4), .val (.int mo), .val (.int (1 : Int32)), .val (.ref b64), .val (.ref b64), .val (.int ii), .val (.int jj), .val (.double (FP.i2d (db - da))), .second, .val (.int da), .val (.int db), .val (.double bs), .second, .val (.ref b72)] [(.double (FP.dadd (FP.dsub (FP.dadd (FP.dadd bs (FP.i2d db)) (FP.dadd (own_re bs (FP.i2d db) (FP.dadd bs (FP.i2d db))) 0)) (FP.dadd (FP.dadd bs (FP.i2d da)) (FP.dadd (own_re bs (FP.i2d da) (FP.dadd bs (FP.i2d da))) 0))) (FP.dsub (own_re (FP.dadd bs (FP.i2d db)) (FP.dadd (own_re bs (FP.i2d db) (FP.dadd bs (FP.i2d db))) 0) (FP.dadd (FP.dadd bs (FP.i2d db)) (FP.dadd (own_re bs (FP.i2d db) (FP.dadd bs (FP.i2d db))) 0))) (own_re (FP.dadd bs (FP.i2d da)) (FP.dadd (own_re bs (FP.i2d da) (FP.dadd bs (FP.i2d da))) 0) (FP.dadd (FP.dadd bs (FP.i2d da)) (FP.dadd (own_re bs (FP.i2d da) (FP.dadd bs (FP.i2d da))) 0))))))])) t → Steps p.tables e below (s₁.setTop (entryFrame m #[(.int p1), (.int p2), (.int p3), (.int p4)] maxLocals)) t := fun t k => C81 t (st82.trans k)
  have C83 : ∀ t, Steps p.tables e below (T82.setTop (mkF m 221 #[.val (.int p1), .val (.int p2), .val (.int p3), .val (.int p4), .val (.int mo), .val (.int (1 : Int32)), .val (.ref b64), .val (.ref b64), .val (.int ii), .val (.int jj), .val (.double (FP.i2d (db - da))), .second, .val (.int da), .val (.int db), .val (.double bs), .second, .val (.ref b72)] [(.int (1 : Int32))])) t → Steps p.tables e below (s₁.setTop (entryFrame m #[(.int p1), (.int p2), (.int p3), (.int p4)] maxLocals)) t := by
    intro t k
    refine C82 t ?_
    show Steps p.tables e below (T82.setTop (mkF m 210 #[.val (.int p1), .val (.int p2), .val (.int p3), .val (.int p4), .val (.int mo), .val (.int (1 : Int32)), .val (.ref b64), .val (.ref b64), .val (.int ii), .val (.int jj), .val (.double (FP.i2d (db - da))), .second, .val (.int da), .val (.int db), .val (.double bs), .second, .val (.ref b72)] [(.double (FP.dadd (FP.dsub (FP.dadd (FP.dadd bs (FP.i2d db)) (FP.dadd (own_re bs (FP.i2d db) (FP.dadd bs (FP.i2d db))) 0)) (FP.dadd (FP.dadd bs (FP.i2d da)) (FP.dadd (own_re bs (FP.i2d da) (FP.dadd bs (FP.i2d da))) 0))) (FP.dsub (own_re (FP.dadd bs (FP.i2d db)) (FP.dadd (own_re bs (FP.i2d db) (FP.dadd bs (FP.i2d db))) 0) (FP.dadd (FP.dadd bs (FP.i2d db)) (FP.dadd (own_re bs (FP.i2d db) (FP.dadd bs (FP.i2d db))) 0))) (own_re (FP.dadd bs (FP.i2d da)) (FP.dadd (own_re bs (FP.i2d da) (FP.dadd bs (FP.i2d da))) 0) (FP.dadd (FP.dadd bs (FP.i2d da)) (FP.dadd (own_re bs (FP.i2d da) (FP.dadd bs (FP.i2d da))) 0))))))])) _
    refine XS.dload X82.here hx rfl (hb hby at_210) rfl ?_
    show Steps p.tables e below (T82.setTop (mkF m 212 #[.val (.int p1), .val (.int p2), .val (.int p3), .val (.int p4), .val (.int mo), .val (.int (1 : Int32)), .val (.ref b64), .val (.ref b64), .val (.int ii), .val (.int jj), .val (.double (FP.i2d (db - da))), .second, .val (.int da), .val (.int db), .val (.double bs), .second, .val (.ref b72)] [(.double (FP.i2d (db - da))), (.double (FP.dadd (FP.dsub (FP.dadd (FP.dadd bs (FP.i2d db)) (FP.dadd (own_re bs (FP.i2d db) (FP.dadd bs (FP.i2d db))) 0)) (FP.dadd (FP.dadd bs (FP.i2d da)) (FP.dadd (own_re bs (FP.i2d da) (FP.dadd bs (FP.i2d da))) 0))) (FP.dsub (own_re (FP.dadd bs (FP.i2d db)) (FP.dadd (own_re bs (FP.i2d db) (FP.dadd bs (FP.i2d db))) 0) (FP.dadd (FP.dadd bs (FP.i2d db)) (FP.dadd (own_re bs (FP.i2d db) (FP.dadd bs (FP.i2d db))) 0))) (own_re (FP.dadd bs (FP.i2d da)) (FP.dadd (own_re bs (FP.i2d da) (FP.dadd bs (FP.i2d da))) 0) (FP.dadd (FP.dadd bs (FP.i2d da)) (FP.dadd (own_re bs (FP.i2d da) (FP.dadd bs (FP.i2d da))) 0))))))])) _
    refine XS.dcmpS X82.here hx rfl (hb hby at_212) rfl m4 ?_
    show Steps p.tables e below (T82.setTop (mkF m 213 #[.val (.int p1), .val (.int p2), .val (.int p3), .val (.int p4), .val (.int mo), .val (.int (1 : Int32)), .val (.ref b64), .val (.ref b64), .val (.int ii), .val (.int jj), .val (.double (FP.i2d (db - da))), .second, .val (.int da), .val (.int db), .val (.double bs), .second, .val (.ref b72)] [(.int (0 : Int32))])) _
    refine XS.ifNo X82.here hx rfl (hb hby at_213) rfl (XT.i0_ne_f rfl) ?_
    show Steps p.tables e below (T82.setTop (mkF m 216 #[.val (.int p1), .val (.int p2), .val (.int p3), .val (.int p4), .val (.int mo), .val (.int (1 : Int32)), .val (.ref b64), .val (.ref b64), .val (.int ii), .val (.int jj), .val (.double (FP.i2d (db - da))), .second, .val (.int da), .val (.int db), .val (.double bs), .second, .val (.ref b72)] [])) _
    refine XS.iconst X82.here hx rfl (hb hby at_216) ?_
    show Steps p.tables e below (T82.setTop (mkF m 217 #[.val (.int p1), .val (.int p2), .val (.int p3), .val (.int p4), .val (.int mo), .val (.int (1 : Int32)), .val (.ref b64), .val (.ref b64), .val (.int ii), .val (.int jj), .val (.double (FP.i2d (db - da))), .second, .val (.int da), .val (.int db), .val (.double bs), .second, .val (.ref b72)] [(.int (1 : Int32))])) _
    refine XS.goto X82.here hx rfl (pc0 := 217) (pc' := 221) rfl (hb hby at_217) (by decide) (by decide) ?_
    exact k
  obtain ⟨fs, hr, hrun, hended, hW, hsame⟩ := X82.leave (v := some (.int (1 : Int32))) (fun h => by rw [Bd.returns] at h; cases h)
  refine ⟨_, _, C83 _ ?_, hrun, hended, _, _, rfl, ?_, ⟨_, rfl⟩, hW, hsame.mono (by decide) (by decide)⟩
  · show Steps p.tables e below (T82.setTop (mkF m 221 #[.val (.int p1), .val (.int p2), .val (.int p3), .val (.int p4), .val (.int mo), .val (.int (1 : Int32)), .val (.ref b64), .val (.ref b64), .val (.int ii), .val (.int jj), .val (.double (FP.i2d (db - da))), .second, .val (.int da), .val (.int db), .val (.double bs), .second, .val (.ref b72)] [(.int (1 : Int32))])) _
    exact retN X82 hx (t := .boolean) Bd.returns (by simp) (hb hby at_221) hr
  · show Q0 Z p1 p2 p3 p4 h0 n0 _ T82.heap _
    rw [q82]
    exact ⟨rfl, N82⟩
set_option maxRecDepth 65536 in
set_option maxHeartbeats 40000000 in
theorem rm0_01 (l : Launch) (Z : State) (a0 : Array Value) (hw : ∀ d ∈ tables_1, d.before a0 Z = true) (ws : List Jvm.Cond) (p1 p2 p3 p4 : Int32) (h0 : Heap) (n0 : Nat) (Z0 : n0 ≤ h0.size) (hsame : (p4 &&& (4 : Int32)) = 0) (hmode : (p3 &&& (3 : Int32)) = 0) :
    MetFree l x (head1 (Jvm.Cond.code x code maxLocals ret :: ws) room_1) (fun a U => a = #[(.int p1), (.int p2), (.int p3), (.int p4)] ∧ Z.Warmed39 U.vm ∧ U.heap = h0) (fun _ _ _ _ _ => True) (fun _ U o U' => ∃ v L, o = .returned v ∧ Q0 Z p1 p2 p3 p4 h0 n0 v U'.heap L ∧ FrameEnd U o U' L room_1.cells room_1.slots) := by
  refine MetFree.of_bodySF (plainFor_of_name pn1) hisR ?_
  intro p e s m args below meth c s₁ Bd hml0 hP hK
  obtain ⟨rfl, hZ, hh⟩ := hP
  have hx := Bd.exec
  have hby := Bd.bytes
  have hml : c.maxLocals = 17 := hml0
  have hown : s.vm.findClass "com/example/coverline/coverline/InstantsTimeToPinLaw" = some m.cls := findClass_of_methodNamed Bd.named
  have hnm := (name_of_methodNamed Bd.named Bd.method).1
  have X0 : Stand p l e room_1 s m #[(.int p1), (.int p2), (.int p3), (.int p4)] below meth c s₁ [] 0 0 := Stand.of_body Bd
  have e0 : s₁.heap = h0 := by rw [← hh, Bd.state]; rfl
  have N0 := Fr.nil n0
  have pre0 : ∀ t, Steps p.tables e below (s₁.setTop (mkF m 0 #[.val (.int p1), .val (.int p2), .val (.int p3), .val (.int p4), .unset, .unset, .unset, .unset, .unset, .unset, .unset, .unset, .unset, .unset, .unset, .unset, .unset] [])) t → Steps p.tables e below (s₁.setTop (entryFrame m #[(.int p1), (.int p2), (.int p3), (.int p4)] maxLocals)) t := fun t k => castTop (ef0 m p1 p2 p3 p4) k
  have C84 : ∀ t, Steps p.tables e below (s₁.setTop (mkF m 8 #[.val (.int p1), .val (.int p2), .val (.int p3), .val (.int p4), .val (.int (p3 &&& (3 : Int32))), .unset, .unset, .unset, .unset, .unset, .unset, .unset, .unset, .unset, .unset, .unset, .unset] [(.int (p4 &&& (4 : Int32)))])) t → Steps p.tables e below (s₁.setTop (entryFrame m #[(.int p1), (.int p2), (.int p3), (.int p4)] maxLocals)) t := by
    intro t k
    refine pre0 t ?_
    show Steps p.tables e below (s₁.setTop (mkF m 0 #[.val (.int p1), .val (.int p2), .val (.int p3), .val (.int p4), .unset, .unset, .unset, .unset, .unset, .unset, .unset, .unset, .unset, .unset, .unset, .unset, .unset] [])) _
    refine XS.iloadN X0.here hx rfl (hb hby at_0) rfl ?_
    show Steps p.tables e below (s₁.setTop (mkF m 1 #[.val (.int p1), .val (.int p2), .val (.int p3), .val (.int p4), .unset, .unset, .unset, .unset, .unset, .unset, .unset, .unset, .unset, .unset, .unset, .unset, .unset] [(.int p3)])) _
    refine XS.iconst X0.here hx rfl (hb hby at_1) ?_
    show Steps p.tables e below (s₁.setTop (mkF m 2 #[.val (.int p1), .val (.int p2), .val (.int p3), .val (.int p4), .unset, .unset, .unset, .unset, .unset, .unset, .unset, .unset, .unset, .unset, .unset, .unset, .unset] [(.int (3 : Int32)), (.int p3)])) _
    refine XS.iand X0.here hx rfl (hb hby at_2) rfl ?_
    show Steps p.tables e below (s₁.setTop (mkF m 3 #[.val (.int p1), .val (.int p2), .val (.int p3), .val (.int p4), .unset, .unset, .unset, .unset, .unset, .unset, .unset, .unset, .unset, .unset, .unset, .unset, .unset] [(.int (p3 &&& (3 : Int32)))])) _
    refine XS.istore X0.here hx rfl (hb hby at_3) rfl (l' := #[.val (.int p1), .val (.int p2), .val (.int p3), .val (.int p4), .val (.int (p3 &&& (3 : Int32))), .unset, .unset, .unset, .unset, .unset, .unset, .unset, .unset, .unset, .unset, .unset, .unset]) rfl ?_
    show Steps p.tables e below (s₁.setTop (mkF m 5 #[.val (.int p1), .val (.int p2), .val (.int p3), .val (.int p4), .val (.int (p3 &&& (3 : Int32))), .unset, .unset, .unset, .unset, .unset, .unset, .unset, .unset, .unset, .unset, .unset, .unset] [])) _
    refine XS.iloadN X0.here hx rfl (hb hby at_5) rfl ?_
    show Steps p.tables e below (s₁.setTop (mkF m 6 #[.val (.int p1), .val (.int p2), .val (.int p3), .val (.int p4), .val (.int (p3 &&& (3 : Int32))), .unset, .unset, .unset, .unset, .unset, .unset, .unset, .unset, .unset, .unset, .unset, .unset] [(.int p4)])) _
    refine XS.iconst X0.here hx rfl (hb hby at_6) ?_
    show Steps p.tables e below (s₁.setTop (mkF m 7 #[.val (.int p1), .val (.int p2), .val (.int p3), .val (.int p4), .val (.int (p3 &&& (3 : Int32))), .unset, .unset, .unset, .unset, .unset, .unset, .unset, .unset, .unset, .unset, .unset, .unset] [(.int (4 : Int32)), (.int p4)])) _
    refine XS.iand X0.here hx rfl (hb hby at_7) rfl ?_
    exact k
  obtain ⟨mo, h_mo⟩ : ∃ z : Int32, z = (p3 &&& (3 : Int32)) := ⟨_, rfl⟩
  rw [← h_mo] at C84
  rw [← h_mo] at hmode
  have C85 : ∀ t, Steps p.tables e below (s₁.setTop (mkF m 18 #[.val (.int p1), .val (.int p2), .val (.int p3), .val (.int p4), .val (.int mo), .val (.int (0 : Int32)), .unset, .unset, .unset, .unset, .unset, .unset, .unset, .unset, .unset, .unset, .unset] [])) t → Steps p.tables e below (s₁.setTop (entryFrame m #[(.int p1), (.int p2), (.int p3), (.int p4)] maxLocals)) t := by
    intro t k
    refine C84 t ?_
    show Steps p.tables e below (s₁.setTop (mkF m 8 #[.val (.int p1), .val (.int p2), .val (.int p3), .val (.int p4), .val (.int mo), .unset, .unset, .unset, .unset, .unset, .unset, .unset, .unset, .unset, .unset, .unset, .unset] [(.int (p4 &&& (4 : Int32)))])) _
    refine XS.ifYes X0.here hx rfl (pc0 := 8) (pc' := 15) rfl (hb hby at_8) rfl (XT.i0_eq_t hsame) (by decide) (by decide) ?_
    show Steps p.tables e below (s₁.setTop (mkF m 15 #[.val (.int p1), .val (.int p2), .val (.int p3), .val (.int p4), .val (.int mo), .unset, .unset, .unset, .unset, .unset, .unset, .unset, .unset, .unset, .unset, .unset, .unset] [])) _
    refine XS.iconst X0.here hx rfl (hb hby at_15) ?_
    show Steps p.tables e below (s₁.setTop (mkF m 16 #[.val (.int p1), .val (.int p2), .val (.int p3), .val (.int p4), .val (.int mo), .unset, .unset, .unset, .unset, .unset, .unset, .unset, .unset, .unset, .unset, .unset, .unset] [(.int (0 : Int32))])) _
    refine XS.istore X0.here hx rfl (hb hby at_16) rfl (l' := #[.val (.int p1), .val (.int p2), .val (.int p3), .val (.int p4), .val (.int mo), .val (.int (0 : Int32)), .unset, .unset, .unset, .unset, .unset, .unset, .unset, .unset, .unset, .unset, .unset]) rfl ?_
    exact k
  obtain ⟨T86, h86, X86, e86, E86, A86, D86, -, st86⟩ := newO X0 hx hZ hown (hw _ (List.mem_of_getElem? (i := 0) rfl)) (hw _ (List.mem_of_getElem? (i := 1) rfl)) (hw _ (List.mem_of_getElem? (i := 2) rfl)) e0 (g := (mkF m 18 #[.val (.int p1), .val (.int p2), .val (.int p3), .val (.int p4), .val (.int mo), .val (.int (0 : Int32)), .unset, .unset, .unset, .unset, .unset, .unset, .unset, .unset, .unset, .unset, .unset] [])) rfl (hb hby at_18) (by decide) (by decide)
  obtain ⟨b86, g86⟩ : ∃ z, z = h0.size := ⟨_, rfl⟩
  rw [← g86] at A86 D86 st86
  have C86 : ∀ t, Steps p.tables e below (T86.setTop (mkF m 21 #[.val (.int p1), .val (.int p2), .val (.int p3), .val (.int p4), .val (.int mo), .val (.int (0 : Int32)), .unset, .unset, .unset, .unset, .unset, .unset, .unset, .unset, .unset, .unset, .unset] [(.ref b86)])) t → Steps p.tables e below (s₁.setTop (entryFrame m #[(.int p1), (.int p2), (.int p3), (.int p4)] maxLocals)) t := fun t k => C85 t (st86 t k)
  have F1_86 : Fld Z h86 b86 "com/example/coverline/coverline/Instants" "times" "[D" .null := D86 (Or.inr (hw _ (List.mem_of_getElem? (i := 11) rfl))) (ty := (.array .double)) (by decide)
  have F2_86 : Fld Z h86 b86 "com/example/coverline/coverline/Instants" "remainders" "[D" .null := D86 (Or.inr (hw _ (List.mem_of_getElem? (i := 13) rfl))) (ty := (.array .double)) (by decide)
  have Zs86 : n0 ≤ h86.size := Nat.le_trans Z0 E86.1
  have gb86 : n0 ≤ b86 := Nat.le_trans Z0 (Nat.le_of_eq g86.symm)
  have C87 : ∀ t, Steps p.tables e below (T86.setTop (mkF m 23 #[.val (.int p1), .val (.int p2), .val (.int p3), .val (.int p4), .val (.int mo), .val (.int (0 : Int32)), .unset, .unset, .unset, .unset, .unset, .unset, .unset, .unset, .unset, .unset, .unset] [(.int (2 : Int32)), (.ref b86), (.ref b86)])) t → Steps p.tables e below (s₁.setTop (entryFrame m #[(.int p1), (.int p2), (.int p3), (.int p4)] maxLocals)) t := by
    intro t k
    refine C86 t ?_
    show Steps p.tables e below (T86.setTop (mkF m 21 #[.val (.int p1), .val (.int p2), .val (.int p3), .val (.int p4), .val (.int mo), .val (.int (0 : Int32)), .unset, .unset, .unset, .unset, .unset, .unset, .unset, .unset, .unset, .unset, .unset] [(.ref b86)])) _
    refine XS.dup X86.here hx rfl (hb hby at_21) rfl rfl ?_
    show Steps p.tables e below (T86.setTop (mkF m 22 #[.val (.int p1), .val (.int p2), .val (.int p3), .val (.int p4), .val (.int mo), .val (.int (0 : Int32)), .unset, .unset, .unset, .unset, .unset, .unset, .unset, .unset, .unset, .unset, .unset] [(.ref b86), (.ref b86)])) _
    refine XS.iconst X86.here hx rfl (hb hby at_22) ?_
    exact k
  obtain ⟨_, _, ⟨T88, L88, k88, n88⟩, -, X88, ⟨Lc88, hQ88, l88, y88, z88⟩, st88⟩ := X86.specialBack hx (y := (⟨"com/example/coverline/coverline/Instants", "<init>", "(I)V"⟩ : MethodName)) rfl hown (mvT hZ (hw _ (List.mem_of_getElem? (i := 3) rfl))) (mvT hZ (hw _ (List.mem_of_getElem? (i := 4) rfl))) (mvT hZ (hw _ (List.mem_of_getElem? (i := 5) rfl))) (by decide) (backOf (W := 1) (rm1 l Z a0 hw [] b86 (2 : Int32) 2 h86 n0 Zs86 F1_86 F2_86 A86 gb86 (by decide) (by decide) (by decide)) hZ (hw _ (List.mem_of_getElem? (i := 5) rfl)) (hw _ (List.mem_of_getElem? (i := 2) rfl)) (by decide) (by decide)) (g := (mkF m 23 #[.val (.int p1), .val (.int p2), .val (.int p3), .val (.int p4), .val (.int mo), .val (.int (0 : Int32)), .unset, .unset, .unset, .unset, .unset, .unset, .unset, .unset, .unset, .unset, .unset] [(.int (2 : Int32)), (.ref b86), (.ref b86)])) rfl (by rw [hml]; rfl) (Steps.refl _) (a := b86) (argsL := [(.int (2 : Int32))]) (rest := [(.ref b86)]) (lenOf pd1 rfl) rfl (by show 2 * 0 + _ ≤ _; exact Nat.le_of_eq rfl) (hb hby at_23) (fun _ _ => ⟨rfl, e86, (by decide : 1 + 2 ≤ _), (by decide : 2 + 4 ≤ _)⟩)
  dsimp only [Pt.U, Pt.locs, Pt.cells, Pt.slots] at X88 l88 y88 z88 st88 hQ88
  subst l88 y88 z88
  obtain ⟨rfl, N88q, t88, r88, I88, K88, ft88, fr88⟩ := hQ88
  have N88 := Fr.app N0 N88q
  have C88 : ∀ t, Steps p.tables e below (T88.setTop (mkF m 26 #[.val (.int p1), .val (.int p2), .val (.int p3), .val (.int p4), .val (.int mo), .val (.int (0 : Int32)), .unset, .unset, .unset, .unset, .unset, .unset, .unset, .unset, .unset, .unset, .unset] [(.ref b86)])) t → Steps p.tables e below (s₁.setTop (entryFrame m #[(.int p1), (.int p2), (.int p3), (.int p4)] maxLocals)) t := fun t k => C87 t (st88.trans k)
  have Zc88 : n0 ≤ T88.heap.size := Nat.le_trans Zs86 K88.1
  have gt88 : n0 ≤ t88 := Nat.le_trans Zs86 ft88
  have gr88 : n0 ≤ r88 := Nat.le_trans Zs86 fr88
  have C89 : ∀ t, Steps p.tables e below (T88.setTop (mkF m 38 #[.val (.int p1), .val (.int p2), .val (.int p3), .val (.int p4), .val (.int mo), .val (.int (0 : Int32)), .val (.ref b86), .unset, .unset, .unset, .unset, .unset, .unset, .unset, .unset, .unset, .unset] [])) t → Steps p.tables e below (s₁.setTop (entryFrame m #[(.int p1), (.int p2), (.int p3), (.int p4)] maxLocals)) t := by
    intro t k
    refine C88 t ?_
    show Steps p.tables e below (T88.setTop (mkF m 26 #[.val (.int p1), .val (.int p2), .val (.int p3), .val (.int p4), .val (.int mo), .val (.int (0 : Int32)), .unset, .unset, .unset, .unset, .unset, .unset, .unset, .unset, .unset, .unset, .unset] [(.ref b86)])) _
    refine XS.astore X88.here hx rfl (hb hby at_26) rfl rfl (l' := #[.val (.int p1), .val (.int p2), .val (.int p3), .val (.int p4), .val (.int mo), .val (.int (0 : Int32)), .val (.ref b86), .unset, .unset, .unset, .unset, .unset, .unset, .unset, .unset, .unset, .unset]) rfl ?_
    show Steps p.tables e below (T88.setTop (mkF m 28 #[.val (.int p1), .val (.int p2), .val (.int p3), .val (.int p4), .val (.int mo), .val (.int (0 : Int32)), .val (.ref b86), .unset, .unset, .unset, .unset, .unset, .unset, .unset, .unset, .unset, .unset] [])) _
    refine XS.iload X88.here hx rfl (hb hby at_28) rfl ?_
    show Steps p.tables e below (T88.setTop (mkF m 30 #[.val (.int p1), .val (.int p2), .val (.int p3), .val (.int p4), .val (.int mo), .val (.int (0 : Int32)), .val (.ref b86), .unset, .unset, .unset, .unset, .unset, .unset, .unset, .unset, .unset, .unset] [(.int (0 : Int32))])) _
    refine XS.ifYes X88.here hx rfl (pc0 := 30) (pc' := 38) rfl (hb hby at_30) rfl (XT.i0_eq_t (by decide)) (by decide) (by decide) ?_
    exact k
  obtain ⟨T90, h90, X90, e90, E90, A90, D90, -, st90⟩ := newO X88 hx hZ hown (hw _ (List.mem_of_getElem? (i := 0) rfl)) (hw _ (List.mem_of_getElem? (i := 1) rfl)) (hw _ (List.mem_of_getElem? (i := 2) rfl)) rfl (g := (mkF m 38 #[.val (.int p1), .val (.int p2), .val (.int p3), .val (.int p4), .val (.int mo), .val (.int (0 : Int32)), .val (.ref b86), .unset, .unset, .unset, .unset, .unset, .unset, .unset, .unset, .unset, .unset] [])) rfl (hb hby at_38) (by decide) (by decide)
  obtain ⟨b90, g90⟩ : ∃ z, z = T88.heap.size := ⟨_, rfl⟩
  rw [← g90] at A90 D90 st90
  have C90 : ∀ t, Steps p.tables e below (T90.setTop (mkF m 41 #[.val (.int p1), .val (.int p2), .val (.int p3), .val (.int p4), .val (.int mo), .val (.int (0 : Int32)), .val (.ref b86), .unset, .unset, .unset, .unset, .unset, .unset, .unset, .unset, .unset, .unset] [(.ref b90)])) t → Steps p.tables e below (s₁.setTop (entryFrame m #[(.int p1), (.int p2), (.int p3), (.int p4)] maxLocals)) t := fun t k => C89 t (st90 t k)
  have F1_90 : Fld Z h90 b90 "com/example/coverline/coverline/Instants" "times" "[D" .null := D90 (Or.inr (hw _ (List.mem_of_getElem? (i := 11) rfl))) (ty := (.array .double)) (by decide)
  have F2_90 : Fld Z h90 b90 "com/example/coverline/coverline/Instants" "remainders" "[D" .null := D90 (Or.inr (hw _ (List.mem_of_getElem? (i := 13) rfl))) (ty := (.array .double)) (by decide)
  have Zs90 : n0 ≤ h90.size := Nat.le_trans Zc88 E90.1
  have gb90 : n0 ≤ b90 := Nat.le_trans Zc88 (Nat.le_of_eq g90.symm)
  have C91 : ∀ t, Steps p.tables e below (T90.setTop (mkF m 43 #[.val (.int p1), .val (.int p2), .val (.int p3), .val (.int p4), .val (.int mo), .val (.int (0 : Int32)), .val (.ref b86), .unset, .unset, .unset, .unset, .unset, .unset, .unset, .unset, .unset, .unset] [(.int (2 : Int32)), (.ref b90), (.ref b90)])) t → Steps p.tables e below (s₁.setTop (entryFrame m #[(.int p1), (.int p2), (.int p3), (.int p4)] maxLocals)) t := by
    intro t k
    refine C90 t ?_
    show Steps p.tables e below (T90.setTop (mkF m 41 #[.val (.int p1), .val (.int p2), .val (.int p3), .val (.int p4), .val (.int mo), .val (.int (0 : Int32)), .val (.ref b86), .unset, .unset, .unset, .unset, .unset, .unset, .unset, .unset, .unset, .unset] [(.ref b90)])) _
    refine XS.dup X90.here hx rfl (hb hby at_41) rfl rfl ?_
    show Steps p.tables e below (T90.setTop (mkF m 42 #[.val (.int p1), .val (.int p2), .val (.int p3), .val (.int p4), .val (.int mo), .val (.int (0 : Int32)), .val (.ref b86), .unset, .unset, .unset, .unset, .unset, .unset, .unset, .unset, .unset, .unset] [(.ref b90), (.ref b90)])) _
    refine XS.iconst X90.here hx rfl (hb hby at_42) ?_
    exact k
  obtain ⟨_, _, ⟨T92, L92, k92, n92⟩, -, X92, ⟨Lc92, hQ92, l92, y92, z92⟩, st92⟩ := X90.specialBack hx (y := (⟨"com/example/coverline/coverline/Instants", "<init>", "(I)V"⟩ : MethodName)) rfl hown (mvT hZ (hw _ (List.mem_of_getElem? (i := 3) rfl))) (mvT hZ (hw _ (List.mem_of_getElem? (i := 4) rfl))) (mvT hZ (hw _ (List.mem_of_getElem? (i := 5) rfl))) (by decide) (backOf (W := 1) (rm1 l Z a0 hw [] b90 (2 : Int32) 2 h90 n0 Zs90 F1_90 F2_90 A90 gb90 (by decide) (by decide) (by decide)) hZ (hw _ (List.mem_of_getElem? (i := 5) rfl)) (hw _ (List.mem_of_getElem? (i := 2) rfl)) (by decide) (by decide)) (g := (mkF m 43 #[.val (.int p1), .val (.int p2), .val (.int p3), .val (.int p4), .val (.int mo), .val (.int (0 : Int32)), .val (.ref b86), .unset, .unset, .unset, .unset, .unset, .unset, .unset, .unset, .unset, .unset] [(.int (2 : Int32)), (.ref b90), (.ref b90)])) rfl (by rw [hml]; rfl) (Steps.refl _) (a := b90) (argsL := [(.int (2 : Int32))]) (rest := [(.ref b90)]) (lenOf pd1 rfl) rfl (by show 2 * 0 + _ ≤ _; exact Nat.le_of_eq rfl) (hb hby at_43) (fun _ _ => ⟨rfl, e90, (by decide : 4 + 2 ≤ _), (by decide : 8 + 4 ≤ _)⟩)
  dsimp only [Pt.U, Pt.locs, Pt.cells, Pt.slots] at X92 l92 y92 z92 st92 hQ92
  subst l92 y92 z92
  obtain ⟨rfl, N92q, t92, r92, I92, K92, ft92, fr92⟩ := hQ92
  have N92 := Fr.app N88 N92q
  have C92 : ∀ t, Steps p.tables e below (T92.setTop (mkF m 46 #[.val (.int p1), .val (.int p2), .val (.int p3), .val (.int p4), .val (.int mo), .val (.int (0 : Int32)), .val (.ref b86), .unset, .unset, .unset, .unset, .unset, .unset, .unset, .unset, .unset, .unset] [(.ref b90)])) t → Steps p.tables e below (s₁.setTop (entryFrame m #[(.int p1), (.int p2), (.int p3), (.int p4)] maxLocals)) t := fun t k => C91 t (st92.trans k)
  have Zc92 : n0 ≤ T92.heap.size := Nat.le_trans Zs90 K92.1
  have gt92 : n0 ≤ t92 := Nat.le_trans Zs90 ft92
  have gr92 : n0 ≤ r92 := Nat.le_trans Zs90 fr92
  have I1 := I88.over E90 g90 K92
  have s12 := I88.sep E90.1 ft92 fr92
  have I2 := I92
  have C93 : ∀ t, Steps p.tables e below (T92.setTop (mkF m 55 #[.val (.int p1), .val (.int p2), .val (.int p3), .val (.int p4), .val (.int mo), .val (.int (0 : Int32)), .val (.ref b86), .val (.ref b90), .val (.int (p4 &&& (1 : Int32))), .unset, .unset, .unset, .unset, .unset, .unset, .unset, .unset] [(.int (0 : Int32))])) t → Steps p.tables e below (s₁.setTop (entryFrame m #[(.int p1), (.int p2), (.int p3), (.int p4)] maxLocals)) t := by
    intro t k
    refine C92 t ?_
    show Steps p.tables e below (T92.setTop (mkF m 46 #[.val (.int p1), .val (.int p2), .val (.int p3), .val (.int p4), .val (.int mo), .val (.int (0 : Int32)), .val (.ref b86), .unset, .unset, .unset, .unset, .unset, .unset, .unset, .unset, .unset, .unset] [(.ref b90)])) _
    refine XS.astore X92.here hx rfl (hb hby at_46) rfl rfl (l' := #[.val (.int p1), .val (.int p2), .val (.int p3), .val (.int p4), .val (.int mo), .val (.int (0 : Int32)), .val (.ref b86), .val (.ref b90), .unset, .unset, .unset, .unset, .unset, .unset, .unset, .unset, .unset]) rfl ?_
    show Steps p.tables e below (T92.setTop (mkF m 48 #[.val (.int p1), .val (.int p2), .val (.int p3), .val (.int p4), .val (.int mo), .val (.int (0 : Int32)), .val (.ref b86), .val (.ref b90), .unset, .unset, .unset, .unset, .unset, .unset, .unset, .unset, .unset] [])) _
    refine XS.iloadN X92.here hx rfl (hb hby at_48) rfl ?_
    show Steps p.tables e below (T92.setTop (mkF m 49 #[.val (.int p1), .val (.int p2), .val (.int p3), .val (.int p4), .val (.int mo), .val (.int (0 : Int32)), .val (.ref b86), .val (.ref b90), .unset, .unset, .unset, .unset, .unset, .unset, .unset, .unset, .unset] [(.int p4)])) _
    refine XS.iconst X92.here hx rfl (hb hby at_49) ?_
    show Steps p.tables e below (T92.setTop (mkF m 50 #[.val (.int p1), .val (.int p2), .val (.int p3), .val (.int p4), .val (.int mo), .val (.int (0 : Int32)), .val (.ref b86), .val (.ref b90), .unset, .unset, .unset, .unset, .unset, .unset, .unset, .unset, .unset] [(.int (1 : Int32)), (.int p4)])) _
    refine XS.iand X92.here hx rfl (hb hby at_50) rfl ?_
    show Steps p.tables e below (T92.setTop (mkF m 51 #[.val (.int p1), .val (.int p2), .val (.int p3), .val (.int p4), .val (.int mo), .val (.int (0 : Int32)), .val (.ref b86), .val (.ref b90), .unset, .unset, .unset, .unset, .unset, .unset, .unset, .unset, .unset] [(.int (p4 &&& (1 : Int32)))])) _
    refine XS.istore X92.here hx rfl (hb hby at_51) rfl (l' := #[.val (.int p1), .val (.int p2), .val (.int p3), .val (.int p4), .val (.int mo), .val (.int (0 : Int32)), .val (.ref b86), .val (.ref b90), .val (.int (p4 &&& (1 : Int32))), .unset, .unset, .unset, .unset, .unset, .unset, .unset, .unset]) rfl ?_
    show Steps p.tables e below (T92.setTop (mkF m 53 #[.val (.int p1), .val (.int p2), .val (.int p3), .val (.int p4), .val (.int mo), .val (.int (0 : Int32)), .val (.ref b86), .val (.ref b90), .val (.int (p4 &&& (1 : Int32))), .unset, .unset, .unset, .unset, .unset, .unset, .unset, .unset] [])) _
    refine XS.iload X92.here hx rfl (hb hby at_53) rfl ?_
    exact k
  obtain ⟨ii, h_ii⟩ : ∃ z : Int32, z = (p4 &&& (1 : Int32)) := ⟨_, rfl⟩
  rw [← h_ii] at C93
  have C94 : ∀ t, Steps p.tables e below (T92.setTop (mkF m 74 #[.val (.int p1), .val (.int p2), .val (.int p3), .val (.int p4), .val (.int mo), .val (.int (0 : Int32)), .val (.ref b86), .val (.ref b90), .val (.int ii), .val (.int ((p4 >>> ((1 : Int32) &&& 31)) &&& (1 : Int32))), .unset, .unset, .unset, .unset, .unset, .unset, .unset] [(.int mo)])) t → Steps p.tables e below (s₁.setTop (entryFrame m #[(.int p1), (.int p2), (.int p3), (.int p4)] maxLocals)) t := by
    intro t k
    refine C93 t ?_
    show Steps p.tables e below (T92.setTop (mkF m 55 #[.val (.int p1), .val (.int p2), .val (.int p3), .val (.int p4), .val (.int mo), .val (.int (0 : Int32)), .val (.ref b86), .val (.ref b90), .val (.int ii), .unset, .unset, .unset, .unset, .unset, .unset, .unset, .unset] [(.int (0 : Int32))])) _
    refine XS.ifYes X92.here hx rfl (pc0 := 55) (pc' := 65) rfl (hb hby at_55) rfl (XT.i0_eq_t (by decide)) (by decide) (by decide) ?_
    show Steps p.tables e below (T92.setTop (mkF m 65 #[.val (.int p1), .val (.int p2), .val (.int p3), .val (.int p4), .val (.int mo), .val (.int (0 : Int32)), .val (.ref b86), .val (.ref b90), .val (.int ii), .unset, .unset, .unset, .unset, .unset, .unset, .unset, .unset] [])) _
    refine XS.iloadN X92.here hx rfl (hb hby at_65) rfl ?_
    show Steps p.tables e below (T92.setTop (mkF m 66 #[.val (.int p1), .val (.int p2), .val (.int p3), .val (.int p4), .val (.int mo), .val (.int (0 : Int32)), .val (.ref b86), .val (.ref b90), .val (.int ii), .unset, .unset, .unset, .unset, .unset, .unset, .unset, .unset] [(.int p4)])) _
    refine XS.iconst X92.here hx rfl (hb hby at_66) ?_
    show Steps p.tables e below (T92.setTop (mkF m 67 #[.val (.int p1), .val (.int p2), .val (.int p3), .val (.int p4), .val (.int mo), .val (.int (0 : Int32)), .val (.ref b86), .val (.ref b90), .val (.int ii), .unset, .unset, .unset, .unset, .unset, .unset, .unset, .unset] [(.int (1 : Int32)), (.int p4)])) _
    refine XS.ishr X92.here hx rfl (hb hby at_67) rfl ?_
    show Steps p.tables e below (T92.setTop (mkF m 68 #[.val (.int p1), .val (.int p2), .val (.int p3), .val (.int p4), .val (.int mo), .val (.int (0 : Int32)), .val (.ref b86), .val (.ref b90), .val (.int ii), .unset, .unset, .unset, .unset, .unset, .unset, .unset, .unset] [(.int (p4 >>> ((1 : Int32) &&& 31)))])) _
    refine XS.iconst X92.here hx rfl (hb hby at_68) ?_
    show Steps p.tables e below (T92.setTop (mkF m 69 #[.val (.int p1), .val (.int p2), .val (.int p3), .val (.int p4), .val (.int mo), .val (.int (0 : Int32)), .val (.ref b86), .val (.ref b90), .val (.int ii), .unset, .unset, .unset, .unset, .unset, .unset, .unset, .unset] [(.int (1 : Int32)), (.int (p4 >>> ((1 : Int32) &&& 31)))])) _
    refine XS.iand X92.here hx rfl (hb hby at_69) rfl ?_
    show Steps p.tables e below (T92.setTop (mkF m 70 #[.val (.int p1), .val (.int p2), .val (.int p3), .val (.int p4), .val (.int mo), .val (.int (0 : Int32)), .val (.ref b86), .val (.ref b90), .val (.int ii), .unset, .unset, .unset, .unset, .unset, .unset, .unset, .unset] [(.int ((p4 >>> ((1 : Int32) &&& 31)) &&& (1 : Int32)))])) _
    refine XS.istore X92.here hx rfl (hb hby at_70) rfl (l' := #[.val (.int p1), .val (.int p2), .val (.int p3), .val (.int p4), .val (.int mo), .val (.int (0 : Int32)), .val (.ref b86), .val (.ref b90), .val (.int ii), .val (.int ((p4 >>> ((1 : Int32) &&& 31)) &&& (1 : Int32))), .unset, .unset, .unset, .unset, .unset, .unset, .unset]) rfl ?_
    show Steps p.tables e below (T92.setTop (mkF m 72 #[.val (.int p1), .val (.int p2), .val (.int p3), .val (.int p4), .val (.int mo), .val (.int (0 : Int32)), .val (.ref b86), .val (.ref b90), .val (.int ii), .val (.int ((p4 >>> ((1 : Int32) &&& 31)) &&& (1 : Int32))), .unset, .unset, .unset, .unset, .unset, .unset, .unset] [])) _
    refine XS.iload X92.here hx rfl (hb hby at_72) rfl ?_
    exact k
  obtain ⟨jj, h_jj⟩ : ∃ z : Int32, z = ((p4 >>> ((1 : Int32) &&& 31)) &&& (1 : Int32)) := ⟨_, rfl⟩
  rw [← h_jj] at C94
  have hii : ¬ ii < 0 ∧ ii.toNatClampNeg < 2 := by rw [h_ii]; exact own_bit p4
  have hjj : ¬ jj < 0 ∧ jj.toNatClampNeg < 2 := by rw [h_jj]; exact own_bit _
  have C95 : ∀ t, Steps p.tables e below (T92.setTop (mkF m 83 #[.val (.int p1), .val (.int p2), .val (.int p3), .val (.int p4), .val (.int mo), .val (.int (0 : Int32)), .val (.ref b86), .val (.ref b90), .val (.int ii), .val (.int jj), .unset, .unset, .unset, .unset, .unset, .unset, .unset] [(.double (FP.i2d p1)), (.int ii), (.ref b86)])) t → Steps p.tables e below (s₁.setTop (entryFrame m #[(.int p1), (.int p2), (.int p3), (.int p4)] maxLocals)) t := by
    intro t k
    refine C94 t ?_
    show Steps p.tables e below (T92.setTop (mkF m 74 #[.val (.int p1), .val (.int p2), .val (.int p3), .val (.int p4), .val (.int mo), .val (.int (0 : Int32)), .val (.ref b86), .val (.ref b90), .val (.int ii), .val (.int jj), .unset, .unset, .unset, .unset, .unset, .unset, .unset] [(.int mo)])) _
    refine XS.ifNo X92.here hx rfl (hb hby at_74) rfl (XT.i0_ne_f hmode) ?_
    show Steps p.tables e below (T92.setTop (mkF m 77 #[.val (.int p1), .val (.int p2), .val (.int p3), .val (.int p4), .val (.int mo), .val (.int (0 : Int32)), .val (.ref b86), .val (.ref b90), .val (.int ii), .val (.int jj), .unset, .unset, .unset, .unset, .unset, .unset, .unset] [])) _
    refine XS.aload X92.here hx rfl (hb hby at_77) rfl rfl ?_
    show Steps p.tables e below (T92.setTop (mkF m 79 #[.val (.int p1), .val (.int p2), .val (.int p3), .val (.int p4), .val (.int mo), .val (.int (0 : Int32)), .val (.ref b86), .val (.ref b90), .val (.int ii), .val (.int jj), .unset, .unset, .unset, .unset, .unset, .unset, .unset] [(.ref b86)])) _
    refine XS.iload X92.here hx rfl (hb hby at_79) rfl ?_
    show Steps p.tables e below (T92.setTop (mkF m 81 #[.val (.int p1), .val (.int p2), .val (.int p3), .val (.int p4), .val (.int mo), .val (.int (0 : Int32)), .val (.ref b86), .val (.ref b90), .val (.int ii), .val (.int jj), .unset, .unset, .unset, .unset, .unset, .unset, .unset] [(.int ii), (.ref b86)])) _
    refine XS.iloadN X92.here hx rfl (hb hby at_81) rfl ?_
    show Steps p.tables e below (T92.setTop (mkF m 82 #[.val (.int p1), .val (.int p2), .val (.int p3), .val (.int p4), .val (.int mo), .val (.int (0 : Int32)), .val (.ref b86), .val (.ref b90), .val (.int ii), .val (.int jj), .unset, .unset, .unset, .unset, .unset, .unset, .unset] [(.int p1), (.int ii), (.ref b86)])) _
    refine XS.i2dS X92.here hx rfl (hb hby at_82) rfl rfl ?_
    exact k
  obtain ⟨cq96, kq96, q96a, q96b, q96c⟩ := isOf hZ rfl I1.1
  obtain ⟨_, _, ⟨T96, L96, k96, n96⟩, -, X96, ⟨Lc96, hQ96, l96, y96, z96⟩, st96⟩ := X92.virtualBack hx (y := (⟨"com/example/coverline/coverline/Instants", "set", "(ID)V"⟩ : MethodName)) (z := (⟨"com/example/coverline/coverline/Instants", "set", "(ID)V"⟩ : MethodName)) hown (mvT hZ (hw _ (List.mem_of_getElem? (i := 15) rfl))) (mvT hZ (hw _ (List.mem_of_getElem? (i := 16) rfl))) (notFace_of_selects (args := #[]) (mvT hZ (hw _ (List.mem_of_getElem? (i := 18) rfl)))) (mvT hZ (hw _ (List.mem_of_getElem? (i := 18) rfl))) (mvT hZ (hw _ (List.mem_of_getElem? (i := 17) rfl))) (by decide) (backOf (W := 0) (rm3 l Z a0 hw [] b86 ii (FP.i2d p1) t88 r88 2 (fun _ => 0) (fun _ => 0) T92.heap n0 Zc92 I1 hii gt88 gr88) hZ (hw _ (List.mem_of_getElem? (i := 19) rfl)) (hw _ (List.mem_of_getElem? (i := 2) rfl)) (by decide) (by decide)) q96a q96c (g := (mkF m 83 #[.val (.int p1), .val (.int p2), .val (.int p3), .val (.int p4), .val (.int mo), .val (.int (0 : Int32)), .val (.ref b86), .val (.ref b90), .val (.int ii), .val (.int jj), .unset, .unset, .unset, .unset, .unset, .unset, .unset] [(.double (FP.i2d p1)), (.int ii), (.ref b86)])) rfl (by rw [hml]; rfl) (Steps.refl _) (argsL := [(.int ii), (.double (FP.i2d p1))]) (rest := []) (lenOf pd2 rfl) rfl (by show 2 * 0 + _ ≤ _; exact Nat.le_of_eq rfl) (hb hby at_83) (fun _ _ => ⟨rfl, rfl, (by decide : 6 + 0 ≤ _), (by decide : 12 + 0 ≤ _)⟩)
  dsimp only [Pt.U, Pt.locs, Pt.cells, Pt.slots] at X96 l96 y96 z96 st96 hQ96
  subst l96 y96 z96
  obtain ⟨rfl, N96q, J96, K96⟩ := hQ96
  have N96 := Fr.app N92 N96q
  have C96 : ∀ t, Steps p.tables e below (T96.setTop (mkF m 86 #[.val (.int p1), .val (.int p2), .val (.int p3), .val (.int p4), .val (.int mo), .val (.int (0 : Int32)), .val (.ref b86), .val (.ref b90), .val (.int ii), .val (.int jj), .unset, .unset, .unset, .unset, .unset, .unset, .unset] [])) t → Steps p.tables e below (s₁.setTop (entryFrame m #[(.int p1), (.int p2), (.int p3), (.int p4)] maxLocals)) t := fun t k => C95 t (st96.trans k)
  have Zc96 : n0 ≤ T96.heap.size := Nat.le_trans Zc92 K96.1
  have I2b := I2.beside (hw _ (List.mem_of_getElem? (i := 1) rfl)) I1 K96 (own_sepsym s12)
  have C97 : ∀ t, Steps p.tables e below (T96.setTop (mkF m 92 #[.val (.int p1), .val (.int p2), .val (.int p3), .val (.int p4), .val (.int mo), .val (.int (0 : Int32)), .val (.ref b86), .val (.ref b90), .val (.int ii), .val (.int jj), .unset, .unset, .unset, .unset, .unset, .unset, .unset] [(.double (FP.i2d p2)), (.int jj), (.ref b90)])) t → Steps p.tables e below (s₁.setTop (entryFrame m #[(.int p1), (.int p2), (.int p3), (.int p4)] maxLocals)) t := by
    intro t k
    refine C96 t ?_
    show Steps p.tables e below (T96.setTop (mkF m 86 #[.val (.int p1), .val (.int p2), .val (.int p3), .val (.int p4), .val (.int mo), .val (.int (0 : Int32)), .val (.ref b86), .val (.ref b90), .val (.int ii), .val (.int jj), .unset, .unset, .unset, .unset, .unset, .unset, .unset] [])) _
    refine XS.aload X96.here hx rfl (hb hby at_86) rfl rfl ?_
    show Steps p.tables e below (T96.setTop (mkF m 88 #[.val (.int p1), .val (.int p2), .val (.int p3), .val (.int p4), .val (.int mo), .val (.int (0 : Int32)), .val (.ref b86), .val (.ref b90), .val (.int ii), .val (.int jj), .unset, .unset, .unset, .unset, .unset, .unset, .unset] [(.ref b90)])) _
    refine XS.iload X96.here hx rfl (hb hby at_88) rfl ?_
    show Steps p.tables e below (T96.setTop (mkF m 90 #[.val (.int p1), .val (.int p2), .val (.int p3), .val (.int p4), .val (.int mo), .val (.int (0 : Int32)), .val (.ref b86), .val (.ref b90), .val (.int ii), .val (.int jj), .unset, .unset, .unset, .unset, .unset, .unset, .unset] [(.int jj), (.ref b90)])) _
    refine XS.iloadN X96.here hx rfl (hb hby at_90) rfl ?_
    show Steps p.tables e below (T96.setTop (mkF m 91 #[.val (.int p1), .val (.int p2), .val (.int p3), .val (.int p4), .val (.int mo), .val (.int (0 : Int32)), .val (.ref b86), .val (.ref b90), .val (.int ii), .val (.int jj), .unset, .unset, .unset, .unset, .unset, .unset, .unset] [(.int p2), (.int jj), (.ref b90)])) _
    refine XS.i2dS X96.here hx rfl (hb hby at_91) rfl rfl ?_
    exact k
  obtain ⟨cq98, kq98, q98a, q98b, q98c⟩ := isOf hZ rfl I2b.1
  obtain ⟨_, _, ⟨T98, L98, k98, n98⟩, -, X98, ⟨Lc98, hQ98, l98, y98, z98⟩, st98⟩ := X96.virtualBack hx (y := (⟨"com/example/coverline/coverline/Instants", "set", "(ID)V"⟩ : MethodName)) (z := (⟨"com/example/coverline/coverline/Instants", "set", "(ID)V"⟩ : MethodName)) hown (mvT hZ (hw _ (List.mem_of_getElem? (i := 15) rfl))) (mvT hZ (hw _ (List.mem_of_getElem? (i := 16) rfl))) (notFace_of_selects (args := #[]) (mvT hZ (hw _ (List.mem_of_getElem? (i := 18) rfl)))) (mvT hZ (hw _ (List.mem_of_getElem? (i := 18) rfl))) (mvT hZ (hw _ (List.mem_of_getElem? (i := 17) rfl))) (by decide) (backOf (W := 0) (rm3 l Z a0 hw [] b90 jj (FP.i2d p2) t92 r92 2 (fun _ => 0) (fun _ => 0) T96.heap n0 Zc96 I2b hjj gt92 gr92) hZ (hw _ (List.mem_of_getElem? (i := 19) rfl)) (hw _ (List.mem_of_getElem? (i := 2) rfl)) (by decide) (by decide)) q98a q98c (g := (mkF m 92 #[.val (.int p1), .val (.int p2), .val (.int p3), .val (.int p4), .val (.int mo), .val (.int (0 : Int32)), .val (.ref b86), .val (.ref b90), .val (.int ii), .val (.int jj), .unset, .unset, .unset, .unset, .unset, .unset, .unset] [(.double (FP.i2d p2)), (.int jj), (.ref b90)])) rfl (by rw [hml]; rfl) (Steps.refl _) (argsL := [(.int jj), (.double (FP.i2d p2))]) (rest := []) (lenOf pd2 rfl) rfl (by show 2 * 0 + _ ≤ _; exact Nat.le_of_eq rfl) (hb hby at_92) (fun _ _ => ⟨rfl, rfl, (by decide : 6 + 0 ≤ _), (by decide : 12 + 0 ≤ _)⟩)
  dsimp only [Pt.U, Pt.locs, Pt.cells, Pt.slots] at X98 l98 y98 z98 st98 hQ98
  subst l98 y98 z98
  obtain ⟨rfl, N98q, J98, K98⟩ := hQ98
  have N98 := Fr.app N96 N98q
  have C98 : ∀ t, Steps p.tables e below (T98.setTop (mkF m 95 #[.val (.int p1), .val (.int p2), .val (.int p3), .val (.int p4), .val (.int mo), .val (.int (0 : Int32)), .val (.ref b86), .val (.ref b90), .val (.int ii), .val (.int jj), .unset, .unset, .unset, .unset, .unset, .unset, .unset] [])) t → Steps p.tables e below (s₁.setTop (entryFrame m #[(.int p1), (.int p2), (.int p3), (.int p4)] maxLocals)) t := fun t k => C97 t (st98.trans k)
  have Zc98 : n0 ≤ T98.heap.size := Nat.le_trans Zc96 K98.1
  have I1b := J96.beside (hw _ (List.mem_of_getElem? (i := 1) rfl)) I2b K98 s12
  have C99 : ∀ t, Steps p.tables e below (T98.setTop (mkF m 207 #[.val (.int p1), .val (.int p2), .val (.int p3), .val (.int p4), .val (.int mo), .val (.int (0 : Int32)), .val (.ref b86), .val (.ref b90), .val (.int ii), .val (.int jj), .val (.double (FP.l2d ((p2.toInt64) - (p1.toInt64)))), .second, .unset, .unset, .unset, .unset, .unset] [(.int jj), (.ref b90), (.int ii), (.ref b86)])) t → Steps p.tables e below (s₁.setTop (entryFrame m #[(.int p1), (.int p2), (.int p3), (.int p4)] maxLocals)) t := by
    intro t k
    refine C98 t ?_
    show Steps p.tables e below (T98.setTop (mkF m 95 #[.val (.int p1), .val (.int p2), .val (.int p3), .val (.int p4), .val (.int mo), .val (.int (0 : Int32)), .val (.ref b86), .val (.ref b90), .val (.int ii), .val (.int jj), .unset, .unset, .unset, .unset, .unset, .unset, .unset] [])) _
    refine XS.iloadN X98.here hx rfl (hb hby at_95) rfl ?_
    show Steps p.tables e below (T98.setTop (mkF m 96 #[.val (.int p1), .val (.int p2), .val (.int p3), .val (.int p4), .val (.int mo), .val (.int (0 : Int32)), .val (.ref b86), .val (.ref b90), .val (.int ii), .val (.int jj), .unset, .unset, .unset, .unset, .unset, .unset, .unset] [(.int p2)])) _
    refine XS.i2l X98.here hx rfl (hb hby at_96) rfl ?_
    show Steps p.tables e below (T98.setTop (mkF m 97 #[.val (.int p1), .val (.int p2), .val (.int p3), .val (.int p4), .val (.int mo), .val (.int (0 : Int32)), .val (.ref b86), .val (.ref b90), .val (.int ii), .val (.int jj), .unset, .unset, .unset, .unset, .unset, .unset, .unset] [(.long (p2.toInt64))])) _
    refine XS.iloadN X98.here hx rfl (hb hby at_97) rfl ?_
    show Steps p.tables e below (T98.setTop (mkF m 98 #[.val (.int p1), .val (.int p2), .val (.int p3), .val (.int p4), .val (.int mo), .val (.int (0 : Int32)), .val (.ref b86), .val (.ref b90), .val (.int ii), .val (.int jj), .unset, .unset, .unset, .unset, .unset, .unset, .unset] [(.int p1), (.long (p2.toInt64))])) _
    refine XS.i2l X98.here hx rfl (hb hby at_98) rfl ?_
    show Steps p.tables e below (T98.setTop (mkF m 99 #[.val (.int p1), .val (.int p2), .val (.int p3), .val (.int p4), .val (.int mo), .val (.int (0 : Int32)), .val (.ref b86), .val (.ref b90), .val (.int ii), .val (.int jj), .unset, .unset, .unset, .unset, .unset, .unset, .unset] [(.long (p1.toInt64)), (.long (p2.toInt64))])) _
    refine XS.lsub X98.here hx rfl (hb hby at_99) rfl ?_
    show Steps p.tables e below (T98.setTop (mkF m 100 #[.val (.int p1), .val (.int p2), .val (.int p3), .val (.int p4), .val (.int mo), .val (.int (0 : Int32)), .val (.ref b86), .val (.ref b90), .val (.int ii), .val (.int jj), .unset, .unset, .unset, .unset, .unset, .unset, .unset] [(.long ((p2.toInt64) - (p1.toInt64)))])) _
    refine XS.l2dS X98.here hx rfl (hb hby at_100) rfl rfl ?_
    show Steps p.tables e below (T98.setTop (mkF m 101 #[.val (.int p1), .val (.int p2), .val (.int p3), .val (.int p4), .val (.int mo), .val (.int (0 : Int32)), .val (.ref b86), .val (.ref b90), .val (.int ii), .val (.int jj), .unset, .unset, .unset, .unset, .unset, .unset, .unset] [(.double (FP.l2d ((p2.toInt64) - (p1.toInt64))))])) _
    refine XS.dstore X98.here hx rfl (hb hby at_101) rfl (l' := #[.val (.int p1), .val (.int p2), .val (.int p3), .val (.int p4), .val (.int mo), .val (.int (0 : Int32)), .val (.ref b86), .val (.ref b90), .val (.int ii), .val (.int jj), .val (.double (FP.l2d ((p2.toInt64) - (p1.toInt64)))), .second, .unset, .unset, .unset, .unset, .unset]) rfl ?_
    show Steps p.tables e below (T98.setTop (mkF m 103 #[.val (.int p1), .val (.int p2), .val (.int p3), .val (.int p4), .val (.int mo), .val (.int (0 : Int32)), .val (.ref b86), .val (.ref b90), .val (.int ii), .val (.int jj), .val (.double (FP.l2d ((p2.toInt64) - (p1.toInt64)))), .second, .unset, .unset, .unset, .unset, .unset] [])) _
    refine XS.goto X98.here hx rfl (pc0 := 103) (pc' := 199) rfl (hb hby at_103) (by decide) (by decide) ?_
    show Steps p.tables e below (T98.setTop (mkF m 199 #[.val (.int p1), .val (.int p2), .val (.int p3), .val (.int p4), .val (.int mo), .val (.int (0 : Int32)), .val (.ref b86), .val (.ref b90), .val (.int ii), .val (.int jj), .val (.double (FP.l2d ((p2.toInt64) - (p1.toInt64)))), .second, .unset, .unset, .unset, .unset, .unset] [])) _
    refine XS.aload X98.here hx rfl (hb hby at_199) rfl rfl ?_
    show Steps p.tables e below (T98.setTop (mkF m 201 #[.val (.int p1), .val (.int p2), .val (.int p3), .val (.int p4), .val (.int mo), .val (.int (0 : Int32)), .val (.ref b86), .val (.ref b90), .val (.int ii), .val (.int jj), .val (.double (FP.l2d ((p2.toInt64) - (p1.toInt64)))), .second, .unset, .unset, .unset, .unset, .unset] [(.ref b86)])) _
    refine XS.iload X98.here hx rfl (hb hby at_201) rfl ?_
    show Steps p.tables e below (T98.setTop (mkF m 203 #[.val (.int p1), .val (.int p2), .val (.int p3), .val (.int p4), .val (.int mo), .val (.int (0 : Int32)), .val (.ref b86), .val (.ref b90), .val (.int ii), .val (.int jj), .val (.double (FP.l2d ((p2.toInt64) - (p1.toInt64)))), .second, .unset, .unset, .unset, .unset, .unset] [(.int ii), (.ref b86)])) _
    refine XS.aload X98.here hx rfl (hb hby at_203) rfl rfl ?_
    show Steps p.tables e below (T98.setTop (mkF m 205 #[.val (.int p1), .val (.int p2), .val (.int p3), .val (.int p4), .val (.int mo), .val (.int (0 : Int32)), .val (.ref b86), .val (.ref b90), .val (.int ii), .val (.int jj), .val (.double (FP.l2d ((p2.toInt64) - (p1.toInt64)))), .second, .unset, .unset, .unset, .unset, .unset] [(.ref b90), (.int ii), (.ref b86)])) _
    refine XS.iload X98.here hx rfl (hb hby at_205) rfl ?_
    exact k
  obtain ⟨cq100, kq100, q100a, q100b, q100c⟩ := isOf hZ rfl I1b.1
  obtain ⟨_, _, ⟨T100, L100, k100, n100⟩, -, X100, ⟨Lc100, hQ100, l100, y100, z100⟩, st100⟩ := X98.virtualBack hx (y := (⟨"com/example/coverline/coverline/Instants", "timeTo", "(ILcom/example/coverline/coverline/Instants;I)D"⟩ : MethodName)) (z := (⟨"com/example/coverline/coverline/Instants", "timeTo", "(ILcom/example/coverline/coverline/Instants;I)D"⟩ : MethodName)) hown (mvT hZ (hw _ (List.mem_of_getElem? (i := 28) rfl))) (mvT hZ (hw _ (List.mem_of_getElem? (i := 29) rfl))) (notFace_of_selects (args := #[]) (mvT hZ (hw _ (List.mem_of_getElem? (i := 31) rfl)))) (mvT hZ (hw _ (List.mem_of_getElem? (i := 31) rfl))) (mvT hZ (hw _ (List.mem_of_getElem? (i := 30) rfl))) (by decide) (backOf (W := 0) (rm6 l Z a0 hw [] b86 ii b90 jj t88 r88 t92 r92 2 2 (own_upd (fun _ => 0) ii (FP.i2d p1)) (own_upd (fun _ => 0) ii 0) (own_upd (fun _ => 0) jj (FP.i2d p2)) (own_upd (fun _ => 0) jj 0) (FP.i2d p2) (FP.i2d p1) 0 0 T98.heap n0 Zc98 I1b J98 hii hjj (own_upd_same _ _ _) (own_upd_same _ _ _) (own_upd_same _ _ _) (own_upd_same _ _ _) (own_lawA p1 p2).1 (own_lawA p1 p2).2.1 (own_lawA p1 p2).2.2.1) hZ (hw _ (List.mem_of_getElem? (i := 32) rfl)) (hw _ (List.mem_of_getElem? (i := 2) rfl)) (by decide) (by decide)) q100a q100c (g := (mkF m 207 #[.val (.int p1), .val (.int p2), .val (.int p3), .val (.int p4), .val (.int mo), .val (.int (0 : Int32)), .val (.ref b86), .val (.ref b90), .val (.int ii), .val (.int jj), .val (.double (FP.l2d ((p2.toInt64) - (p1.toInt64)))), .second, .unset, .unset, .unset, .unset, .unset] [(.int jj), (.ref b90), (.int ii), (.ref b86)])) rfl (by rw [hml]; rfl) (Steps.refl _) (argsL := [(.int ii), (.ref b90), (.int jj)]) (rest := []) (lenOf pd3 rfl) rfl (by show 2 * 0 + _ ≤ _; exact Nat.le_of_eq rfl) (hb hby at_207) (fun _ _ => ⟨rfl, rfl, (by decide : 6 + 0 ≤ _), (by decide : 12 + 0 ≤ _)⟩)
  dsimp only [Pt.U, Pt.locs, Pt.cells, Pt.slots] at X100 l100 y100 z100 st100 hQ100
  subst l100 y100 z100
  obtain ⟨rfl, N100q, q100⟩ := hQ100
  have N100 := Fr.app N98 N100q
  have C100 : ∀ t, Steps p.tables e below (T100.setTop (mkF m 210 #[.val (.int p1), .val (.int p2), .val (.int p3), .val (.int p4), .val (.int mo), .val (.int (0 : Int32)), .val (.ref b86), .val (.ref b90), .val (.int ii), .val (.int jj), .val (.double (FP.l2d ((p2.toInt64) - (p1.toInt64)))), .second, .unset, .unset, .unset, .unset, .unset] [(.double (FP.dadd (FP.dsub (FP.i2d p2) (FP.i2d p1)) (FP.dsub 0 0)))])) t → Steps p.tables e below (s₁.setTop (entryFrame m #[(.int p1), (.int p2), (.int p3), (.int p4)] maxLocals)) t := fun t k => C99 t (st100.trans k)
  have C101 : ∀ t, Steps p.tables e below (T100.setTop (mkF m 221 #[.val (.int p1), .val (.int p2), .val (.int p3), .val (.int p4), .val (.int mo), .val (.int (0 : Int32)), .val (.ref b86), .val (.ref b90), .val (.int ii), .val (.int jj), .val (.double (FP.l2d ((p2.toInt64) - (p1.toInt64)))), .second, .unset, .unset, .unset, .unset, .unset] [(.int (1 : Int32))])) t → Steps p.tables e below (s₁.setTop (entryFrame m #[(.int p1), (.int p2), (.int p3), (.int p4)] maxLocals)) t := by
    intro t k
    refine C100 t ?_
    show Steps p.tables e below (T100.setTop (mkF m 210 #[.val (.int p1), .val (.int p2), .val (.int p3), .val (.int p4), .val (.int mo), .val (.int (0 : Int32)), .val (.ref b86), .val (.ref b90), .val (.int ii), .val (.int jj), .val (.double (FP.l2d ((p2.toInt64) - (p1.toInt64)))), .second, .unset, .unset, .unset, .unset, .unset] [(.double (FP.dadd (FP.dsub (FP.i2d p2) (FP.i2d p1)) (FP.dsub 0 0)))])) _
    refine XS.dload X100.here hx rfl (hb hby at_210) rfl ?_
    show Steps p.tables e below (T100.setTop (mkF m 212 #[.val (.int p1), .val (.int p2), .val (.int p3), .val (.int p4), .val (.int mo), .val (.int (0 : Int32)), .val (.ref b86), .val (.ref b90), .val (.int ii), .val (.int jj), .val (.double (FP.l2d ((p2.toInt64) - (p1.toInt64)))), .second, .unset, .unset, .unset, .unset, .unset] [(.double (FP.l2d ((p2.toInt64) - (p1.toInt64)))), (.double (FP.dadd (FP.dsub (FP.i2d p2) (FP.i2d p1)) (FP.dsub 0 0)))])) _
    refine XS.dcmpS X100.here hx rfl (hb hby at_212) rfl (own_lawA p1 p2).2.2.2 ?_
    show Steps p.tables e below (T100.setTop (mkF m 213 #[.val (.int p1), .val (.int p2), .val (.int p3), .val (.int p4), .val (.int mo), .val (.int (0 : Int32)), .val (.ref b86), .val (.ref b90), .val (.int ii), .val (.int jj), .val (.double (FP.l2d ((p2.toInt64) - (p1.toInt64)))), .second, .unset, .unset, .unset, .unset, .unset] [(.int (0 : Int32))])) _
    refine XS.ifNo X100.here hx rfl (hb hby at_213) rfl (XT.i0_ne_f rfl) ?_
    show Steps p.tables e below (T100.setTop (mkF m 216 #[.val (.int p1), .val (.int p2), .val (.int p3), .val (.int p4), .val (.int mo), .val (.int (0 : Int32)), .val (.ref b86), .val (.ref b90), .val (.int ii), .val (.int jj), .val (.double (FP.l2d ((p2.toInt64) - (p1.toInt64)))), .second, .unset, .unset, .unset, .unset, .unset] [])) _
    refine XS.iconst X100.here hx rfl (hb hby at_216) ?_
    show Steps p.tables e below (T100.setTop (mkF m 217 #[.val (.int p1), .val (.int p2), .val (.int p3), .val (.int p4), .val (.int mo), .val (.int (0 : Int32)), .val (.ref b86), .val (.ref b90), .val (.int ii), .val (.int jj), .val (.double (FP.l2d ((p2.toInt64) - (p1.toInt64)))), .second, .unset, .unset, .unset, .unset, .unset] [(.int (1 : Int32))])) _
    refine XS.goto X100.here hx rfl (pc0 := 217) (pc' := 221) rfl (hb hby at_217) (by decide) (by decide) ?_
    exact k
  obtain ⟨fs, hr, hrun, hended, hW, hsame⟩ := X100.leave (v := some (.int (1 : Int32))) (fun h => by rw [Bd.returns] at h; cases h)
  refine ⟨_, _, C101 _ ?_, hrun, hended, _, _, rfl, ?_, ⟨_, rfl⟩, hW, hsame.mono (by decide) (by decide)⟩
  · show Steps p.tables e below (T100.setTop (mkF m 221 #[.val (.int p1), .val (.int p2), .val (.int p3), .val (.int p4), .val (.int mo), .val (.int (0 : Int32)), .val (.ref b86), .val (.ref b90), .val (.int ii), .val (.int jj), .val (.double (FP.l2d ((p2.toInt64) - (p1.toInt64)))), .second, .unset, .unset, .unset, .unset, .unset] [(.int (1 : Int32))])) _
    exact retN X100 hx (t := .boolean) Bd.returns (by simp) (hb hby at_221) hr
  · show Q0 Z p1 p2 p3 p4 h0 n0 _ T100.heap _
    rw [q100]
    exact ⟨rfl, N100⟩
set_option maxRecDepth 65536 in
set_option maxHeartbeats 40000000 in
theorem rm0_00 (l : Launch) (Z : State) (a0 : Array Value) (hw : ∀ d ∈ tables_1, d.before a0 Z = true) (ws : List Jvm.Cond) (p1 p2 p3 p4 : Int32) (h0 : Heap) (n0 : Nat) (Z0 : n0 ≤ h0.size) (hsame : (p4 &&& (4 : Int32)) = 0) (hmode : ¬ (p3 &&& (3 : Int32)) = 0) :
    MetFree l x (head1 (Jvm.Cond.code x code maxLocals ret :: ws) room_1) (fun a U => a = #[(.int p1), (.int p2), (.int p3), (.int p4)] ∧ Z.Warmed39 U.vm ∧ U.heap = h0) (fun _ _ _ _ _ => True) (fun _ U o U' => ∃ v L, o = .returned v ∧ Q0 Z p1 p2 p3 p4 h0 n0 v U'.heap L ∧ FrameEnd U o U' L room_1.cells room_1.slots) := by
  refine MetFree.of_bodySF (plainFor_of_name pn1) hisR ?_
  intro p e s m args below meth c s₁ Bd hml0 hP hK
  obtain ⟨rfl, hZ, hh⟩ := hP
  have hx := Bd.exec
  have hby := Bd.bytes
  have hml : c.maxLocals = 17 := hml0
  have hown : s.vm.findClass "com/example/coverline/coverline/InstantsTimeToPinLaw" = some m.cls := findClass_of_methodNamed Bd.named
  have hnm := (name_of_methodNamed Bd.named Bd.method).1
  have X0 : Stand p l e room_1 s m #[(.int p1), (.int p2), (.int p3), (.int p4)] below meth c s₁ [] 0 0 := Stand.of_body Bd
  have e0 : s₁.heap = h0 := by rw [← hh, Bd.state]; rfl
  have N0 := Fr.nil n0
  have pre0 : ∀ t, Steps p.tables e below (s₁.setTop (mkF m 0 #[.val (.int p1), .val (.int p2), .val (.int p3), .val (.int p4), .unset, .unset, .unset, .unset, .unset, .unset, .unset, .unset, .unset, .unset, .unset, .unset, .unset] [])) t → Steps p.tables e below (s₁.setTop (entryFrame m #[(.int p1), (.int p2), (.int p3), (.int p4)] maxLocals)) t := fun t k => castTop (ef0 m p1 p2 p3 p4) k
  have C102 : ∀ t, Steps p.tables e below (s₁.setTop (mkF m 8 #[.val (.int p1), .val (.int p2), .val (.int p3), .val (.int p4), .val (.int (p3 &&& (3 : Int32))), .unset, .unset, .unset, .unset, .unset, .unset, .unset, .unset, .unset, .unset, .unset, .unset] [(.int (p4 &&& (4 : Int32)))])) t → Steps p.tables e below (s₁.setTop (entryFrame m #[(.int p1), (.int p2), (.int p3), (.int p4)] maxLocals)) t := by
    intro t k
    refine pre0 t ?_
    show Steps p.tables e below (s₁.setTop (mkF m 0 #[.val (.int p1), .val (.int p2), .val (.int p3), .val (.int p4), .unset, .unset, .unset, .unset, .unset, .unset, .unset, .unset, .unset, .unset, .unset, .unset, .unset] [])) _
    refine XS.iloadN X0.here hx rfl (hb hby at_0) rfl ?_
    show Steps p.tables e below (s₁.setTop (mkF m 1 #[.val (.int p1), .val (.int p2), .val (.int p3), .val (.int p4), .unset, .unset, .unset, .unset, .unset, .unset, .unset, .unset, .unset, .unset, .unset, .unset, .unset] [(.int p3)])) _
    refine XS.iconst X0.here hx rfl (hb hby at_1) ?_
    show Steps p.tables e below (s₁.setTop (mkF m 2 #[.val (.int p1), .val (.int p2), .val (.int p3), .val (.int p4), .unset, .unset, .unset, .unset, .unset, .unset, .unset, .unset, .unset, .unset, .unset, .unset, .unset] [(.int (3 : Int32)), (.int p3)])) _
    refine XS.iand X0.here hx rfl (hb hby at_2) rfl ?_
    show Steps p.tables e below (s₁.setTop (mkF m 3 #[.val (.int p1), .val (.int p2), .val (.int p3), .val (.int p4), .unset, .unset, .unset, .unset, .unset, .unset, .unset, .unset, .unset, .unset, .unset, .unset, .unset] [(.int (p3 &&& (3 : Int32)))])) _
    refine XS.istore X0.here hx rfl (hb hby at_3) rfl (l' := #[.val (.int p1), .val (.int p2), .val (.int p3), .val (.int p4), .val (.int (p3 &&& (3 : Int32))), .unset, .unset, .unset, .unset, .unset, .unset, .unset, .unset, .unset, .unset, .unset, .unset]) rfl ?_
    show Steps p.tables e below (s₁.setTop (mkF m 5 #[.val (.int p1), .val (.int p2), .val (.int p3), .val (.int p4), .val (.int (p3 &&& (3 : Int32))), .unset, .unset, .unset, .unset, .unset, .unset, .unset, .unset, .unset, .unset, .unset, .unset] [])) _
    refine XS.iloadN X0.here hx rfl (hb hby at_5) rfl ?_
    show Steps p.tables e below (s₁.setTop (mkF m 6 #[.val (.int p1), .val (.int p2), .val (.int p3), .val (.int p4), .val (.int (p3 &&& (3 : Int32))), .unset, .unset, .unset, .unset, .unset, .unset, .unset, .unset, .unset, .unset, .unset, .unset] [(.int p4)])) _
    refine XS.iconst X0.here hx rfl (hb hby at_6) ?_
    show Steps p.tables e below (s₁.setTop (mkF m 7 #[.val (.int p1), .val (.int p2), .val (.int p3), .val (.int p4), .val (.int (p3 &&& (3 : Int32))), .unset, .unset, .unset, .unset, .unset, .unset, .unset, .unset, .unset, .unset, .unset, .unset] [(.int (4 : Int32)), (.int p4)])) _
    refine XS.iand X0.here hx rfl (hb hby at_7) rfl ?_
    exact k
  obtain ⟨mo, h_mo⟩ : ∃ z : Int32, z = (p3 &&& (3 : Int32)) := ⟨_, rfl⟩
  rw [← h_mo] at C102
  rw [← h_mo] at hmode
  have C103 : ∀ t, Steps p.tables e below (s₁.setTop (mkF m 18 #[.val (.int p1), .val (.int p2), .val (.int p3), .val (.int p4), .val (.int mo), .val (.int (0 : Int32)), .unset, .unset, .unset, .unset, .unset, .unset, .unset, .unset, .unset, .unset, .unset] [])) t → Steps p.tables e below (s₁.setTop (entryFrame m #[(.int p1), (.int p2), (.int p3), (.int p4)] maxLocals)) t := by
    intro t k
    refine C102 t ?_
    show Steps p.tables e below (s₁.setTop (mkF m 8 #[.val (.int p1), .val (.int p2), .val (.int p3), .val (.int p4), .val (.int mo), .unset, .unset, .unset, .unset, .unset, .unset, .unset, .unset, .unset, .unset, .unset, .unset] [(.int (p4 &&& (4 : Int32)))])) _
    refine XS.ifYes X0.here hx rfl (pc0 := 8) (pc' := 15) rfl (hb hby at_8) rfl (XT.i0_eq_t hsame) (by decide) (by decide) ?_
    show Steps p.tables e below (s₁.setTop (mkF m 15 #[.val (.int p1), .val (.int p2), .val (.int p3), .val (.int p4), .val (.int mo), .unset, .unset, .unset, .unset, .unset, .unset, .unset, .unset, .unset, .unset, .unset, .unset] [])) _
    refine XS.iconst X0.here hx rfl (hb hby at_15) ?_
    show Steps p.tables e below (s₁.setTop (mkF m 16 #[.val (.int p1), .val (.int p2), .val (.int p3), .val (.int p4), .val (.int mo), .unset, .unset, .unset, .unset, .unset, .unset, .unset, .unset, .unset, .unset, .unset, .unset] [(.int (0 : Int32))])) _
    refine XS.istore X0.here hx rfl (hb hby at_16) rfl (l' := #[.val (.int p1), .val (.int p2), .val (.int p3), .val (.int p4), .val (.int mo), .val (.int (0 : Int32)), .unset, .unset, .unset, .unset, .unset, .unset, .unset, .unset, .unset, .unset, .unset]) rfl ?_
    exact k
  obtain ⟨T104, h104, X104, e104, E104, A104, D104, -, st104⟩ := newO X0 hx hZ hown (hw _ (List.mem_of_getElem? (i := 0) rfl)) (hw _ (List.mem_of_getElem? (i := 1) rfl)) (hw _ (List.mem_of_getElem? (i := 2) rfl)) e0 (g := (mkF m 18 #[.val (.int p1), .val (.int p2), .val (.int p3), .val (.int p4), .val (.int mo), .val (.int (0 : Int32)), .unset, .unset, .unset, .unset, .unset, .unset, .unset, .unset, .unset, .unset, .unset] [])) rfl (hb hby at_18) (by decide) (by decide)
  obtain ⟨b104, g104⟩ : ∃ z, z = h0.size := ⟨_, rfl⟩
  rw [← g104] at A104 D104 st104
  have C104 : ∀ t, Steps p.tables e below (T104.setTop (mkF m 21 #[.val (.int p1), .val (.int p2), .val (.int p3), .val (.int p4), .val (.int mo), .val (.int (0 : Int32)), .unset, .unset, .unset, .unset, .unset, .unset, .unset, .unset, .unset, .unset, .unset] [(.ref b104)])) t → Steps p.tables e below (s₁.setTop (entryFrame m #[(.int p1), (.int p2), (.int p3), (.int p4)] maxLocals)) t := fun t k => C103 t (st104 t k)
  have F1_104 : Fld Z h104 b104 "com/example/coverline/coverline/Instants" "times" "[D" .null := D104 (Or.inr (hw _ (List.mem_of_getElem? (i := 11) rfl))) (ty := (.array .double)) (by decide)
  have F2_104 : Fld Z h104 b104 "com/example/coverline/coverline/Instants" "remainders" "[D" .null := D104 (Or.inr (hw _ (List.mem_of_getElem? (i := 13) rfl))) (ty := (.array .double)) (by decide)
  have Zs104 : n0 ≤ h104.size := Nat.le_trans Z0 E104.1
  have gb104 : n0 ≤ b104 := Nat.le_trans Z0 (Nat.le_of_eq g104.symm)
  have C105 : ∀ t, Steps p.tables e below (T104.setTop (mkF m 23 #[.val (.int p1), .val (.int p2), .val (.int p3), .val (.int p4), .val (.int mo), .val (.int (0 : Int32)), .unset, .unset, .unset, .unset, .unset, .unset, .unset, .unset, .unset, .unset, .unset] [(.int (2 : Int32)), (.ref b104), (.ref b104)])) t → Steps p.tables e below (s₁.setTop (entryFrame m #[(.int p1), (.int p2), (.int p3), (.int p4)] maxLocals)) t := by
    intro t k
    refine C104 t ?_
    show Steps p.tables e below (T104.setTop (mkF m 21 #[.val (.int p1), .val (.int p2), .val (.int p3), .val (.int p4), .val (.int mo), .val (.int (0 : Int32)), .unset, .unset, .unset, .unset, .unset, .unset, .unset, .unset, .unset, .unset, .unset] [(.ref b104)])) _
    refine XS.dup X104.here hx rfl (hb hby at_21) rfl rfl ?_
    show Steps p.tables e below (T104.setTop (mkF m 22 #[.val (.int p1), .val (.int p2), .val (.int p3), .val (.int p4), .val (.int mo), .val (.int (0 : Int32)), .unset, .unset, .unset, .unset, .unset, .unset, .unset, .unset, .unset, .unset, .unset] [(.ref b104), (.ref b104)])) _
    refine XS.iconst X104.here hx rfl (hb hby at_22) ?_
    exact k
  obtain ⟨_, _, ⟨T106, L106, k106, n106⟩, -, X106, ⟨Lc106, hQ106, l106, y106, z106⟩, st106⟩ := X104.specialBack hx (y := (⟨"com/example/coverline/coverline/Instants", "<init>", "(I)V"⟩ : MethodName)) rfl hown (mvT hZ (hw _ (List.mem_of_getElem? (i := 3) rfl))) (mvT hZ (hw _ (List.mem_of_getElem? (i := 4) rfl))) (mvT hZ (hw _ (List.mem_of_getElem? (i := 5) rfl))) (by decide) (backOf (W := 1) (rm1 l Z a0 hw [] b104 (2 : Int32) 2 h104 n0 Zs104 F1_104 F2_104 A104 gb104 (by decide) (by decide) (by decide)) hZ (hw _ (List.mem_of_getElem? (i := 5) rfl)) (hw _ (List.mem_of_getElem? (i := 2) rfl)) (by decide) (by decide)) (g := (mkF m 23 #[.val (.int p1), .val (.int p2), .val (.int p3), .val (.int p4), .val (.int mo), .val (.int (0 : Int32)), .unset, .unset, .unset, .unset, .unset, .unset, .unset, .unset, .unset, .unset, .unset] [(.int (2 : Int32)), (.ref b104), (.ref b104)])) rfl (by rw [hml]; rfl) (Steps.refl _) (a := b104) (argsL := [(.int (2 : Int32))]) (rest := [(.ref b104)]) (lenOf pd1 rfl) rfl (by show 2 * 0 + _ ≤ _; exact Nat.le_of_eq rfl) (hb hby at_23) (fun _ _ => ⟨rfl, e104, (by decide : 1 + 2 ≤ _), (by decide : 2 + 4 ≤ _)⟩)
  dsimp only [Pt.U, Pt.locs, Pt.cells, Pt.slots] at X106 l106 y106 z106 st106 hQ106
  subst l106 y106 z106
  obtain ⟨rfl, N106q, t106, r106, I106, K106, ft106, fr106⟩ := hQ106
  have N106 := Fr.app N0 N106q
  have C106 : ∀ t, Steps p.tables e below (T106.setTop (mkF m 26 #[.val (.int p1), .val (.int p2), .val (.int p3), .val (.int p4), .val (.int mo), .val (.int (0 : Int32)), .unset, .unset, .unset, .unset, .unset, .unset, .unset, .unset, .unset, .unset, .unset] [(.ref b104)])) t → Steps p.tables e below (s₁.setTop (entryFrame m #[(.int p1), (.int p2), (.int p3), (.int p4)] maxLocals)) t := fun t k => C105 t (st106.trans k)
  have Zc106 : n0 ≤ T106.heap.size := Nat.le_trans Zs104 K106.1
  have gt106 : n0 ≤ t106 := Nat.le_trans Zs104 ft106
  have gr106 : n0 ≤ r106 := Nat.le_trans Zs104 fr106
  have C107 : ∀ t, Steps p.tables e below (T106.setTop (mkF m 38 #[.val (.int p1), .val (.int p2), .val (.int p3), .val (.int p4), .val (.int mo), .val (.int (0 : Int32)), .val (.ref b104), .unset, .unset, .unset, .unset, .unset, .unset, .unset, .unset, .unset, .unset] [])) t → Steps p.tables e below (s₁.setTop (entryFrame m #[(.int p1), (.int p2), (.int p3), (.int p4)] maxLocals)) t := by
    intro t k
    refine C106 t ?_
    show Steps p.tables e below (T106.setTop (mkF m 26 #[.val (.int p1), .val (.int p2), .val (.int p3), .val (.int p4), .val (.int mo), .val (.int (0 : Int32)), .unset, .unset, .unset, .unset, .unset, .unset, .unset, .unset, .unset, .unset, .unset] [(.ref b104)])) _
    refine XS.astore X106.here hx rfl (hb hby at_26) rfl rfl (l' := #[.val (.int p1), .val (.int p2), .val (.int p3), .val (.int p4), .val (.int mo), .val (.int (0 : Int32)), .val (.ref b104), .unset, .unset, .unset, .unset, .unset, .unset, .unset, .unset, .unset, .unset]) rfl ?_
    show Steps p.tables e below (T106.setTop (mkF m 28 #[.val (.int p1), .val (.int p2), .val (.int p3), .val (.int p4), .val (.int mo), .val (.int (0 : Int32)), .val (.ref b104), .unset, .unset, .unset, .unset, .unset, .unset, .unset, .unset, .unset, .unset] [])) _
    refine XS.iload X106.here hx rfl (hb hby at_28) rfl ?_
    show Steps p.tables e below (T106.setTop (mkF m 30 #[.val (.int p1), .val (.int p2), .val (.int p3), .val (.int p4), .val (.int mo), .val (.int (0 : Int32)), .val (.ref b104), .unset, .unset, .unset, .unset, .unset, .unset, .unset, .unset, .unset, .unset] [(.int (0 : Int32))])) _
    refine XS.ifYes X106.here hx rfl (pc0 := 30) (pc' := 38) rfl (hb hby at_30) rfl (XT.i0_eq_t (by decide)) (by decide) (by decide) ?_
    exact k
  obtain ⟨T108, h108, X108, e108, E108, A108, D108, -, st108⟩ := newO X106 hx hZ hown (hw _ (List.mem_of_getElem? (i := 0) rfl)) (hw _ (List.mem_of_getElem? (i := 1) rfl)) (hw _ (List.mem_of_getElem? (i := 2) rfl)) rfl (g := (mkF m 38 #[.val (.int p1), .val (.int p2), .val (.int p3), .val (.int p4), .val (.int mo), .val (.int (0 : Int32)), .val (.ref b104), .unset, .unset, .unset, .unset, .unset, .unset, .unset, .unset, .unset, .unset] [])) rfl (hb hby at_38) (by decide) (by decide)
  obtain ⟨b108, g108⟩ : ∃ z, z = T106.heap.size := ⟨_, rfl⟩
  rw [← g108] at A108 D108 st108
  have C108 : ∀ t, Steps p.tables e below (T108.setTop (mkF m 41 #[.val (.int p1), .val (.int p2), .val (.int p3), .val (.int p4), .val (.int mo), .val (.int (0 : Int32)), .val (.ref b104), .unset, .unset, .unset, .unset, .unset, .unset, .unset, .unset, .unset, .unset] [(.ref b108)])) t → Steps p.tables e below (s₁.setTop (entryFrame m #[(.int p1), (.int p2), (.int p3), (.int p4)] maxLocals)) t := fun t k => C107 t (st108 t k)
  have F1_108 : Fld Z h108 b108 "com/example/coverline/coverline/Instants" "times" "[D" .null := D108 (Or.inr (hw _ (List.mem_of_getElem? (i := 11) rfl))) (ty := (.array .double)) (by decide)
  have F2_108 : Fld Z h108 b108 "com/example/coverline/coverline/Instants" "remainders" "[D" .null := D108 (Or.inr (hw _ (List.mem_of_getElem? (i := 13) rfl))) (ty := (.array .double)) (by decide)
  have Zs108 : n0 ≤ h108.size := Nat.le_trans Zc106 E108.1
  have gb108 : n0 ≤ b108 := Nat.le_trans Zc106 (Nat.le_of_eq g108.symm)
  have C109 : ∀ t, Steps p.tables e below (T108.setTop (mkF m 43 #[.val (.int p1), .val (.int p2), .val (.int p3), .val (.int p4), .val (.int mo), .val (.int (0 : Int32)), .val (.ref b104), .unset, .unset, .unset, .unset, .unset, .unset, .unset, .unset, .unset, .unset] [(.int (2 : Int32)), (.ref b108), (.ref b108)])) t → Steps p.tables e below (s₁.setTop (entryFrame m #[(.int p1), (.int p2), (.int p3), (.int p4)] maxLocals)) t := by
    intro t k
    refine C108 t ?_
    show Steps p.tables e below (T108.setTop (mkF m 41 #[.val (.int p1), .val (.int p2), .val (.int p3), .val (.int p4), .val (.int mo), .val (.int (0 : Int32)), .val (.ref b104), .unset, .unset, .unset, .unset, .unset, .unset, .unset, .unset, .unset, .unset] [(.ref b108)])) _
    refine XS.dup X108.here hx rfl (hb hby at_41) rfl rfl ?_
    show Steps p.tables e below (T108.setTop (mkF m 42 #[.val (.int p1), .val (.int p2), .val (.int p3), .val (.int p4), .val (.int mo), .val (.int (0 : Int32)), .val (.ref b104), .unset, .unset, .unset, .unset, .unset, .unset, .unset, .unset, .unset, .unset] [(.ref b108), (.ref b108)])) _
    refine XS.iconst X108.here hx rfl (hb hby at_42) ?_
    exact k
  obtain ⟨_, _, ⟨T110, L110, k110, n110⟩, -, X110, ⟨Lc110, hQ110, l110, y110, z110⟩, st110⟩ := X108.specialBack hx (y := (⟨"com/example/coverline/coverline/Instants", "<init>", "(I)V"⟩ : MethodName)) rfl hown (mvT hZ (hw _ (List.mem_of_getElem? (i := 3) rfl))) (mvT hZ (hw _ (List.mem_of_getElem? (i := 4) rfl))) (mvT hZ (hw _ (List.mem_of_getElem? (i := 5) rfl))) (by decide) (backOf (W := 1) (rm1 l Z a0 hw [] b108 (2 : Int32) 2 h108 n0 Zs108 F1_108 F2_108 A108 gb108 (by decide) (by decide) (by decide)) hZ (hw _ (List.mem_of_getElem? (i := 5) rfl)) (hw _ (List.mem_of_getElem? (i := 2) rfl)) (by decide) (by decide)) (g := (mkF m 43 #[.val (.int p1), .val (.int p2), .val (.int p3), .val (.int p4), .val (.int mo), .val (.int (0 : Int32)), .val (.ref b104), .unset, .unset, .unset, .unset, .unset, .unset, .unset, .unset, .unset, .unset] [(.int (2 : Int32)), (.ref b108), (.ref b108)])) rfl (by rw [hml]; rfl) (Steps.refl _) (a := b108) (argsL := [(.int (2 : Int32))]) (rest := [(.ref b108)]) (lenOf pd1 rfl) rfl (by show 2 * 0 + _ ≤ _; exact Nat.le_of_eq rfl) (hb hby at_43) (fun _ _ => ⟨rfl, e108, (by decide : 4 + 2 ≤ _), (by decide : 8 + 4 ≤ _)⟩)
  dsimp only [Pt.U, Pt.locs, Pt.cells, Pt.slots] at X110 l110 y110 z110 st110 hQ110
  subst l110 y110 z110
  obtain ⟨rfl, N110q, t110, r110, I110, K110, ft110, fr110⟩ := hQ110
  have N110 := Fr.app N106 N110q
  have C110 : ∀ t, Steps p.tables e below (T110.setTop (mkF m 46 #[.val (.int p1), .val (.int p2), .val (.int p3), .val (.int p4), .val (.int mo), .val (.int (0 : Int32)), .val (.ref b104), .unset, .unset, .unset, .unset, .unset, .unset, .unset, .unset, .unset, .unset] [(.ref b108)])) t → Steps p.tables e below (s₁.setTop (entryFrame m #[(.int p1), (.int p2), (.int p3), (.int p4)] maxLocals)) t := fun t k => C109 t (st110.trans k)
  have Zc110 : n0 ≤ T110.heap.size := Nat.le_trans Zs108 K110.1
  have gt110 : n0 ≤ t110 := Nat.le_trans Zs108 ft110
  have gr110 : n0 ≤ r110 := Nat.le_trans Zs108 fr110
  have I1 := I106.over E108 g108 K110
  have s12 := I106.sep E108.1 ft110 fr110
  have I2 := I110
  have C111 : ∀ t, Steps p.tables e below (T110.setTop (mkF m 55 #[.val (.int p1), .val (.int p2), .val (.int p3), .val (.int p4), .val (.int mo), .val (.int (0 : Int32)), .val (.ref b104), .val (.ref b108), .val (.int (p4 &&& (1 : Int32))), .unset, .unset, .unset, .unset, .unset, .unset, .unset, .unset] [(.int (0 : Int32))])) t → Steps p.tables e below (s₁.setTop (entryFrame m #[(.int p1), (.int p2), (.int p3), (.int p4)] maxLocals)) t := by
    intro t k
    refine C110 t ?_
    show Steps p.tables e below (T110.setTop (mkF m 46 #[.val (.int p1), .val (.int p2), .val (.int p3), .val (.int p4), .val (.int mo), .val (.int (0 : Int32)), .val (.ref b104), .unset, .unset, .unset, .unset, .unset, .unset, .unset, .unset, .unset, .unset] [(.ref b108)])) _
    refine XS.astore X110.here hx rfl (hb hby at_46) rfl rfl (l' := #[.val (.int p1), .val (.int p2), .val (.int p3), .val (.int p4), .val (.int mo), .val (.int (0 : Int32)), .val (.ref b104), .val (.ref b108), .unset, .unset, .unset, .unset, .unset, .unset, .unset, .unset, .unset]) rfl ?_
    show Steps p.tables e below (T110.setTop (mkF m 48 #[.val (.int p1), .val (.int p2), .val (.int p3), .val (.int p4), .val (.int mo), .val (.int (0 : Int32)), .val (.ref b104), .val (.ref b108), .unset, .unset, .unset, .unset, .unset, .unset, .unset, .unset, .unset] [])) _
    refine XS.iloadN X110.here hx rfl (hb hby at_48) rfl ?_
    show Steps p.tables e below (T110.setTop (mkF m 49 #[.val (.int p1), .val (.int p2), .val (.int p3), .val (.int p4), .val (.int mo), .val (.int (0 : Int32)), .val (.ref b104), .val (.ref b108), .unset, .unset, .unset, .unset, .unset, .unset, .unset, .unset, .unset] [(.int p4)])) _
    refine XS.iconst X110.here hx rfl (hb hby at_49) ?_
    show Steps p.tables e below (T110.setTop (mkF m 50 #[.val (.int p1), .val (.int p2), .val (.int p3), .val (.int p4), .val (.int mo), .val (.int (0 : Int32)), .val (.ref b104), .val (.ref b108), .unset, .unset, .unset, .unset, .unset, .unset, .unset, .unset, .unset] [(.int (1 : Int32)), (.int p4)])) _
    refine XS.iand X110.here hx rfl (hb hby at_50) rfl ?_
    show Steps p.tables e below (T110.setTop (mkF m 51 #[.val (.int p1), .val (.int p2), .val (.int p3), .val (.int p4), .val (.int mo), .val (.int (0 : Int32)), .val (.ref b104), .val (.ref b108), .unset, .unset, .unset, .unset, .unset, .unset, .unset, .unset, .unset] [(.int (p4 &&& (1 : Int32)))])) _
    refine XS.istore X110.here hx rfl (hb hby at_51) rfl (l' := #[.val (.int p1), .val (.int p2), .val (.int p3), .val (.int p4), .val (.int mo), .val (.int (0 : Int32)), .val (.ref b104), .val (.ref b108), .val (.int (p4 &&& (1 : Int32))), .unset, .unset, .unset, .unset, .unset, .unset, .unset, .unset]) rfl ?_
    show Steps p.tables e below (T110.setTop (mkF m 53 #[.val (.int p1), .val (.int p2), .val (.int p3), .val (.int p4), .val (.int mo), .val (.int (0 : Int32)), .val (.ref b104), .val (.ref b108), .val (.int (p4 &&& (1 : Int32))), .unset, .unset, .unset, .unset, .unset, .unset, .unset, .unset] [])) _
    refine XS.iload X110.here hx rfl (hb hby at_53) rfl ?_
    exact k
  obtain ⟨ii, h_ii⟩ : ∃ z : Int32, z = (p4 &&& (1 : Int32)) := ⟨_, rfl⟩
  rw [← h_ii] at C111
  have C112 : ∀ t, Steps p.tables e below (T110.setTop (mkF m 74 #[.val (.int p1), .val (.int p2), .val (.int p3), .val (.int p4), .val (.int mo), .val (.int (0 : Int32)), .val (.ref b104), .val (.ref b108), .val (.int ii), .val (.int ((p4 >>> ((1 : Int32) &&& 31)) &&& (1 : Int32))), .unset, .unset, .unset, .unset, .unset, .unset, .unset] [(.int mo)])) t → Steps p.tables e below (s₁.setTop (entryFrame m #[(.int p1), (.int p2), (.int p3), (.int p4)] maxLocals)) t := by
    intro t k
    refine C111 t ?_
    show Steps p.tables e below (T110.setTop (mkF m 55 #[.val (.int p1), .val (.int p2), .val (.int p3), .val (.int p4), .val (.int mo), .val (.int (0 : Int32)), .val (.ref b104), .val (.ref b108), .val (.int ii), .unset, .unset, .unset, .unset, .unset, .unset, .unset, .unset] [(.int (0 : Int32))])) _
    refine XS.ifYes X110.here hx rfl (pc0 := 55) (pc' := 65) rfl (hb hby at_55) rfl (XT.i0_eq_t (by decide)) (by decide) (by decide) ?_
    show Steps p.tables e below (T110.setTop (mkF m 65 #[.val (.int p1), .val (.int p2), .val (.int p3), .val (.int p4), .val (.int mo), .val (.int (0 : Int32)), .val (.ref b104), .val (.ref b108), .val (.int ii), .unset, .unset, .unset, .unset, .unset, .unset, .unset, .unset] [])) _
    refine XS.iloadN X110.here hx rfl (hb hby at_65) rfl ?_
    show Steps p.tables e below (T110.setTop (mkF m 66 #[.val (.int p1), .val (.int p2), .val (.int p3), .val (.int p4), .val (.int mo), .val (.int (0 : Int32)), .val (.ref b104), .val (.ref b108), .val (.int ii), .unset, .unset, .unset, .unset, .unset, .unset, .unset, .unset] [(.int p4)])) _
    refine XS.iconst X110.here hx rfl (hb hby at_66) ?_
    show Steps p.tables e below (T110.setTop (mkF m 67 #[.val (.int p1), .val (.int p2), .val (.int p3), .val (.int p4), .val (.int mo), .val (.int (0 : Int32)), .val (.ref b104), .val (.ref b108), .val (.int ii), .unset, .unset, .unset, .unset, .unset, .unset, .unset, .unset] [(.int (1 : Int32)), (.int p4)])) _
    refine XS.ishr X110.here hx rfl (hb hby at_67) rfl ?_
    show Steps p.tables e below (T110.setTop (mkF m 68 #[.val (.int p1), .val (.int p2), .val (.int p3), .val (.int p4), .val (.int mo), .val (.int (0 : Int32)), .val (.ref b104), .val (.ref b108), .val (.int ii), .unset, .unset, .unset, .unset, .unset, .unset, .unset, .unset] [(.int (p4 >>> ((1 : Int32) &&& 31)))])) _
    refine XS.iconst X110.here hx rfl (hb hby at_68) ?_
    show Steps p.tables e below (T110.setTop (mkF m 69 #[.val (.int p1), .val (.int p2), .val (.int p3), .val (.int p4), .val (.int mo), .val (.int (0 : Int32)), .val (.ref b104), .val (.ref b108), .val (.int ii), .unset, .unset, .unset, .unset, .unset, .unset, .unset, .unset] [(.int (1 : Int32)), (.int (p4 >>> ((1 : Int32) &&& 31)))])) _
    refine XS.iand X110.here hx rfl (hb hby at_69) rfl ?_
    show Steps p.tables e below (T110.setTop (mkF m 70 #[.val (.int p1), .val (.int p2), .val (.int p3), .val (.int p4), .val (.int mo), .val (.int (0 : Int32)), .val (.ref b104), .val (.ref b108), .val (.int ii), .unset, .unset, .unset, .unset, .unset, .unset, .unset, .unset] [(.int ((p4 >>> ((1 : Int32) &&& 31)) &&& (1 : Int32)))])) _
    refine XS.istore X110.here hx rfl (hb hby at_70) rfl (l' := #[.val (.int p1), .val (.int p2), .val (.int p3), .val (.int p4), .val (.int mo), .val (.int (0 : Int32)), .val (.ref b104), .val (.ref b108), .val (.int ii), .val (.int ((p4 >>> ((1 : Int32) &&& 31)) &&& (1 : Int32))), .unset, .unset, .unset, .unset, .unset, .unset, .unset]) rfl ?_
    show Steps p.tables e below (T110.setTop (mkF m 72 #[.val (.int p1), .val (.int p2), .val (.int p3), .val (.int p4), .val (.int mo), .val (.int (0 : Int32)), .val (.ref b104), .val (.ref b108), .val (.int ii), .val (.int ((p4 >>> ((1 : Int32) &&& 31)) &&& (1 : Int32))), .unset, .unset, .unset, .unset, .unset, .unset, .unset] [])) _
    refine XS.iload X110.here hx rfl (hb hby at_72) rfl ?_
    exact k
  obtain ⟨jj, h_jj⟩ : ∃ z : Int32, z = ((p4 >>> ((1 : Int32) &&& 31)) &&& (1 : Int32)) := ⟨_, rfl⟩
  rw [← h_jj] at C112
  have hii : ¬ ii < 0 ∧ ii.toNatClampNeg < 2 := by rw [h_ii]; exact own_bit p4
  have hjj : ¬ jj < 0 ∧ jj.toNatClampNeg < 2 := by rw [h_jj]; exact own_bit _
  have C113 : ∀ t, Steps p.tables e below (T110.setTop (mkF m 118 #[.val (.int p1), .val (.int p2), .val (.int p3), .val (.int p4), .val (.int mo), .val (.int (0 : Int32)), .val (.ref b104), .val (.ref b108), .val (.int ii), .val (.int jj), .unset, .unset, .val (.int (p1 >>> ((12 : Int32) &&& 31))), .val (.int (p2 >>> ((12 : Int32) &&& 31))), .unset, .unset, .unset] [])) t → Steps p.tables e below (s₁.setTop (entryFrame m #[(.int p1), (.int p2), (.int p3), (.int p4)] maxLocals)) t := by
    intro t k
    refine C112 t ?_
    show Steps p.tables e below (T110.setTop (mkF m 74 #[.val (.int p1), .val (.int p2), .val (.int p3), .val (.int p4), .val (.int mo), .val (.int (0 : Int32)), .val (.ref b104), .val (.ref b108), .val (.int ii), .val (.int jj), .unset, .unset, .unset, .unset, .unset, .unset, .unset] [(.int mo)])) _
    refine XS.ifYes X110.here hx rfl (pc0 := 74) (pc' := 106) rfl (hb hby at_74) rfl (XT.i0_ne_t hmode) (by decide) (by decide) ?_
    show Steps p.tables e below (T110.setTop (mkF m 106 #[.val (.int p1), .val (.int p2), .val (.int p3), .val (.int p4), .val (.int mo), .val (.int (0 : Int32)), .val (.ref b104), .val (.ref b108), .val (.int ii), .val (.int jj), .unset, .unset, .unset, .unset, .unset, .unset, .unset] [])) _
    refine XS.iloadN X110.here hx rfl (hb hby at_106) rfl ?_
    show Steps p.tables e below (T110.setTop (mkF m 107 #[.val (.int p1), .val (.int p2), .val (.int p3), .val (.int p4), .val (.int mo), .val (.int (0 : Int32)), .val (.ref b104), .val (.ref b108), .val (.int ii), .val (.int jj), .unset, .unset, .unset, .unset, .unset, .unset, .unset] [(.int p1)])) _
    refine XS.bipush X110.here hx rfl (hb hby at_107) ?_
    show Steps p.tables e below (T110.setTop (mkF m 109 #[.val (.int p1), .val (.int p2), .val (.int p3), .val (.int p4), .val (.int mo), .val (.int (0 : Int32)), .val (.ref b104), .val (.ref b108), .val (.int ii), .val (.int jj), .unset, .unset, .unset, .unset, .unset, .unset, .unset] [(.int (12 : Int32)), (.int p1)])) _
    refine XS.ishr X110.here hx rfl (hb hby at_109) rfl ?_
    show Steps p.tables e below (T110.setTop (mkF m 110 #[.val (.int p1), .val (.int p2), .val (.int p3), .val (.int p4), .val (.int mo), .val (.int (0 : Int32)), .val (.ref b104), .val (.ref b108), .val (.int ii), .val (.int jj), .unset, .unset, .unset, .unset, .unset, .unset, .unset] [(.int (p1 >>> ((12 : Int32) &&& 31)))])) _
    refine XS.istore X110.here hx rfl (hb hby at_110) rfl (l' := #[.val (.int p1), .val (.int p2), .val (.int p3), .val (.int p4), .val (.int mo), .val (.int (0 : Int32)), .val (.ref b104), .val (.ref b108), .val (.int ii), .val (.int jj), .unset, .unset, .val (.int (p1 >>> ((12 : Int32) &&& 31))), .unset, .unset, .unset, .unset]) rfl ?_
    show Steps p.tables e below (T110.setTop (mkF m 112 #[.val (.int p1), .val (.int p2), .val (.int p3), .val (.int p4), .val (.int mo), .val (.int (0 : Int32)), .val (.ref b104), .val (.ref b108), .val (.int ii), .val (.int jj), .unset, .unset, .val (.int (p1 >>> ((12 : Int32) &&& 31))), .unset, .unset, .unset, .unset] [])) _
    refine XS.iloadN X110.here hx rfl (hb hby at_112) rfl ?_
    show Steps p.tables e below (T110.setTop (mkF m 113 #[.val (.int p1), .val (.int p2), .val (.int p3), .val (.int p4), .val (.int mo), .val (.int (0 : Int32)), .val (.ref b104), .val (.ref b108), .val (.int ii), .val (.int jj), .unset, .unset, .val (.int (p1 >>> ((12 : Int32) &&& 31))), .unset, .unset, .unset, .unset] [(.int p2)])) _
    refine XS.bipush X110.here hx rfl (hb hby at_113) ?_
    show Steps p.tables e below (T110.setTop (mkF m 115 #[.val (.int p1), .val (.int p2), .val (.int p3), .val (.int p4), .val (.int mo), .val (.int (0 : Int32)), .val (.ref b104), .val (.ref b108), .val (.int ii), .val (.int jj), .unset, .unset, .val (.int (p1 >>> ((12 : Int32) &&& 31))), .unset, .unset, .unset, .unset] [(.int (12 : Int32)), (.int p2)])) _
    refine XS.ishr X110.here hx rfl (hb hby at_115) rfl ?_
    show Steps p.tables e below (T110.setTop (mkF m 116 #[.val (.int p1), .val (.int p2), .val (.int p3), .val (.int p4), .val (.int mo), .val (.int (0 : Int32)), .val (.ref b104), .val (.ref b108), .val (.int ii), .val (.int jj), .unset, .unset, .val (.int (p1 >>> ((12 : Int32) &&& 31))), .unset, .unset, .unset, .unset] [(.int (p2 >>> ((12 : Int32) &&& 31)))])) _
    refine XS.istore X110.here hx rfl (hb hby at_116) rfl (l' := #[.val (.int p1), .val (.int p2), .val (.int p3), .val (.int p4), .val (.int mo), .val (.int (0 : Int32)), .val (.ref b104), .val (.ref b108), .val (.int ii), .val (.int jj), .unset, .unset, .val (.int (p1 >>> ((12 : Int32) &&& 31))), .val (.int (p2 >>> ((12 : Int32) &&& 31))), .unset, .unset, .unset]) rfl ?_
    exact k
  obtain ⟨da, h_da⟩ : ∃ z : Int32, z = (p1 >>> ((12 : Int32) &&& 31)) := ⟨_, rfl⟩
  rw [← h_da] at C113
  obtain ⟨db, h_db⟩ : ∃ z : Int32, z = (p2 >>> ((12 : Int32) &&& 31)) := ⟨_, rfl⟩
  rw [← h_db] at C113
  have hda := own_sh p1
  rw [← h_da] at hda
  have hdb := own_sh p2
  rw [← h_db] at hdb
  have C114 : ∀ t, Steps p.tables e below (T110.setTop (mkF m 121 #[.val (.int p1), .val (.int p2), .val (.int p3), .val (.int p4), .val (.int mo), .val (.int (0 : Int32)), .val (.ref b104), .val (.ref b108), .val (.int ii), .val (.int jj), .unset, .unset, .val (.int da), .val (.int db), .unset, .unset, .unset] [(.int (1 : Int32)), (.int mo)])) t → Steps p.tables e below (s₁.setTop (entryFrame m #[(.int p1), (.int p2), (.int p3), (.int p4)] maxLocals)) t := by
    intro t k
    refine C113 t ?_
    show Steps p.tables e below (T110.setTop (mkF m 118 #[.val (.int p1), .val (.int p2), .val (.int p3), .val (.int p4), .val (.int mo), .val (.int (0 : Int32)), .val (.ref b104), .val (.ref b108), .val (.int ii), .val (.int jj), .unset, .unset, .val (.int da), .val (.int db), .unset, .unset, .unset] [])) _
    refine XS.iload X110.here hx rfl (hb hby at_118) rfl ?_
    show Steps p.tables e below (T110.setTop (mkF m 120 #[.val (.int p1), .val (.int p2), .val (.int p3), .val (.int p4), .val (.int mo), .val (.int (0 : Int32)), .val (.ref b104), .val (.ref b108), .val (.int ii), .val (.int jj), .unset, .unset, .val (.int da), .val (.int db), .unset, .unset, .unset] [(.int mo)])) _
    refine XS.iconst X110.here hx rfl (hb hby at_120) ?_
    exact k
  obtain ⟨bs, hbs, C145⟩ : ∃ bs : UInt64, OwnBase bs ∧ ∀ t, Steps p.tables e below (T110.setTop (mkF m 145 #[.val (.int p1), .val (.int p2), .val (.int p3), .val (.int p4), .val (.int mo), .val (.int (0 : Int32)), .val (.ref b104), .val (.ref b108), .val (.int ii), .val (.int jj), .unset, .unset, .val (.int da), .val (.int db), .unset, .unset, .unset] [(.double bs)])) t → Steps p.tables e below (s₁.setTop (entryFrame m #[(.int p1), (.int p2), (.int p3), (.int p4)] maxLocals)) t := by
    by_cases hm1 : mo = 1
    · refine ⟨4845873199050653696, own_base1, ?_⟩
      intro t k
      refine C114 t ?_
      show Steps p.tables e below (T110.setTop (mkF m 121 #[.val (.int p1), .val (.int p2), .val (.int p3), .val (.int p4), .val (.int mo), .val (.int (0 : Int32)), .val (.ref b104), .val (.ref b108), .val (.int ii), .val (.int jj), .unset, .unset, .val (.int da), .val (.int db), .unset, .unset, .unset] [(.int (1 : Int32)), (.int mo)])) _
      refine XS.icmpNo X110.here hx rfl (hb hby at_121) rfl (XT.ii_ne_f hm1) ?_
      show Steps p.tables e below (T110.setTop (mkF m 124 #[.val (.int p1), .val (.int p2), .val (.int p3), .val (.int p4), .val (.int mo), .val (.int (0 : Int32)), .val (.ref b104), .val (.ref b108), .val (.int ii), .val (.int jj), .unset, .unset, .val (.int da), .val (.int db), .unset, .unset, .unset] [])) _
      refine X110.ldc2DoubleC hx hown (mvT hZ (hw _ (List.mem_of_getElem? (i := 34) rfl))) (g := (mkF m 124 #[.val (.int p1), .val (.int p2), .val (.int p3), .val (.int p4), .val (.int mo), .val (.int (0 : Int32)), .val (.ref b104), .val (.ref b108), .val (.int ii), .val (.int jj), .unset, .unset, .val (.int da), .val (.int db), .unset, .unset, .unset] [])) rfl (hb hby at_124) _ ?_
      show Steps p.tables e below (T110.setTop (mkF m 127 #[.val (.int p1), .val (.int p2), .val (.int p3), .val (.int p4), .val (.int mo), .val (.int (0 : Int32)), .val (.ref b104), .val (.ref b108), .val (.int ii), .val (.int jj), .unset, .unset, .val (.int da), .val (.int db), .unset, .unset, .unset] [(.double 4845873199050653696)])) _
      refine XS.goto X110.here hx rfl (pc0 := 127) (pc' := 145) rfl (hb hby at_127) (by decide) (by decide) ?_
      exact k
    · by_cases hm2 : mo = 2
      · refine ⟨14100770433297022976, own_base2, ?_⟩
        intro t k
        refine C114 t ?_
        show Steps p.tables e below (T110.setTop (mkF m 121 #[.val (.int p1), .val (.int p2), .val (.int p3), .val (.int p4), .val (.int mo), .val (.int (0 : Int32)), .val (.ref b104), .val (.ref b108), .val (.int ii), .val (.int jj), .unset, .unset, .val (.int da), .val (.int db), .unset, .unset, .unset] [(.int (1 : Int32)), (.int mo)])) _
        refine XS.icmpYes X110.here hx rfl (pc0 := 121) (pc' := 130) rfl (hb hby at_121) rfl (XT.ii_ne_t hm1) (by decide) (by decide) ?_
        show Steps p.tables e below (T110.setTop (mkF m 130 #[.val (.int p1), .val (.int p2), .val (.int p3), .val (.int p4), .val (.int mo), .val (.int (0 : Int32)), .val (.ref b104), .val (.ref b108), .val (.int ii), .val (.int jj), .unset, .unset, .val (.int da), .val (.int db), .unset, .unset, .unset] [])) _
        refine XS.iload X110.here hx rfl (hb hby at_130) rfl ?_
        show Steps p.tables e below (T110.setTop (mkF m 132 #[.val (.int p1), .val (.int p2), .val (.int p3), .val (.int p4), .val (.int mo), .val (.int (0 : Int32)), .val (.ref b104), .val (.ref b108), .val (.int ii), .val (.int jj), .unset, .unset, .val (.int da), .val (.int db), .unset, .unset, .unset] [(.int mo)])) _
        refine XS.iconst X110.here hx rfl (hb hby at_132) ?_
        show Steps p.tables e below (T110.setTop (mkF m 133 #[.val (.int p1), .val (.int p2), .val (.int p3), .val (.int p4), .val (.int mo), .val (.int (0 : Int32)), .val (.ref b104), .val (.ref b108), .val (.int ii), .val (.int jj), .unset, .unset, .val (.int da), .val (.int db), .unset, .unset, .unset] [(.int (2 : Int32)), (.int mo)])) _
        refine XS.icmpNo X110.here hx rfl (hb hby at_133) rfl (XT.ii_ne_f hm2) ?_
        show Steps p.tables e below (T110.setTop (mkF m 136 #[.val (.int p1), .val (.int p2), .val (.int p3), .val (.int p4), .val (.int mo), .val (.int (0 : Int32)), .val (.ref b104), .val (.ref b108), .val (.int ii), .val (.int jj), .unset, .unset, .val (.int da), .val (.int db), .unset, .unset, .unset] [])) _
        refine X110.ldc2DoubleC hx hown (mvT hZ (hw _ (List.mem_of_getElem? (i := 14) rfl))) (g := (mkF m 136 #[.val (.int p1), .val (.int p2), .val (.int p3), .val (.int p4), .val (.int mo), .val (.int (0 : Int32)), .val (.ref b104), .val (.ref b108), .val (.int ii), .val (.int jj), .unset, .unset, .val (.int da), .val (.int db), .unset, .unset, .unset] [])) rfl (hb hby at_136) _ ?_
        show Steps p.tables e below (T110.setTop (mkF m 139 #[.val (.int p1), .val (.int p2), .val (.int p3), .val (.int p4), .val (.int mo), .val (.int (0 : Int32)), .val (.ref b104), .val (.ref b108), .val (.int ii), .val (.int jj), .unset, .unset, .val (.int da), .val (.int db), .unset, .unset, .unset] [(.double 14100770433297022976)])) _
        refine XS.goto X110.here hx rfl (pc0 := 139) (pc' := 145) rfl (hb hby at_139) (by decide) (by decide) ?_
        exact k
      · refine ⟨4967470388989657088, own_base3, ?_⟩
        intro t k
        refine C114 t ?_
        show Steps p.tables e below (T110.setTop (mkF m 121 #[.val (.int p1), .val (.int p2), .val (.int p3), .val (.int p4), .val (.int mo), .val (.int (0 : Int32)), .val (.ref b104), .val (.ref b108), .val (.int ii), .val (.int jj), .unset, .unset, .val (.int da), .val (.int db), .unset, .unset, .unset] [(.int (1 : Int32)), (.int mo)])) _
        refine XS.icmpYes X110.here hx rfl (pc0 := 121) (pc' := 130) rfl (hb hby at_121) rfl (XT.ii_ne_t hm1) (by decide) (by decide) ?_
        show Steps p.tables e below (T110.setTop (mkF m 130 #[.val (.int p1), .val (.int p2), .val (.int p3), .val (.int p4), .val (.int mo), .val (.int (0 : Int32)), .val (.ref b104), .val (.ref b108), .val (.int ii), .val (.int jj), .unset, .unset, .val (.int da), .val (.int db), .unset, .unset, .unset] [])) _
        refine XS.iload X110.here hx rfl (hb hby at_130) rfl ?_
        show Steps p.tables e below (T110.setTop (mkF m 132 #[.val (.int p1), .val (.int p2), .val (.int p3), .val (.int p4), .val (.int mo), .val (.int (0 : Int32)), .val (.ref b104), .val (.ref b108), .val (.int ii), .val (.int jj), .unset, .unset, .val (.int da), .val (.int db), .unset, .unset, .unset] [(.int mo)])) _
        refine XS.iconst X110.here hx rfl (hb hby at_132) ?_
        show Steps p.tables e below (T110.setTop (mkF m 133 #[.val (.int p1), .val (.int p2), .val (.int p3), .val (.int p4), .val (.int mo), .val (.int (0 : Int32)), .val (.ref b104), .val (.ref b108), .val (.int ii), .val (.int jj), .unset, .unset, .val (.int da), .val (.int db), .unset, .unset, .unset] [(.int (2 : Int32)), (.int mo)])) _
        refine XS.icmpYes X110.here hx rfl (pc0 := 133) (pc' := 142) rfl (hb hby at_133) rfl (XT.ii_ne_t hm2) (by decide) (by decide) ?_
        show Steps p.tables e below (T110.setTop (mkF m 142 #[.val (.int p1), .val (.int p2), .val (.int p3), .val (.int p4), .val (.int mo), .val (.int (0 : Int32)), .val (.ref b104), .val (.ref b108), .val (.int ii), .val (.int jj), .unset, .unset, .val (.int da), .val (.int db), .unset, .unset, .unset] [])) _
        refine X110.ldc2DoubleC hx hown (mvT hZ (hw _ (List.mem_of_getElem? (i := 33) rfl))) (g := (mkF m 142 #[.val (.int p1), .val (.int p2), .val (.int p3), .val (.int p4), .val (.int mo), .val (.int (0 : Int32)), .val (.ref b104), .val (.ref b108), .val (.int ii), .val (.int jj), .unset, .unset, .val (.int da), .val (.int db), .unset, .unset, .unset] [])) rfl (hb hby at_142) _ ?_
        exact k
  have C115 : ∀ t, Steps p.tables e below (T110.setTop (mkF m 147 #[.val (.int p1), .val (.int p2), .val (.int p3), .val (.int p4), .val (.int mo), .val (.int (0 : Int32)), .val (.ref b104), .val (.ref b108), .val (.int ii), .val (.int jj), .unset, .unset, .val (.int da), .val (.int db), .val (.double bs), .second, .unset] [])) t → Steps p.tables e below (s₁.setTop (entryFrame m #[(.int p1), (.int p2), (.int p3), (.int p4)] maxLocals)) t := by
    intro t k
    refine C145 t ?_
    show Steps p.tables e below (T110.setTop (mkF m 145 #[.val (.int p1), .val (.int p2), .val (.int p3), .val (.int p4), .val (.int mo), .val (.int (0 : Int32)), .val (.ref b104), .val (.ref b108), .val (.int ii), .val (.int jj), .unset, .unset, .val (.int da), .val (.int db), .unset, .unset, .unset] [(.double bs)])) _
    refine XS.dstore X110.here hx rfl (hb hby at_145) rfl (l' := #[.val (.int p1), .val (.int p2), .val (.int p3), .val (.int p4), .val (.int mo), .val (.int (0 : Int32)), .val (.ref b104), .val (.ref b108), .val (.int ii), .val (.int jj), .unset, .unset, .val (.int da), .val (.int db), .val (.double bs), .second, .unset]) rfl ?_
    exact k
  obtain ⟨T116, h116, X116, e116, E116, A116, D116, -, st116⟩ := newO X110 hx hZ hown (hw _ (List.mem_of_getElem? (i := 0) rfl)) (hw _ (List.mem_of_getElem? (i := 1) rfl)) (hw _ (List.mem_of_getElem? (i := 2) rfl)) rfl (g := (mkF m 147 #[.val (.int p1), .val (.int p2), .val (.int p3), .val (.int p4), .val (.int mo), .val (.int (0 : Int32)), .val (.ref b104), .val (.ref b108), .val (.int ii), .val (.int jj), .unset, .unset, .val (.int da), .val (.int db), .val (.double bs), .second, .unset] [])) rfl (hb hby at_147) (by decide) (by decide)
  obtain ⟨b116, g116⟩ : ∃ z, z = T110.heap.size := ⟨_, rfl⟩
  rw [← g116] at A116 D116 st116
  have C116 : ∀ t, Steps p.tables e below (T116.setTop (mkF m 150 #[.val (.int p1), .val (.int p2), .val (.int p3), .val (.int p4), .val (.int mo), .val (.int (0 : Int32)), .val (.ref b104), .val (.ref b108), .val (.int ii), .val (.int jj), .unset, .unset, .val (.int da), .val (.int db), .val (.double bs), .second, .unset] [(.ref b116)])) t → Steps p.tables e below (s₁.setTop (entryFrame m #[(.int p1), (.int p2), (.int p3), (.int p4)] maxLocals)) t := fun t k => C115 t (st116 t k)
  have F1_116 : Fld Z h116 b116 "com/example/coverline/coverline/Instants" "times" "[D" .null := D116 (Or.inr (hw _ (List.mem_of_getElem? (i := 11) rfl))) (ty := (.array .double)) (by decide)
  have F2_116 : Fld Z h116 b116 "com/example/coverline/coverline/Instants" "remainders" "[D" .null := D116 (Or.inr (hw _ (List.mem_of_getElem? (i := 13) rfl))) (ty := (.array .double)) (by decide)
  have Zs116 : n0 ≤ h116.size := Nat.le_trans Zc110 E116.1
  have gb116 : n0 ≤ b116 := Nat.le_trans Zc110 (Nat.le_of_eq g116.symm)
  have C117 : ∀ t, Steps p.tables e below (T116.setTop (mkF m 152 #[.val (.int p1), .val (.int p2), .val (.int p3), .val (.int p4), .val (.int mo), .val (.int (0 : Int32)), .val (.ref b104), .val (.ref b108), .val (.int ii), .val (.int jj), .unset, .unset, .val (.int da), .val (.int db), .val (.double bs), .second, .unset] [(.int (1 : Int32)), (.ref b116), (.ref b116)])) t → Steps p.tables e below (s₁.setTop (entryFrame m #[(.int p1), (.int p2), (.int p3), (.int p4)] maxLocals)) t := by
    intro t k
    refine C116 t ?_
    show Steps p.tables e below (T116.setTop (mkF m 150 #[.val (.int p1), .val (.int p2), .val (.int p3), .val (.int p4), .val (.int mo), .val (.int (0 : Int32)), .val (.ref b104), .val (.ref b108), .val (.int ii), .val (.int jj), .unset, .unset, .val (.int da), .val (.int db), .val (.double bs), .second, .unset] [(.ref b116)])) _
    refine XS.dup X116.here hx rfl (hb hby at_150) rfl rfl ?_
    show Steps p.tables e below (T116.setTop (mkF m 151 #[.val (.int p1), .val (.int p2), .val (.int p3), .val (.int p4), .val (.int mo), .val (.int (0 : Int32)), .val (.ref b104), .val (.ref b108), .val (.int ii), .val (.int jj), .unset, .unset, .val (.int da), .val (.int db), .val (.double bs), .second, .unset] [(.ref b116), (.ref b116)])) _
    refine XS.iconst X116.here hx rfl (hb hby at_151) ?_
    exact k
  obtain ⟨_, _, ⟨T118, L118, k118, n118⟩, -, X118, ⟨Lc118, hQ118, l118, y118, z118⟩, st118⟩ := X116.specialBack hx (y := (⟨"com/example/coverline/coverline/Instants", "<init>", "(I)V"⟩ : MethodName)) rfl hown (mvT hZ (hw _ (List.mem_of_getElem? (i := 3) rfl))) (mvT hZ (hw _ (List.mem_of_getElem? (i := 4) rfl))) (mvT hZ (hw _ (List.mem_of_getElem? (i := 5) rfl))) (by decide) (backOf (W := 1) (rm1 l Z a0 hw [] b116 (1 : Int32) 1 h116 n0 Zs116 F1_116 F2_116 A116 gb116 (by decide) (by decide) (by decide)) hZ (hw _ (List.mem_of_getElem? (i := 5) rfl)) (hw _ (List.mem_of_getElem? (i := 2) rfl)) (by decide) (by decide)) (g := (mkF m 152 #[.val (.int p1), .val (.int p2), .val (.int p3), .val (.int p4), .val (.int mo), .val (.int (0 : Int32)), .val (.ref b104), .val (.ref b108), .val (.int ii), .val (.int jj), .unset, .unset, .val (.int da), .val (.int db), .val (.double bs), .second, .unset] [(.int (1 : Int32)), (.ref b116), (.ref b116)])) rfl (by rw [hml]; rfl) (Steps.refl _) (a := b116) (argsL := [(.int (1 : Int32))]) (rest := [(.ref b116)]) (lenOf pd1 rfl) rfl (by show 2 * 0 + _ ≤ _; exact Nat.le_of_eq rfl) (hb hby at_152) (fun _ _ => ⟨rfl, e116, (by decide : 7 + 2 ≤ _), (by decide : 14 + 4 ≤ _)⟩)
  dsimp only [Pt.U, Pt.locs, Pt.cells, Pt.slots] at X118 l118 y118 z118 st118 hQ118
  subst l118 y118 z118
  obtain ⟨rfl, N118q, t118, r118, I118, K118, ft118, fr118⟩ := hQ118
  have N118 := Fr.app N110 N118q
  have C118 : ∀ t, Steps p.tables e below (T118.setTop (mkF m 155 #[.val (.int p1), .val (.int p2), .val (.int p3), .val (.int p4), .val (.int mo), .val (.int (0 : Int32)), .val (.ref b104), .val (.ref b108), .val (.int ii), .val (.int jj), .unset, .unset, .val (.int da), .val (.int db), .val (.double bs), .second, .unset] [(.ref b116)])) t → Steps p.tables e below (s₁.setTop (entryFrame m #[(.int p1), (.int p2), (.int p3), (.int p4)] maxLocals)) t := fun t k => C117 t (st118.trans k)
  have Zc118 : n0 ≤ T118.heap.size := Nat.le_trans Zs116 K118.1
  have gt118 : n0 ≤ t118 := Nat.le_trans Zs116 ft118
  have gr118 : n0 ≤ r118 := Nat.le_trans Zs116 fr118
  have I1o := I1.over E116 g116 K118
  have s1o := I1.sep E116.1 ft118 fr118
  have I2o := I2.over E116 g116 K118
  have s2o := I2.sep E116.1 ft118 fr118
  have h00 : ¬ (0 : Int32) < 0 ∧ (0 : Int32).toNatClampNeg < 1 := by decide
  have C119 : ∀ t, Steps p.tables e below (T118.setTop (mkF m 162 #[.val (.int p1), .val (.int p2), .val (.int p3), .val (.int p4), .val (.int mo), .val (.int (0 : Int32)), .val (.ref b104), .val (.ref b108), .val (.int ii), .val (.int jj), .unset, .unset, .val (.int da), .val (.int db), .val (.double bs), .second, .val (.ref b116)] [(.double bs), (.int (0 : Int32)), (.ref b116)])) t → Steps p.tables e below (s₁.setTop (entryFrame m #[(.int p1), (.int p2), (.int p3), (.int p4)] maxLocals)) t := by
    intro t k
    refine C118 t ?_
    show Steps p.tables e below (T118.setTop (mkF m 155 #[.val (.int p1), .val (.int p2), .val (.int p3), .val (.int p4), .val (.int mo), .val (.int (0 : Int32)), .val (.ref b104), .val (.ref b108), .val (.int ii), .val (.int jj), .unset, .unset, .val (.int da), .val (.int db), .val (.double bs), .second, .unset] [(.ref b116)])) _
    refine XS.astore X118.here hx rfl (hb hby at_155) rfl rfl (l' := #[.val (.int p1), .val (.int p2), .val (.int p3), .val (.int p4), .val (.int mo), .val (.int (0 : Int32)), .val (.ref b104), .val (.ref b108), .val (.int ii), .val (.int jj), .unset, .unset, .val (.int da), .val (.int db), .val (.double bs), .second, .val (.ref b116)]) rfl ?_
    show Steps p.tables e below (T118.setTop (mkF m 157 #[.val (.int p1), .val (.int p2), .val (.int p3), .val (.int p4), .val (.int mo), .val (.int (0 : Int32)), .val (.ref b104), .val (.ref b108), .val (.int ii), .val (.int jj), .unset, .unset, .val (.int da), .val (.int db), .val (.double bs), .second, .val (.ref b116)] [])) _
    refine XS.aload X118.here hx rfl (hb hby at_157) rfl rfl ?_
    show Steps p.tables e below (T118.setTop (mkF m 159 #[.val (.int p1), .val (.int p2), .val (.int p3), .val (.int p4), .val (.int mo), .val (.int (0 : Int32)), .val (.ref b104), .val (.ref b108), .val (.int ii), .val (.int jj), .unset, .unset, .val (.int da), .val (.int db), .val (.double bs), .second, .val (.ref b116)] [(.ref b116)])) _
    refine XS.iconst X118.here hx rfl (hb hby at_159) ?_
    show Steps p.tables e below (T118.setTop (mkF m 160 #[.val (.int p1), .val (.int p2), .val (.int p3), .val (.int p4), .val (.int mo), .val (.int (0 : Int32)), .val (.ref b104), .val (.ref b108), .val (.int ii), .val (.int jj), .unset, .unset, .val (.int da), .val (.int db), .val (.double bs), .second, .val (.ref b116)] [(.int (0 : Int32)), (.ref b116)])) _
    refine XS.dload X118.here hx rfl (hb hby at_160) rfl ?_
    exact k
  obtain ⟨cq120, kq120, q120a, q120b, q120c⟩ := isOf hZ rfl I118.1
  obtain ⟨_, _, ⟨T120, L120, k120, n120⟩, -, X120, ⟨Lc120, hQ120, l120, y120, z120⟩, st120⟩ := X118.virtualBack hx (y := (⟨"com/example/coverline/coverline/Instants", "set", "(ID)V"⟩ : MethodName)) (z := (⟨"com/example/coverline/coverline/Instants", "set", "(ID)V"⟩ : MethodName)) hown (mvT hZ (hw _ (List.mem_of_getElem? (i := 15) rfl))) (mvT hZ (hw _ (List.mem_of_getElem? (i := 16) rfl))) (notFace_of_selects (args := #[]) (mvT hZ (hw _ (List.mem_of_getElem? (i := 18) rfl)))) (mvT hZ (hw _ (List.mem_of_getElem? (i := 18) rfl))) (mvT hZ (hw _ (List.mem_of_getElem? (i := 17) rfl))) (by decide) (backOf (W := 0) (rm3 l Z a0 hw [] b116 0 bs t118 r118 1 (fun _ => 0) (fun _ => 0) T118.heap n0 Zc118 I118 h00 gt118 gr118) hZ (hw _ (List.mem_of_getElem? (i := 19) rfl)) (hw _ (List.mem_of_getElem? (i := 2) rfl)) (by decide) (by decide)) q120a q120c (g := (mkF m 162 #[.val (.int p1), .val (.int p2), .val (.int p3), .val (.int p4), .val (.int mo), .val (.int (0 : Int32)), .val (.ref b104), .val (.ref b108), .val (.int ii), .val (.int jj), .unset, .unset, .val (.int da), .val (.int db), .val (.double bs), .second, .val (.ref b116)] [(.double bs), (.int (0 : Int32)), (.ref b116)])) rfl (by rw [hml]; rfl) (Steps.refl _) (argsL := [(.int (0 : Int32)), (.double bs)]) (rest := []) (lenOf pd2 rfl) rfl (by show 2 * 0 + _ ≤ _; exact Nat.le_of_eq rfl) (hb hby at_162) (fun _ _ => ⟨rfl, rfl, (by decide : 9 + 0 ≤ _), (by decide : 18 + 0 ≤ _)⟩)
  dsimp only [Pt.U, Pt.locs, Pt.cells, Pt.slots] at X120 l120 y120 z120 st120 hQ120
  subst l120 y120 z120
  obtain ⟨rfl, N120q, J120, K120⟩ := hQ120
  have N120 := Fr.app N118 N120q
  have C120 : ∀ t, Steps p.tables e below (T120.setTop (mkF m 165 #[.val (.int p1), .val (.int p2), .val (.int p3), .val (.int p4), .val (.int mo), .val (.int (0 : Int32)), .val (.ref b104), .val (.ref b108), .val (.int ii), .val (.int jj), .unset, .unset, .val (.int da), .val (.int db), .val (.double bs), .second, .val (.ref b116)] [])) t → Steps p.tables e below (s₁.setTop (entryFrame m #[(.int p1), (.int p2), (.int p3), (.int p4)] maxLocals)) t := fun t k => C119 t (st120.trans k)
  have Zc120 : n0 ≤ T120.heap.size := Nat.le_trans Zc118 K120.1
  have I1p := I1o.beside (hw _ (List.mem_of_getElem? (i := 1) rfl)) I118 K120 s1o
  have I2p := I2o.beside (hw _ (List.mem_of_getElem? (i := 1) rfl)) I118 K120 s2o
  obtain ⟨be, vl, vh, hbq, hlq, hhq, far⟩ := hbs
  obtain ⟨ta, va1, va2, va3, va4, va5, va6, va7, va8⟩ := own_after hbq hlq hhq far (own_w_i2d da) (by omega)
  obtain ⟨tb, vb1, vb2, vb3, vb4, vb5, vb6, vb7, vb8⟩ := own_after hbq hlq hhq far (own_w_i2d db) (by omega)
  have C121 : ∀ t, Steps p.tables e below (T120.setTop (mkF m 175 #[.val (.int p1), .val (.int p2), .val (.int p3), .val (.int p4), .val (.int mo), .val (.int (0 : Int32)), .val (.ref b104), .val (.ref b108), .val (.int ii), .val (.int jj), .unset, .unset, .val (.int da), .val (.int db), .val (.double bs), .second, .val (.ref b116)] [(.double (FP.i2d da)), (.int (0 : Int32)), (.ref b116), (.int ii), (.ref b104)])) t → Steps p.tables e below (s₁.setTop (entryFrame m #[(.int p1), (.int p2), (.int p3), (.int p4)] maxLocals)) t := by
    intro t k
    refine C120 t ?_
    show Steps p.tables e below (T120.setTop (mkF m 165 #[.val (.int p1), .val (.int p2), .val (.int p3), .val (.int p4), .val (.int mo), .val (.int (0 : Int32)), .val (.ref b104), .val (.ref b108), .val (.int ii), .val (.int jj), .unset, .unset, .val (.int da), .val (.int db), .val (.double bs), .second, .val (.ref b116)] [])) _
    refine XS.aload X120.here hx rfl (hb hby at_165) rfl rfl ?_
    show Steps p.tables e below (T120.setTop (mkF m 167 #[.val (.int p1), .val (.int p2), .val (.int p3), .val (.int p4), .val (.int mo), .val (.int (0 : Int32)), .val (.ref b104), .val (.ref b108), .val (.int ii), .val (.int jj), .unset, .unset, .val (.int da), .val (.int db), .val (.double bs), .second, .val (.ref b116)] [(.ref b104)])) _
    refine XS.iload X120.here hx rfl (hb hby at_167) rfl ?_
    show Steps p.tables e below (T120.setTop (mkF m 169 #[.val (.int p1), .val (.int p2), .val (.int p3), .val (.int p4), .val (.int mo), .val (.int (0 : Int32)), .val (.ref b104), .val (.ref b108), .val (.int ii), .val (.int jj), .unset, .unset, .val (.int da), .val (.int db), .val (.double bs), .second, .val (.ref b116)] [(.int ii), (.ref b104)])) _
    refine XS.aload X120.here hx rfl (hb hby at_169) rfl rfl ?_
    show Steps p.tables e below (T120.setTop (mkF m 171 #[.val (.int p1), .val (.int p2), .val (.int p3), .val (.int p4), .val (.int mo), .val (.int (0 : Int32)), .val (.ref b104), .val (.ref b108), .val (.int ii), .val (.int jj), .unset, .unset, .val (.int da), .val (.int db), .val (.double bs), .second, .val (.ref b116)] [(.ref b116), (.int ii), (.ref b104)])) _
    refine XS.iconst X120.here hx rfl (hb hby at_171) ?_
    show Steps p.tables e below (T120.setTop (mkF m 172 #[.val (.int p1), .val (.int p2), .val (.int p3), .val (.int p4), .val (.int mo), .val (.int (0 : Int32)), .val (.ref b104), .val (.ref b108), .val (.int ii), .val (.int jj), .unset, .unset, .val (.int da), .val (.int db), .val (.double bs), .second, .val (.ref b116)] [(.int (0 : Int32)), (.ref b116), (.int ii), (.ref b104)])) _
    refine XS.iload X120.here hx rfl (hb hby at_172) rfl ?_
    show Steps p.tables e below (T120.setTop (mkF m 174 #[.val (.int p1), .val (.int p2), .val (.int p3), .val (.int p4), .val (.int mo), .val (.int (0 : Int32)), .val (.ref b104), .val (.ref b108), .val (.int ii), .val (.int jj), .unset, .unset, .val (.int da), .val (.int db), .val (.double bs), .second, .val (.ref b116)] [(.int da), (.int (0 : Int32)), (.ref b116), (.int ii), (.ref b104)])) _
    refine XS.i2dS X120.here hx rfl (hb hby at_174) rfl rfl ?_
    exact k
  obtain ⟨cq122, kq122, q122a, q122b, q122c⟩ := isOf hZ rfl I1p.1
  obtain ⟨_, _, ⟨T122, L122, k122, n122⟩, -, X122, ⟨Lc122, hQ122, l122, y122, z122⟩, st122⟩ := X120.virtualBack hx (y := (⟨"com/example/coverline/coverline/Instants", "setAfter", "(ILcom/example/coverline/coverline/Instants;ID)V"⟩ : MethodName)) (z := (⟨"com/example/coverline/coverline/Instants", "setAfter", "(ILcom/example/coverline/coverline/Instants;ID)V"⟩ : MethodName)) hown (mvT hZ (hw _ (List.mem_of_getElem? (i := 20) rfl))) (mvT hZ (hw _ (List.mem_of_getElem? (i := 21) rfl))) (notFace_of_selects (args := #[]) (mvT hZ (hw _ (List.mem_of_getElem? (i := 23) rfl)))) (mvT hZ (hw _ (List.mem_of_getElem? (i := 23) rfl))) (mvT hZ (hw _ (List.mem_of_getElem? (i := 22) rfl))) (by decide) (backOf (W := 0) (rm4 l Z a0 hw [] b104 ii b116 0 (FP.i2d da) t106 r106 t118 r118 2 1 (fun _ => 0) (fun _ => 0) (own_upd (fun _ => 0) 0 bs) (own_upd (fun _ => 0) 0 0) bs 0 T120.heap n0 Zc120 I1p J120 hii h00 gt106 gr106 (own_upd_same _ _ _) (own_upd_same _ _ _) va2 va1 va3 va4 va5) hZ (hw _ (List.mem_of_getElem? (i := 24) rfl)) (hw _ (List.mem_of_getElem? (i := 2) rfl)) (by decide) (by decide)) q122a q122c (g := (mkF m 175 #[.val (.int p1), .val (.int p2), .val (.int p3), .val (.int p4), .val (.int mo), .val (.int (0 : Int32)), .val (.ref b104), .val (.ref b108), .val (.int ii), .val (.int jj), .unset, .unset, .val (.int da), .val (.int db), .val (.double bs), .second, .val (.ref b116)] [(.double (FP.i2d da)), (.int (0 : Int32)), (.ref b116), (.int ii), (.ref b104)])) rfl (by rw [hml]; rfl) (Steps.refl _) (argsL := [(.int ii), (.ref b116), (.int (0 : Int32)), (.double (FP.i2d da))]) (rest := []) (lenOf pd4 rfl) rfl (by show 2 * 0 + _ ≤ _; exact Nat.le_of_eq rfl) (hb hby at_175) (fun _ _ => ⟨rfl, rfl, (by decide : 9 + 0 ≤ _), (by decide : 18 + 0 ≤ _)⟩)
  dsimp only [Pt.U, Pt.locs, Pt.cells, Pt.slots] at X122 l122 y122 z122 st122 hQ122
  subst l122 y122 z122
  obtain ⟨rfl, N122q, J122, K122⟩ := hQ122
  have N122 := Fr.app N120 N122q
  have C122 : ∀ t, Steps p.tables e below (T122.setTop (mkF m 178 #[.val (.int p1), .val (.int p2), .val (.int p3), .val (.int p4), .val (.int mo), .val (.int (0 : Int32)), .val (.ref b104), .val (.ref b108), .val (.int ii), .val (.int jj), .unset, .unset, .val (.int da), .val (.int db), .val (.double bs), .second, .val (.ref b116)] [])) t → Steps p.tables e below (s₁.setTop (entryFrame m #[(.int p1), (.int p2), (.int p3), (.int p4)] maxLocals)) t := fun t k => C121 t (st122.trans k)
  have Zc122 : n0 ≤ T122.heap.size := Nat.le_trans Zc120 K122.1
  have Jo := J120.beside (hw _ (List.mem_of_getElem? (i := 1) rfl)) I1p K122 (own_sepsym s1o)
  have I2q := I2p.beside (hw _ (List.mem_of_getElem? (i := 1) rfl)) I1p K122 (own_sepsym s12)
  have C123 : ∀ t, Steps p.tables e below (T122.setTop (mkF m 188 #[.val (.int p1), .val (.int p2), .val (.int p3), .val (.int p4), .val (.int mo), .val (.int (0 : Int32)), .val (.ref b104), .val (.ref b108), .val (.int ii), .val (.int jj), .unset, .unset, .val (.int da), .val (.int db), .val (.double bs), .second, .val (.ref b116)] [(.double (FP.i2d db)), (.int (0 : Int32)), (.ref b116), (.int jj), (.ref b108)])) t → Steps p.tables e below (s₁.setTop (entryFrame m #[(.int p1), (.int p2), (.int p3), (.int p4)] maxLocals)) t := by
    intro t k
    refine C122 t ?_
    show Steps p.tables e below (T122.setTop (mkF m 178 #[.val (.int p1), .val (.int p2), .val (.int p3), .val (.int p4), .val (.int mo), .val (.int (0 : Int32)), .val (.ref b104), .val (.ref b108), .val (.int ii), .val (.int jj), .unset, .unset, .val (.int da), .val (.int db), .val (.double bs), .second, .val (.ref b116)] [])) _
    refine XS.aload X122.here hx rfl (hb hby at_178) rfl rfl ?_
    show Steps p.tables e below (T122.setTop (mkF m 180 #[.val (.int p1), .val (.int p2), .val (.int p3), .val (.int p4), .val (.int mo), .val (.int (0 : Int32)), .val (.ref b104), .val (.ref b108), .val (.int ii), .val (.int jj), .unset, .unset, .val (.int da), .val (.int db), .val (.double bs), .second, .val (.ref b116)] [(.ref b108)])) _
    refine XS.iload X122.here hx rfl (hb hby at_180) rfl ?_
    show Steps p.tables e below (T122.setTop (mkF m 182 #[.val (.int p1), .val (.int p2), .val (.int p3), .val (.int p4), .val (.int mo), .val (.int (0 : Int32)), .val (.ref b104), .val (.ref b108), .val (.int ii), .val (.int jj), .unset, .unset, .val (.int da), .val (.int db), .val (.double bs), .second, .val (.ref b116)] [(.int jj), (.ref b108)])) _
    refine XS.aload X122.here hx rfl (hb hby at_182) rfl rfl ?_
    show Steps p.tables e below (T122.setTop (mkF m 184 #[.val (.int p1), .val (.int p2), .val (.int p3), .val (.int p4), .val (.int mo), .val (.int (0 : Int32)), .val (.ref b104), .val (.ref b108), .val (.int ii), .val (.int jj), .unset, .unset, .val (.int da), .val (.int db), .val (.double bs), .second, .val (.ref b116)] [(.ref b116), (.int jj), (.ref b108)])) _
    refine XS.iconst X122.here hx rfl (hb hby at_184) ?_
    show Steps p.tables e below (T122.setTop (mkF m 185 #[.val (.int p1), .val (.int p2), .val (.int p3), .val (.int p4), .val (.int mo), .val (.int (0 : Int32)), .val (.ref b104), .val (.ref b108), .val (.int ii), .val (.int jj), .unset, .unset, .val (.int da), .val (.int db), .val (.double bs), .second, .val (.ref b116)] [(.int (0 : Int32)), (.ref b116), (.int jj), (.ref b108)])) _
    refine XS.iload X122.here hx rfl (hb hby at_185) rfl ?_
    show Steps p.tables e below (T122.setTop (mkF m 187 #[.val (.int p1), .val (.int p2), .val (.int p3), .val (.int p4), .val (.int mo), .val (.int (0 : Int32)), .val (.ref b104), .val (.ref b108), .val (.int ii), .val (.int jj), .unset, .unset, .val (.int da), .val (.int db), .val (.double bs), .second, .val (.ref b116)] [(.int db), (.int (0 : Int32)), (.ref b116), (.int jj), (.ref b108)])) _
    refine XS.i2dS X122.here hx rfl (hb hby at_187) rfl rfl ?_
    exact k
  obtain ⟨cq124, kq124, q124a, q124b, q124c⟩ := isOf hZ rfl I2q.1
  obtain ⟨_, _, ⟨T124, L124, k124, n124⟩, -, X124, ⟨Lc124, hQ124, l124, y124, z124⟩, st124⟩ := X122.virtualBack hx (y := (⟨"com/example/coverline/coverline/Instants", "setAfter", "(ILcom/example/coverline/coverline/Instants;ID)V"⟩ : MethodName)) (z := (⟨"com/example/coverline/coverline/Instants", "setAfter", "(ILcom/example/coverline/coverline/Instants;ID)V"⟩ : MethodName)) hown (mvT hZ (hw _ (List.mem_of_getElem? (i := 20) rfl))) (mvT hZ (hw _ (List.mem_of_getElem? (i := 21) rfl))) (notFace_of_selects (args := #[]) (mvT hZ (hw _ (List.mem_of_getElem? (i := 23) rfl)))) (mvT hZ (hw _ (List.mem_of_getElem? (i := 23) rfl))) (mvT hZ (hw _ (List.mem_of_getElem? (i := 22) rfl))) (by decide) (backOf (W := 0) (rm4 l Z a0 hw [] b108 jj b116 0 (FP.i2d db) t110 r110 t118 r118 2 1 (fun _ => 0) (fun _ => 0) (own_upd (fun _ => 0) 0 bs) (own_upd (fun _ => 0) 0 0) bs 0 T122.heap n0 Zc122 I2q Jo hjj h00 gt110 gr110 (own_upd_same _ _ _) (own_upd_same _ _ _) vb2 vb1 vb3 vb4 vb5) hZ (hw _ (List.mem_of_getElem? (i := 24) rfl)) (hw _ (List.mem_of_getElem? (i := 2) rfl)) (by decide) (by decide)) q124a q124c (g := (mkF m 188 #[.val (.int p1), .val (.int p2), .val (.int p3), .val (.int p4), .val (.int mo), .val (.int (0 : Int32)), .val (.ref b104), .val (.ref b108), .val (.int ii), .val (.int jj), .unset, .unset, .val (.int da), .val (.int db), .val (.double bs), .second, .val (.ref b116)] [(.double (FP.i2d db)), (.int (0 : Int32)), (.ref b116), (.int jj), (.ref b108)])) rfl (by rw [hml]; rfl) (Steps.refl _) (argsL := [(.int jj), (.ref b116), (.int (0 : Int32)), (.double (FP.i2d db))]) (rest := []) (lenOf pd4 rfl) rfl (by show 2 * 0 + _ ≤ _; exact Nat.le_of_eq rfl) (hb hby at_188) (fun _ _ => ⟨rfl, rfl, (by decide : 9 + 0 ≤ _), (by decide : 18 + 0 ≤ _)⟩)
  dsimp only [Pt.U, Pt.locs, Pt.cells, Pt.slots] at X124 l124 y124 z124 st124 hQ124
  subst l124 y124 z124
  obtain ⟨rfl, N124q, J124, K124⟩ := hQ124
  have N124 := Fr.app N122 N124q
  have C124 : ∀ t, Steps p.tables e below (T124.setTop (mkF m 191 #[.val (.int p1), .val (.int p2), .val (.int p3), .val (.int p4), .val (.int mo), .val (.int (0 : Int32)), .val (.ref b104), .val (.ref b108), .val (.int ii), .val (.int jj), .unset, .unset, .val (.int da), .val (.int db), .val (.double bs), .second, .val (.ref b116)] [])) t → Steps p.tables e below (s₁.setTop (entryFrame m #[(.int p1), (.int p2), (.int p3), (.int p4)] maxLocals)) t := fun t k => C123 t (st124.trans k)
  have Zc124 : n0 ≤ T124.heap.size := Nat.le_trans Zc122 K124.1
  obtain ⟨m1, m2, m3, m4⟩ := own_lawB va6 va7 va8 vb6 vb7 vb8 hda hdb
  have I1b := J122.beside (hw _ (List.mem_of_getElem? (i := 1) rfl)) I2q K124 s12
  have C125 : ∀ t, Steps p.tables e below (T124.setTop (mkF m 207 #[.val (.int p1), .val (.int p2), .val (.int p3), .val (.int p4), .val (.int mo), .val (.int (0 : Int32)), .val (.ref b104), .val (.ref b108), .val (.int ii), .val (.int jj), .val (.double (FP.i2d (db - da))), .second, .val (.int da), .val (.int db), .val (.double bs), .second, .val (.ref b116)] [(.int jj), (.ref b108), (.int ii), (.ref b104)])) t → Steps p.tables e below (s₁.setTop (entryFrame m #[(.int p1), (.int p2), (.int p3), (.int p4)] maxLocals)) t := by
    intro t k
    refine C124 t ?_
    show Steps p.tables e below (T124.setTop (mkF m 191 #[.val (.int p1), .val (.int p2), .val (.int p3), .val (.int p4), .val (.int mo), .val (.int (0 : Int32)), .val (.ref b104), .val (.ref b108), .val (.int ii), .val (.int jj), .unset, .unset, .val (.int da), .val (.int db), .val (.double bs), .second, .val (.ref b116)] [])) _
    refine XS.iload X124.here hx rfl (hb hby at_191) rfl ?_
    show Steps p.tables e below (T124.setTop (mkF m 193 #[.val (.int p1), .val (.int p2), .val (.int p3), .val (.int p4), .val (.int mo), .val (.int (0 : Int32)), .val (.ref b104), .val (.ref b108), .val (.int ii), .val (.int jj), .unset, .unset, .val (.int da), .val (.int db), .val (.double bs), .second, .val (.ref b116)] [(.int db)])) _
    refine XS.iload X124.here hx rfl (hb hby at_193) rfl ?_
    show Steps p.tables e below (T124.setTop (mkF m 195 #[.val (.int p1), .val (.int p2), .val (.int p3), .val (.int p4), .val (.int mo), .val (.int (0 : Int32)), .val (.ref b104), .val (.ref b108), .val (.int ii), .val (.int jj), .unset, .unset, .val (.int da), .val (.int db), .val (.double bs), .second, .val (.ref b116)] [(.int da), (.int db)])) _
    refine XS.isub X124.here hx rfl (hb hby at_195) rfl ?_
    show Steps p.tables e below (T124.setTop (mkF m 196 #[.val (.int p1), .val (.int p2), .val (.int p3), .val (.int p4), .val (.int mo), .val (.int (0 : Int32)), .val (.ref b104), .val (.ref b108), .val (.int ii), .val (.int jj), .unset, .unset, .val (.int da), .val (.int db), .val (.double bs), .second, .val (.ref b116)] [(.int (db - da))])) _
    refine XS.i2dS X124.here hx rfl (hb hby at_196) rfl rfl ?_
    show Steps p.tables e below (T124.setTop (mkF m 197 #[.val (.int p1), .val (.int p2), .val (.int p3), .val (.int p4), .val (.int mo), .val (.int (0 : Int32)), .val (.ref b104), .val (.ref b108), .val (.int ii), .val (.int jj), .unset, .unset, .val (.int da), .val (.int db), .val (.double bs), .second, .val (.ref b116)] [(.double (FP.i2d (db - da)))])) _
    refine XS.dstore X124.here hx rfl (hb hby at_197) rfl (l' := #[.val (.int p1), .val (.int p2), .val (.int p3), .val (.int p4), .val (.int mo), .val (.int (0 : Int32)), .val (.ref b104), .val (.ref b108), .val (.int ii), .val (.int jj), .val (.double (FP.i2d (db - da))), .second, .val (.int da), .val (.int db), .val (.double bs), .second, .val (.ref b116)]) rfl ?_
    show Steps p.tables e below (T124.setTop (mkF m 199 #[.val (.int p1), .val (.int p2), .val (.int p3), .val (.int p4), .val (.int mo), .val (.int (0 : Int32)), .val (.ref b104), .val (.ref b108), .val (.int ii), .val (.int jj), .val (.double (FP.i2d (db - da))), .second, .val (.int da), .val (.int db), .val (.double bs), .second, .val (.ref b116)] [])) _
    refine XS.aload X124.here hx rfl (hb hby at_199) rfl rfl ?_
    show Steps p.tables e below (T124.setTop (mkF m 201 #[.val (.int p1), .val (.int p2), .val (.int p3), .val (.int p4), .val (.int mo), .val (.int (0 : Int32)), .val (.ref b104), .val (.ref b108), .val (.int ii), .val (.int jj), .val (.double (FP.i2d (db - da))), .second, .val (.int da), .val (.int db), .val (.double bs), .second, .val (.ref b116)] [(.ref b104)])) _
    refine XS.iload X124.here hx rfl (hb hby at_201) rfl ?_
    show Steps p.tables e below (T124.setTop (mkF m 203 #[.val (.int p1), .val (.int p2), .val (.int p3), .val (.int p4), .val (.int mo), .val (.int (0 : Int32)), .val (.ref b104), .val (.ref b108), .val (.int ii), .val (.int jj), .val (.double (FP.i2d (db - da))), .second, .val (.int da), .val (.int db), .val (.double bs), .second, .val (.ref b116)] [(.int ii), (.ref b104)])) _
    refine XS.aload X124.here hx rfl (hb hby at_203) rfl rfl ?_
    show Steps p.tables e below (T124.setTop (mkF m 205 #[.val (.int p1), .val (.int p2), .val (.int p3), .val (.int p4), .val (.int mo), .val (.int (0 : Int32)), .val (.ref b104), .val (.ref b108), .val (.int ii), .val (.int jj), .val (.double (FP.i2d (db - da))), .second, .val (.int da), .val (.int db), .val (.double bs), .second, .val (.ref b116)] [(.ref b108), (.int ii), (.ref b104)])) _
    refine XS.iload X124.here hx rfl (hb hby at_205) rfl ?_
    exact k
  obtain ⟨cq126, kq126, q126a, q126b, q126c⟩ := isOf hZ rfl I1b.1
  obtain ⟨_, _, ⟨T126, L126, k126, n126⟩, -, X126, ⟨Lc126, hQ126, l126, y126, z126⟩, st126⟩ := X124.virtualBack hx (y := (⟨"com/example/coverline/coverline/Instants", "timeTo", "(ILcom/example/coverline/coverline/Instants;I)D"⟩ : MethodName)) (z := (⟨"com/example/coverline/coverline/Instants", "timeTo", "(ILcom/example/coverline/coverline/Instants;I)D"⟩ : MethodName)) hown (mvT hZ (hw _ (List.mem_of_getElem? (i := 28) rfl))) (mvT hZ (hw _ (List.mem_of_getElem? (i := 29) rfl))) (notFace_of_selects (args := #[]) (mvT hZ (hw _ (List.mem_of_getElem? (i := 31) rfl)))) (mvT hZ (hw _ (List.mem_of_getElem? (i := 31) rfl))) (mvT hZ (hw _ (List.mem_of_getElem? (i := 30) rfl))) (by decide) (backOf (W := 0) (rm6 l Z a0 hw [] b104 ii b108 jj t106 r106 t110 r110 2 2 (own_upd (fun _ => 0) ii (FP.dadd (FP.dadd bs (FP.i2d da)) (FP.dadd (own_re bs (FP.i2d da) (FP.dadd bs (FP.i2d da))) 0))) (own_upd (fun _ => 0) ii (own_re (FP.dadd bs (FP.i2d da)) (FP.dadd (own_re bs (FP.i2d da) (FP.dadd bs (FP.i2d da))) 0) (FP.dadd (FP.dadd bs (FP.i2d da)) (FP.dadd (own_re bs (FP.i2d da) (FP.dadd bs (FP.i2d da))) 0)))) (own_upd (fun _ => 0) jj (FP.dadd (FP.dadd bs (FP.i2d db)) (FP.dadd (own_re bs (FP.i2d db) (FP.dadd bs (FP.i2d db))) 0))) (own_upd (fun _ => 0) jj (own_re (FP.dadd bs (FP.i2d db)) (FP.dadd (own_re bs (FP.i2d db) (FP.dadd bs (FP.i2d db))) 0) (FP.dadd (FP.dadd bs (FP.i2d db)) (FP.dadd (own_re bs (FP.i2d db) (FP.dadd bs (FP.i2d db))) 0)))) (FP.dadd (FP.dadd bs (FP.i2d db)) (FP.dadd (own_re bs (FP.i2d db) (FP.dadd bs (FP.i2d db))) 0)) (FP.dadd (FP.dadd bs (FP.i2d da)) (FP.dadd (own_re bs (FP.i2d da) (FP.dadd bs (FP.i2d da))) 0)) (own_re (FP.dadd bs (FP.i2d db)) (FP.dadd (own_re bs (FP.i2d db) (FP.dadd bs (FP.i2d db))) 0) (FP.dadd (FP.dadd bs (FP.i2d db)) (FP.dadd (own_re bs (FP.i2d db) (FP.dadd bs (FP.i2d db))) 0))) (own_re (FP.dadd bs (FP.i2d da)) (FP.dadd (own_re bs (FP.i2d da) (FP.dadd bs (FP.i2d da))) 0) (FP.dadd (FP.dadd bs (FP.i2d da)) (FP.dadd (own_re bs (FP.i2d da) (FP.dadd bs (FP.i2d da))) 0))) T124.heap n0 Zc124 I1b J124 hii hjj (own_upd_same _ _ _) (own_upd_same _ _ _) (own_upd_same _ _ _) (own_upd_same _ _ _) m1 m2 m3) hZ (hw _ (List.mem_of_getElem? (i := 32) rfl)) (hw _ (List.mem_of_getElem? (i := 2) rfl)) (by decide) (by decide)) q126a q126c (g := (mkF m 207 #[.val (.int p1), .val (.int p2), .val (.int p3), .val (.int p4), .val (.int mo), .val (.int (0 : Int32)), .val (.ref b104), .val (.ref b108), .val (.int ii), .val (.int jj), .val (.double (FP.i2d (db - da))), .second, .val (.int da), .val (.int db), .val (.double bs), .second, .val (.ref b116)] [(.int jj), (.ref b108), (.int ii), (.ref b104)])) rfl (by rw [hml]; rfl) (Steps.refl _) (argsL := [(.int ii), (.ref b108), (.int jj)]) (rest := []) (lenOf pd3 rfl) rfl (by show 2 * 0 + _ ≤ _; exact Nat.le_of_eq rfl) (hb hby at_207) (fun _ _ => ⟨rfl, rfl, (by decide : 9 + 0 ≤ _), (by decide : 18 + 0 ≤ _)⟩)
  dsimp only [Pt.U, Pt.locs, Pt.cells, Pt.slots] at X126 l126 y126 z126 st126 hQ126
  subst l126 y126 z126
  obtain ⟨rfl, N126q, q126⟩ := hQ126
  have N126 := Fr.app N124 N126q
  have C126 : ∀ t, Steps p.tables e below (T126.setTop (mkF m 210 #[.val (.int p1), .val (.int p2), .val (.int p3), .val (.int p4), .val (.int mo), .val (.int (0 : Int32)), .val (.ref b104), .val (.ref b108), .val (.int ii), .val (.int jj), .val (.double (FP.i2d (db - da))), .second, .val (.int da), .val (.int db), .val (.double bs), .second, .val (.ref b116)] [(.double (FP.dadd (FP.dsub (FP.dadd (FP.dadd bs (FP.i2d db)) (FP.dadd (own_re bs (FP.i2d db) (FP.dadd bs (FP.i2d db))) 0)) (FP.dadd (FP.dadd bs (FP.i2d da)) (FP.dadd (own_re bs (FP.i2d da) (FP.dadd bs (FP.i2d da))) 0))) (FP.dsub (own_re (FP.dadd bs (FP.i2d db)) (FP.dadd (own_re bs (FP.i2d db) (FP.dadd bs (FP.i2d db))) 0) (FP.dadd (FP.dadd bs (FP.i2d db)) (FP.dadd (own_re bs (FP.i2d db) (FP.dadd bs (FP.i2d db))) 0))) (own_re (FP.dadd bs (FP.i2d da)) (FP.dadd (own_re bs (FP.i2d da) (FP.dadd bs (FP.i2d da))) 0) (FP.dadd (FP.dadd bs (FP.i2d da)) (FP.dadd (own_re bs (FP.i2d da) (FP.dadd bs (FP.i2d da))) 0))))))])) t → Steps p.tables e below (s₁.setTop (entryFrame m #[(.int p1), (.int p2), (.int p3), (.int p4)] maxLocals)) t := fun t k => C125 t (st126.trans k)
  have C127 : ∀ t, Steps p.tables e below (T126.setTop (mkF m 221 #[.val (.int p1), .val (.int p2), .val (.int p3), .val (.int p4), .val (.int mo), .val (.int (0 : Int32)), .val (.ref b104), .val (.ref b108), .val (.int ii), .val (.int jj), .val (.double (FP.i2d (db - da))), .second, .val (.int da), .val (.int db), .val (.double bs), .second, .val (.ref b116)] [(.int (1 : Int32))])) t → Steps p.tables e below (s₁.setTop (entryFrame m #[(.int p1), (.int p2), (.int p3), (.int p4)] maxLocals)) t := by
    intro t k
    refine C126 t ?_
    show Steps p.tables e below (T126.setTop (mkF m 210 #[.val (.int p1), .val (.int p2), .val (.int p3), .val (.int p4), .val (.int mo), .val (.int (0 : Int32)), .val (.ref b104), .val (.ref b108), .val (.int ii), .val (.int jj), .val (.double (FP.i2d (db - da))), .second, .val (.int da), .val (.int db), .val (.double bs), .second, .val (.ref b116)] [(.double (FP.dadd (FP.dsub (FP.dadd (FP.dadd bs (FP.i2d db)) (FP.dadd (own_re bs (FP.i2d db) (FP.dadd bs (FP.i2d db))) 0)) (FP.dadd (FP.dadd bs (FP.i2d da)) (FP.dadd (own_re bs (FP.i2d da) (FP.dadd bs (FP.i2d da))) 0))) (FP.dsub (own_re (FP.dadd bs (FP.i2d db)) (FP.dadd (own_re bs (FP.i2d db) (FP.dadd bs (FP.i2d db))) 0) (FP.dadd (FP.dadd bs (FP.i2d db)) (FP.dadd (own_re bs (FP.i2d db) (FP.dadd bs (FP.i2d db))) 0))) (own_re (FP.dadd bs (FP.i2d da)) (FP.dadd (own_re bs (FP.i2d da) (FP.dadd bs (FP.i2d da))) 0) (FP.dadd (FP.dadd bs (FP.i2d da)) (FP.dadd (own_re bs (FP.i2d da) (FP.dadd bs (FP.i2d da))) 0))))))])) _
    refine XS.dload X126.here hx rfl (hb hby at_210) rfl ?_
    show Steps p.tables e below (T126.setTop (mkF m 212 #[.val (.int p1), .val (.int p2), .val (.int p3), .val (.int p4), .val (.int mo), .val (.int (0 : Int32)), .val (.ref b104), .val (.ref b108), .val (.int ii), .val (.int jj), .val (.double (FP.i2d (db - da))), .second, .val (.int da), .val (.int db), .val (.double bs), .second, .val (.ref b116)] [(.double (FP.i2d (db - da))), (.double (FP.dadd (FP.dsub (FP.dadd (FP.dadd bs (FP.i2d db)) (FP.dadd (own_re bs (FP.i2d db) (FP.dadd bs (FP.i2d db))) 0)) (FP.dadd (FP.dadd bs (FP.i2d da)) (FP.dadd (own_re bs (FP.i2d da) (FP.dadd bs (FP.i2d da))) 0))) (FP.dsub (own_re (FP.dadd bs (FP.i2d db)) (FP.dadd (own_re bs (FP.i2d db) (FP.dadd bs (FP.i2d db))) 0) (FP.dadd (FP.dadd bs (FP.i2d db)) (FP.dadd (own_re bs (FP.i2d db) (FP.dadd bs (FP.i2d db))) 0))) (own_re (FP.dadd bs (FP.i2d da)) (FP.dadd (own_re bs (FP.i2d da) (FP.dadd bs (FP.i2d da))) 0) (FP.dadd (FP.dadd bs (FP.i2d da)) (FP.dadd (own_re bs (FP.i2d da) (FP.dadd bs (FP.i2d da))) 0))))))])) _
    refine XS.dcmpS X126.here hx rfl (hb hby at_212) rfl m4 ?_
    show Steps p.tables e below (T126.setTop (mkF m 213 #[.val (.int p1), .val (.int p2), .val (.int p3), .val (.int p4), .val (.int mo), .val (.int (0 : Int32)), .val (.ref b104), .val (.ref b108), .val (.int ii), .val (.int jj), .val (.double (FP.i2d (db - da))), .second, .val (.int da), .val (.int db), .val (.double bs), .second, .val (.ref b116)] [(.int (0 : Int32))])) _
    refine XS.ifNo X126.here hx rfl (hb hby at_213) rfl (XT.i0_ne_f rfl) ?_
    show Steps p.tables e below (T126.setTop (mkF m 216 #[.val (.int p1), .val (.int p2), .val (.int p3), .val (.int p4), .val (.int mo), .val (.int (0 : Int32)), .val (.ref b104), .val (.ref b108), .val (.int ii), .val (.int jj), .val (.double (FP.i2d (db - da))), .second, .val (.int da), .val (.int db), .val (.double bs), .second, .val (.ref b116)] [])) _
    refine XS.iconst X126.here hx rfl (hb hby at_216) ?_
    show Steps p.tables e below (T126.setTop (mkF m 217 #[.val (.int p1), .val (.int p2), .val (.int p3), .val (.int p4), .val (.int mo), .val (.int (0 : Int32)), .val (.ref b104), .val (.ref b108), .val (.int ii), .val (.int jj), .val (.double (FP.i2d (db - da))), .second, .val (.int da), .val (.int db), .val (.double bs), .second, .val (.ref b116)] [(.int (1 : Int32))])) _
    refine XS.goto X126.here hx rfl (pc0 := 217) (pc' := 221) rfl (hb hby at_217) (by decide) (by decide) ?_
    exact k
  obtain ⟨fs, hr, hrun, hended, hW, hsame⟩ := X126.leave (v := some (.int (1 : Int32))) (fun h => by rw [Bd.returns] at h; cases h)
  refine ⟨_, _, C127 _ ?_, hrun, hended, _, _, rfl, ?_, ⟨_, rfl⟩, hW, hsame.mono (by decide) (by decide)⟩
  · show Steps p.tables e below (T126.setTop (mkF m 221 #[.val (.int p1), .val (.int p2), .val (.int p3), .val (.int p4), .val (.int mo), .val (.int (0 : Int32)), .val (.ref b104), .val (.ref b108), .val (.int ii), .val (.int jj), .val (.double (FP.i2d (db - da))), .second, .val (.int da), .val (.int db), .val (.double bs), .second, .val (.ref b116)] [(.int (1 : Int32))])) _
    exact retN X126 hx (t := .boolean) Bd.returns (by simp) (hb hby at_221) hr
  · show Q0 Z p1 p2 p3 p4 h0 n0 _ T126.heap _
    rw [q126]
    exact ⟨rfl, N126⟩
theorem rm0 (l : Launch) (Z : State) (a0 : Array Value) (hw : ∀ d ∈ tables_1, d.before a0 Z = true) (ws : List Jvm.Cond) (p1 p2 p3 p4 : Int32) (h0 : Heap) (n0 : Nat) (Z0 : n0 ≤ h0.size) :
    MetFree l x (head1 (Jvm.Cond.code x code maxLocals ret :: ws) room_1) (fun a U => a = #[(.int p1), (.int p2), (.int p3), (.int p4)] ∧ Z.Warmed39 U.vm ∧ U.heap = h0) (fun _ _ _ _ _ => True) (fun _ U o U' => ∃ v L, o = .returned v ∧ Q0 Z p1 p2 p3 p4 h0 n0 v U'.heap L ∧ FrameEnd U o U' L room_1.cells room_1.slots) := by
  by_cases hs : (p4 &&& (4 : Int32)) = 0
  · by_cases hm : (p3 &&& (3 : Int32)) = 0
    · exact rm0_01 l Z a0 hw ws p1 p2 p3 p4 h0 n0 Z0 hs hm
    · exact rm0_00 l Z a0 hw ws p1 p2 p3 p4 h0 n0 Z0 hs hm
  · by_cases hm : (p3 &&& (3 : Int32)) = 0
    · exact rm0_11 l Z a0 hw ws p1 p2 p3 p4 h0 n0 Z0 hs hm
    · exact rm0_10 l Z a0 hw ws p1 p2 p3 p4 h0 n0 Z0 hs hm
set_option maxRecDepth 65536 in
set_option maxHeartbeats 40000000 in
theorem comes_1 {Post : Tables → Env → Array Value → State → Outcome → State → Prop} (hpost : ∀ tb e args s v u, (limb_1_1.after args s (.returned v) u = true ∧ limb_1_2.after args s (.returned v) u = true ∧ True) → FrameEnd s (.returned v) u (Jvm.fieldLocs frame_1_writes args s ++ Jvm.arrayLocs frame_1_arrays args s ++ Jvm.staticLocs frame_1_statics s) 32 128 → Post tb e args s (.returned v) u) :
    ArmFor flags0 classFile x code maxLocals ret World_1 tables_1 room_1 Calls_1 rest_1 Pre_1 Post := by
  intro l hfl _ _ p e ha hc hk s m args below hf hA hF happ hP
  obtain ⟨hcalls, hrest, hpre⟩ := hP
  obtain ⟨-, -, -, hnamed, -, -, -, hat⟩ := (Spec.applies_iff hf).mp happ
  obtain ⟨hg, hn⟩ := and_e (Cond.before_iff.mp (show (Jvm.Cond.and given_1 narrow_1).before args s = true from hpre))
  obtain ⟨hcount, r0⟩ := and_e hg
  obtain ⟨q0, r1⟩ := and_e r0
  obtain ⟨q1, r2⟩ := and_e r1
  obtain ⟨q2, r3⟩ := and_e r2
  have q3 := r3
  obtain ⟨w0, w1, w2, w3, rfl⟩ : ∃ w0 w1 w2 w3 : Value, args = #[w0, w1, w2, w3] := by
    have hs : args.size = 4 := by simpa [Cond.value, given_1] using hcount
    obtain ⟨L⟩ := args
    match L, hs with
    | [w0, w1, w2, w3], _ => exact ⟨w0, w1, w2, w3, rfl⟩
  have hw := fun d (hd : d ∈ tables_1) => atoms_spec (ws := Jvm.Cond.code x code maxLocals ret :: tables_1) hat d (List.mem_cons_of_mem _ hd)
  obtain ⟨i0, ei0⟩ := is_v q0
  obtain rfl : w0 = (.int i0) := Option.some.inj ei0
  obtain ⟨i1, ei1⟩ := is_v q1
  obtain rfl : w1 = (.int i1) := Option.some.inj ei1
  obtain ⟨i2, ei2⟩ := is_v q2
  obtain rfl : w2 = (.int i2) := Option.some.inj ei2
  obtain ⟨i3, ei3⟩ := is_v q3
  obtain rfl : w3 = (.int i3) := Option.some.inj ei3
  obtain ⟨n, o, h1, h2, h3, _, L, rfl, ⟨rfl, N⟩, hq⟩ := rm0 l s _ hw tables_1 i0 i1 i2 i3 s.heap s.heap.size (Nat.le_refl _)  p e ha hc hk s m _ below hf ((Spec.applies_iff_loose hf).mp happ).1 ⟨rfl, State.Warmed39.refl s, rfl⟩ trivial
  refine ⟨n, _, h1, h2, h3, hpost _ _ _ _ _ _ ⟨Cond.after_iff.mpr rfl, Cond.after_iff.mpr (eq_i res_at (Term.int_eval (1)) rfl), trivial⟩ ⟨hq.1, hq.2.1, (hq.2.2.sift fun y hy => Or.inr (N y hy)).mono (by decide) (by decide)⟩⟩
theorem main_1_1 : Claimed_1_1 := comes_1 fun _ _ _ _ _ _ h hF => ⟨h.1, hF⟩
theorem main_1_2 : Claimed_1_2 := comes_1 fun _ _ _ _ _ _ h hF => ⟨h.2.1, hF⟩
end Jvm.Pilot.@@N@@
namespace Jvm.Pilot.@@N@@
open Jvm Jvm.ClassFile Sem Op Lib Jvm.Free Jvm.Stand Jvm.Pilot.@@N@@.Jvm.D
/-! MADE BY PROGRAM (witnessworld.py) out of the Statement's table words and the real class files: 11 classes; the members and pool entries that the words name. The judged class is class 1, her method 1. -/
namespace start1
open Jvm.ClassFile
def u (s : String) : CpInfo := .utf8 (stringToUtf16 s)
/-- a pool by its gaps: so many unusable entries, then the entry; so many at the end -/
def gap : Nat → List CpInfo → List CpInfo
  | 0, r => r
  | n + 1, r => .unusable :: gap n r
def poolList (es : List (Nat × CpInfo)) (last : Nat) : List CpInfo := es.foldr (fun e r => gap e.1 (e.2 :: r)) (gap last [])
def pool (es : List (Nat × CpInfo)) (last : Nat) : Array CpInfo := ⟨poolList es last⟩
def fileOf (pool : Array CpInfo) (this : Nat) (attrs : Array Attribute := #[]) (ms : Array MethodInfo := #[]) (fl : Nat := 33) (sup : Nat := 0) (ifs : Array Nat := #[]) (fds : Array FieldInfo := #[]) : ClassFile where
  minorVersion := 0
  majorVersion := 65
  constantPool := pool
  accessFlags := fl
  thisClass := this
  superClass := sup
  interfaces := ifs
  fields := fds
  methods := ms
  attributes := attrs
def plain (name : String) (sup : Option ClassId) : Class where
  name := name
  kind := .ordinary
  loader := none
  accessFlags := 33
  super := sup
  interfaces := #[]
  cf := none
  fields := #[]
  methods := #[]
  instanceTypes := #[]
  staticTypes := #[]
  resolved := #[]
  callSites := []
  init := .initialized
  statics := none
  mirror := none

def pool0 : Array CpInfo := pool [(5, u "<init>"), (0, u "()V"), (1, .class_ 10), (1, u "java/lang/Object")] 113

def k0c0 : Code := { maxStack := 0, maxLocals := 1, code := object_method_1_code, exceptionTable := #[], attributes := #[] }
def k0m0 : Method := { name := "<init>", desc := "()V", sig := { parameters := [], returnType := none }, accessFlags := 1, code := some k0c0 }
/-- java/lang/Object -/
def k0 : Class := { plain "java/lang/Object" none with
  accessFlags := 33
  interfaces := #[]
  cf := some (fileOf pool0 8 #[] #[{ accessFlags := 1, nameIndex := 5, descriptorIndex := 6, attributes := #[] }] 33 0 #[] #[])
  fields := #[]
  methods := #[k0m0]
  instanceTypes := #[]
  staticTypes := #[]
  resolved := Array.replicate 124 none
  statics := none }

def pool1 : Array CpInfo := pool [(2, .class_ 4), (1, u "java/lang/Object"), (0, u "<init>"), (0, u "()V"), (0, .class_ 8), (0, u "com/example/coverline/coverline/Instants"), (0, .methodref 7 10), (0, .nameAndType 5 11), (0, u "(I)V"), (0, .methodref 7 13), (0, .nameAndType 14 15), (0, u "set"), (0, u "(ID)V"), (0, .double 4845873199050653696), (1, .double 14100770433297022976), (1, .double 4967470388989657088), (1, .methodref 7 23), (0, .nameAndType 24 25), (0, u "setAfter"), (0, u "(ILcom/example/coverline/coverline/Instants;ID)V"), (0, .methodref 7 27), (0, .nameAndType 28 29), (0, u "timeTo"), (0, u "(ILcom/example/coverline/coverline/Instants;I)D"), (0, .class_ 31), (0, u "com/example/coverline/coverline/InstantsTimeToPinLaw"), (2, u "law"), (0, u "(IIII)Z")] 3

def k1m0 : Method := { name := "<init>", desc := "()V", sig := { parameters := [], returnType := none }, accessFlags := 1, code := none }
def k1c1 : Code := { maxStack := 6, maxLocals := 17, code := code, exceptionTable := #[], attributes := #[] }
def k1m1 : Method := { name := "law", desc := "(IIII)Z", sig := { parameters := [.int, .int, .int, .int], returnType := some .boolean }, accessFlags := 9, code := some k1c1 }
/-- com/example/coverline/coverline/InstantsTimeToPinLaw -/
def k1 : Class := { plain "com/example/coverline/coverline/InstantsTimeToPinLaw" (some 0) with
  accessFlags := 49
  interfaces := #[]
  cf := some (fileOf pool1 30 #[] #[{ accessFlags := 1, nameIndex := 5, descriptorIndex := 6, attributes := #[] }, { accessFlags := 9, nameIndex := 34, descriptorIndex := 35, attributes := #[] }] 49 2 #[] #[])
  fields := #[]
  methods := #[k1m0, k1m1]
  instanceTypes := #[]
  staticTypes := #[]
  resolved := Array.replicate 39 none
  statics := none }

def pool2 : Array CpInfo := pool [(1, .methodref 2 3), (0, .class_ 4), (0, .nameAndType 5 6), (0, u "java/lang/Object"), (0, u "<init>"), (0, u "()V"), (0, .fieldref 8 9), (0, .class_ 10), (0, .nameAndType 11 12), (0, u "com/example/coverline/coverline/Instants"), (0, u "times"), (0, u "[D"), (0, .fieldref 8 14), (0, .nameAndType 15 12), (0, u "remainders"), (0, .methodref 8 17), (0, .nameAndType 18 19), (0, u "roundingError"), (0, u "(DDD)D"), (0, u "(I)V"), (6, u "set"), (0, u "(ID)V"), (1, u "setAfter"), (0, u "(ILcom/example/coverline/coverline/Instants;ID)V"), (0, u "timeTo"), (0, u "(ILcom/example/coverline/coverline/Instants;I)D")] 5

def k2c0 : Code := { maxStack := 2, maxLocals := 2, code := prog_33_method_1_code, exceptionTable := #[], attributes := #[] }
def k2m0 : Method := { name := "<init>", desc := "(I)V", sig := { parameters := [.int], returnType := none }, accessFlags := 0, code := some k2c0 }
def k2c1 : Code := { maxStack := 4, maxLocals := 4, code := prog_33_method_4_code, exceptionTable := #[], attributes := #[] }
def k2m1 : Method := { name := "set", desc := "(ID)V", sig := { parameters := [.int, .double], returnType := none }, accessFlags := 0, code := some k2c1 }
def k2c2 : Code := { maxStack := 8, maxLocals := 14, code := prog_33_method_6_code, exceptionTable := #[], attributes := #[] }
def k2m2 : Method := { name := "setAfter", desc := "(ILcom/example/coverline/coverline/Instants;ID)V", sig := { parameters := [.int, (.object "com/example/coverline/coverline/Instants"), .int, .double], returnType := none }, accessFlags := 0, code := some k2c2 }
def k2c3 : Code := { maxStack := 6, maxLocals := 4, code := prog_33_method_7_code, exceptionTable := #[], attributes := #[] }
def k2m3 : Method := { name := "timeTo", desc := "(ILcom/example/coverline/coverline/Instants;I)D", sig := { parameters := [.int, (.object "com/example/coverline/coverline/Instants"), .int], returnType := some .double }, accessFlags := 0, code := some k2c3 }
def k2c4 : Code := { maxStack := 6, maxLocals := 8, code := prog_33_method_9_code, exceptionTable := #[], attributes := #[] }
def k2m4 : Method := { name := "roundingError", desc := "(DDD)D", sig := { parameters := [.double, .double, .double], returnType := some .double }, accessFlags := 10, code := some k2c4 }
/-- com/example/coverline/coverline/Instants -/
def k2 : Class := { plain "com/example/coverline/coverline/Instants" (some 0) with
  accessFlags := 48
  interfaces := #[]
  cf := some (fileOf pool2 8 #[] #[{ accessFlags := 0, nameIndex := 5, descriptorIndex := 20, attributes := #[] }, { accessFlags := 0, nameIndex := 27, descriptorIndex := 28, attributes := #[] }, { accessFlags := 0, nameIndex := 30, descriptorIndex := 31, attributes := #[] }, { accessFlags := 0, nameIndex := 32, descriptorIndex := 33, attributes := #[] }, { accessFlags := 10, nameIndex := 18, descriptorIndex := 19, attributes := #[] }] 48 2 #[] #[{ accessFlags := 18, nameIndex := 11, descriptorIndex := 12, attributes := #[] }, { accessFlags := 18, nameIndex := 15, descriptorIndex := 12, attributes := #[] }])
  fields := #[{ name := "times", type := (.array .double), accessFlags := 18, slot := 0, constantValue := 0 }, { name := "remainders", type := (.array .double), accessFlags := 18, slot := 1, constantValue := 0 }]
  methods := #[k2m0, k2m1, k2m2, k2m3, k2m4]
  instanceTypes := #[(.array .double), (.array .double)]
  staticTypes := #[]
  resolved := Array.replicate 39 none
  statics := none }

def pool3 : Array CpInfo := pool [(1, u "java/lang/Cloneable"), (0, .class_ 1), (0, u "java/lang/Object"), (0, .class_ 3)] 3

/-- java/lang/Cloneable -/
def k3 : Class := { plain "java/lang/Cloneable" (some 0) with
  accessFlags := 1537
  interfaces := #[]
  cf := some (fileOf pool3 2 #[] #[] 1537 4 #[] #[])
  fields := #[]
  methods := #[]
  instanceTypes := #[]
  staticTypes := #[]
  resolved := Array.replicate 8 none
  statics := none }

def pool4 : Array CpInfo := pool [(1, u "java/io/Serializable"), (0, .class_ 1), (0, u "java/lang/Object"), (0, .class_ 3)] 3

/-- java/io/Serializable -/
def k4 : Class := { plain "java/io/Serializable" (some 0) with
  accessFlags := 1537
  interfaces := #[]
  cf := some (fileOf pool4 2 #[] #[] 1537 4 #[] #[])
  fields := #[]
  methods := #[]
  instanceTypes := #[]
  staticTypes := #[]
  resolved := Array.replicate 8 none
  statics := none }

/-- the primitive byte -/
def k5 : Class := { plain "byte" none with kind := .primitive 'B', accessFlags := 0x411 }
/-- [B -/
def k6 : Class := { plain "[B" (some 0) with kind := .array 5 .byte, interfaces := #[3, 4], accessFlags := 1041 }

/-- the primitive double -/
def k7 : Class := { plain "double" none with kind := .primitive 'D', accessFlags := 0x411 }
/-- [D -/
def k8 : Class := { plain "[D" (some 0) with kind := .array 7 .double, interfaces := #[3, 4], accessFlags := 1041 }

/-- the primitive int -/
def k9 : Class := { plain "int" none with kind := .primitive 'I', accessFlags := 0x411 }
/-- [I -/
def k10 : Class := { plain "[I" (some 0) with kind := .array 9 .int, interfaces := #[3, 4], accessFlags := 1041 }

def heap : Heap := #[]
def classes : Array Class := #[k0, k1, k2, k3, k4, k5, k6, k7, k8, k9, k10]
def interned : List (Array UInt16 × Addr) := []
def slotsUsed : Nat := 0
def theMethod : MethodId := ⟨1, 1⟩
def args0 : Array Value := #[.int 5, .int 5, .int 5, .int 5]
def aboutOver (below : List Frame) : State where
  vm := { classes := classes, interned := interned.toArray }
  heap := heap
  slotsUsed := slotsUsed
  threads := #[{ frames := .invoking theMethod args0 :: below }]
def below0 : List Frame := [.native { method := ⟨0, 0⟩, args := #[] }]
def about1 : State := aboutOver below0
def p0 : Program := .bare "" "" ""
def e0 : Env := launch0.env 0 0 0
theorem w_frames : about1.frames = Frame.invoking theMethod args0 :: below0 := rfl
set_option maxRecDepth 65536 in
theorem w_args : argsFit about1.vm theMethod args0 = true := by decide +kernel
set_option maxRecDepth 65536 in
theorem w_heap : heapFits about1 = true := by decide +kernel
set_option maxRecDepth 65536 in
theorem w_runnable : about1.curStatus? = some .runnable := by decide +kernel
set_option maxRecDepth 65536 in
theorem w_alone : about1.alone = true := by decide +kernel
set_option maxRecDepth 65536 in
theorem w_named : about1.methodNamed? x = some theMethod := by decide +kernel
set_option maxRecDepth 65536 in
theorem w_hears : about1.hears theMethod below0 = true := by decide +kernel
set_option maxRecDepth 65536 in
theorem w_ripe : about1.ripe theMethod args0 below0 = true := by decide +kernel
theorem w_running : about1.status = .running := rfl
set_option maxRecDepth 65536 in
theorem w_room : about1.hasRoom e0.platform room_1 = true :=
  launch0.hasRoom_least _ room_1 (by decide +kernel) (by decide +kernel) (by decide +kernel) (by decide +kernel) (by decide +kernel) (by decide +kernel)
theorem allAtoms_all (ts : List Jvm.Cond) (a : Array Jvm.Value) (st : Jvm.State) : (allAtoms ts).before a st = ts.all (fun c => c.before a st) := by
  induction ts with
  | nil => rfl
  | cons c t ih =>
    show (Jvm.Cond.and c (allAtoms t)).before a st = _
    rw [Jvm.Cond.before_and, ih, List.all_cons]
def words1 : List Jvm.Cond := Jvm.Cond.code x code maxLocals ret :: tables_1
/-- a 'code' word, met by the world's own term for the bytes: nothing is compared byte by byte -/
theorem code_word {y : MethodName} {bytes : ByteArray} {mx : Nat} {rt : Option FieldType} {a : Array Value} {s : State} {m : MethodId} {meth : Method} {c : Code} (h1 : s.methodNamed? y = some m) (h2 : s.vm.method? m = some meth) (h3 : meth.code = some c) (h4 : c.code = bytes)
    (h5 : (c.maxLocals == mx && c.exceptionTable.isEmpty && decide (c.maxStack ≤ mostOperands) && decide (meth.sig.returnType = rt) && !meth.locks && decide (parseMethodDescriptor y.desc = some meth.sig)) = true) : (Jvm.Cond.code y bytes mx rt).before a s = true := by
  simp only [Bool.and_eq_true, beq_iff_eq, Bool.not_eq_true', decide_eq_true_eq] at h5
  obtain ⟨⟨⟨⟨⟨g1, g2⟩, g3⟩, g4⟩, g5⟩, g6⟩ := h5
  simp [Cond.before, Cond.holds, Cond.value, h1, h2, h3, h4, g1, g2, g3, g4, g5, g6]
def isCode : Jvm.Cond → Bool
  | .code _ _ _ _ => true
  | _ => false
theorem all_split {L : List Jvm.Cond} {P : Jvm.Cond → Bool} (h1 : L.all (fun c => isCode c || P c) = true) (h2 : ∀ c ∈ L.filter isCode, P c = true) : L.all P = true := by
  refine List.all_eq_true.mpr fun c hc => ?_
  have h := List.all_eq_true.mp h1 c hc
  rcases Bool.eq_false_or_eq_true (isCode c) with hi | hi
  · exact h2 c (List.mem_filter.mpr ⟨hc, hi⟩)
  · simpa [hi] using h
set_option maxRecDepth 65536 in
theorem w_c0 : (Jvm.Cond.code x code maxLocals ret).before args0 about1 = true := code_word (m := ⟨1, 1⟩) (meth := k1m1) (c := k1c1) (by decide +kernel) rfl rfl rfl (by decide +kernel)
set_option maxRecDepth 65536 in
theorem w_c1 : (Jvm.Cond.code ({ cls := "com/example/coverline/coverline/Instants", name := "<init>", desc := "(I)V" } : Jvm.MethodName) prog_33_method_1_code (2 : Nat) (Option.none : Option Jvm.ClassFile.FieldType)).before args0 about1 = true := code_word (m := ⟨2, 0⟩) (meth := k2m0) (c := k2c0) (by decide +kernel) rfl rfl rfl (by decide +kernel)
set_option maxRecDepth 65536 in
theorem w_c2 : (Jvm.Cond.code ({ cls := "java/lang/Object", name := "<init>", desc := "()V" } : Jvm.MethodName) object_method_1_code (1 : Nat) (Option.none : Option Jvm.ClassFile.FieldType)).before args0 about1 = true := code_word (m := ⟨0, 0⟩) (meth := k0m0) (c := k0c0) (by decide +kernel) rfl rfl rfl (by decide +kernel)
set_option maxRecDepth 65536 in
theorem w_c3 : (Jvm.Cond.code ({ cls := "com/example/coverline/coverline/Instants", name := "set", desc := "(ID)V" } : Jvm.MethodName) prog_33_method_4_code (4 : Nat) (Option.none : Option Jvm.ClassFile.FieldType)).before args0 about1 = true := code_word (m := ⟨2, 1⟩) (meth := k2m1) (c := k2c1) (by decide +kernel) rfl rfl rfl (by decide +kernel)
set_option maxRecDepth 65536 in
theorem w_c4 : (Jvm.Cond.code ({ cls := "com/example/coverline/coverline/Instants", name := "setAfter", desc := "(ILcom/example/coverline/coverline/Instants;ID)V" } : Jvm.MethodName) prog_33_method_6_code (14 : Nat) (Option.none : Option Jvm.ClassFile.FieldType)).before args0 about1 = true := code_word (m := ⟨2, 2⟩) (meth := k2m2) (c := k2c2) (by decide +kernel) rfl rfl rfl (by decide +kernel)
set_option maxRecDepth 65536 in
theorem w_c5 : (Jvm.Cond.code ({ cls := "com/example/coverline/coverline/Instants", name := "roundingError", desc := "(DDD)D" } : Jvm.MethodName) prog_33_method_9_code (8 : Nat) (Option.some Jvm.ClassFile.FieldType.double)).before args0 about1 = true := code_word (m := ⟨2, 4⟩) (meth := k2m4) (c := k2c4) (by decide +kernel) rfl rfl rfl (by decide +kernel)
set_option maxRecDepth 65536 in
theorem w_c6 : (Jvm.Cond.code ({ cls := "com/example/coverline/coverline/Instants", name := "timeTo", desc := "(ILcom/example/coverline/coverline/Instants;I)D" } : Jvm.MethodName) prog_33_method_7_code (4 : Nat) (Option.some Jvm.ClassFile.FieldType.double)).before args0 about1 = true := code_word (m := ⟨2, 3⟩) (meth := k2m3) (c := k2c3) (by decide +kernel) rfl rfl rfl (by decide +kernel)
def codes1 : List Jvm.Cond := [Jvm.Cond.code x code maxLocals ret, Jvm.Cond.code ({ cls := "com/example/coverline/coverline/Instants", name := "<init>", desc := "(I)V" } : Jvm.MethodName) prog_33_method_1_code (2 : Nat) (Option.none : Option Jvm.ClassFile.FieldType), Jvm.Cond.code ({ cls := "java/lang/Object", name := "<init>", desc := "()V" } : Jvm.MethodName) object_method_1_code (1 : Nat) (Option.none : Option Jvm.ClassFile.FieldType), Jvm.Cond.code ({ cls := "com/example/coverline/coverline/Instants", name := "set", desc := "(ID)V" } : Jvm.MethodName) prog_33_method_4_code (4 : Nat) (Option.none : Option Jvm.ClassFile.FieldType), Jvm.Cond.code ({ cls := "com/example/coverline/coverline/Instants", name := "setAfter", desc := "(ILcom/example/coverline/coverline/Instants;ID)V" } : Jvm.MethodName) prog_33_method_6_code (14 : Nat) (Option.none : Option Jvm.ClassFile.FieldType), Jvm.Cond.code ({ cls := "com/example/coverline/coverline/Instants", name := "roundingError", desc := "(DDD)D" } : Jvm.MethodName) prog_33_method_9_code (8 : Nat) (Option.some Jvm.ClassFile.FieldType.double), Jvm.Cond.code ({ cls := "com/example/coverline/coverline/Instants", name := "timeTo", desc := "(ILcom/example/coverline/coverline/Instants;I)D" } : Jvm.MethodName) prog_33_method_7_code (4 : Nat) (Option.some Jvm.ClassFile.FieldType.double)]
set_option maxRecDepth 65536 in
theorem codes_eq : words1.filter isCode = codes1 := rfl
theorem w_codes : ∀ c ∈ words1.filter isCode, c.before args0 about1 = true := by
  rw [codes_eq]
  intro c hc
  simp only [codes1, List.mem_cons, List.not_mem_nil, or_false] at hc
  rcases hc with rfl | rfl | rfl | rfl | rfl | rfl | rfl
  · exact w_c0
  · exact w_c1
  · exact w_c2
  · exact w_c3
  · exact w_c4
  · exact w_c5
  · exact w_c6
set_option maxRecDepth 65536 in
theorem w_t1 : (words1.take 24).all (fun c => isCode c || c.before args0 about1) = true := by decide +kernel
set_option maxRecDepth 65536 in
theorem w_t2 : (words1.drop 24).all (fun c => isCode c || c.before args0 about1) = true := by decide +kernel
theorem w_tables : (allAtoms (Jvm.Cond.code x code maxLocals ret :: tables_1)).before args0 about1 = true := by
  rw [allAtoms_all]
  show words1.all (fun c => c.before args0 about1) = true
  refine all_split ?_ w_codes
  rw [← List.take_append_drop 24 words1, List.all_append, w_t1, w_t2]
  rfl
set_option maxRecDepth 65536 in
theorem w_case : (Jvm.Cond.and given_1 narrow_1).before args0 about1 = true := by decide +kernel
theorem w_applies : (headSpec (Jvm.Cond.code x code maxLocals ret :: tables_1) room_1).applies x e0.platform about1 = true :=
  (Spec.applies_iff w_frames).mpr ⟨w_running, w_runnable, w_alone, w_named, w_hears, w_ripe, w_room, w_tables⟩
theorem atStart : AtStart classFile x code maxLocals ret World_1 tables_1 room_1 Calls_1 rest_1 Pre_1 launch0 p0 e0 about1 theMethod args0 below0 :=
  ⟨lists_1, trivial, launch0.admits_env _ _ _, launch0.least_env, fairChoices_fair.cas, fairChoices_fair.clock, w_frames, w_args, w_heap, w_applies, trivial, trivial, w_case⟩
end start1
theorem witness_1 : WitnessClaimed_1 := ⟨start1.p0, start1.e0, start1.about1, start1.theMethod, start1.args0, start1.below0, start1.atStart⟩
end Jvm.Pilot.@@N@@
