import JvmDerived
import JvmDerived.Pilot.@@N@@Statement
import JvmDerived.Pilot.@@N@@Code
set_option linter.unusedVariables false
set_option linter.unusedSimpArgs false
namespace Jvm.Pilot.@@N@@
open Jvm Jvm.ClassFile Sem Op Lib Jvm.Free Jvm.Stand Jvm.LawKit Jvm.RoadKit Bundle Jvm.Pilot.@@N@@.Jvm.D
section OwnHalf
open Jvm.FP Jvm.FP.Core
theorem own_inUnits (c : Nat) (q e : Int) : inUnits c q e = c * 2 ^ (q - e).toNat := rfl
theorem own_zval_fin (s : Bool) (c : Nat) (q : Int) : zval b64 (.fin s c q) = signed s (inUnits c q b64.qmin) := rfl
theorem own_two_val : val64 4611686018427387904 = .fin false (2 ^ 52) (-51) := by decide +kernel
theorem own_quot (s : Bool) (c d : Nat) (q r : Int) (hd : d ≠ 0) : quotient b64 (.fin s c q) (.fin false d r) = roundRatio b64 s c d (q - r) := by
  show (if d = 0 then _ else roundRatio b64 (s != false) c d (q - r)) = _
  rw [if_neg hd, Bool.bne_false]
theorem own_round (s : Bool) (c : Nat) (q : Int) : round b64 (.fin s c q) = roundRatio b64 s c 1 q := rfl
theorem own_rr0 (s : Bool) (d : Nat) (e : Int) : roundRatio b64 s 0 d e = .fin s 0 b64.qmin := by
  show (if (0 : Nat) = 0 then _ else _) = _
  rw [if_pos rfl]
theorem own_signed_big {s : Bool} {c k : Nat} {n : Int} (hk : 0 < k) (hc : c < k) (h : signed s c = n * (k : Int)) : c = 0 := by
  have h1 : (signed s c).natAbs = c := natAbs_signed s c
  rw [h, Int.natAbs_mul] at h1
  by_cases hn : n.natAbs = 0
  · rw [hn] at h1; simpa using h1.symm
  · have : k ≤ n.natAbs * k := Nat.le_mul_of_pos_left _ (Nat.pos_of_ne_zero hn)
    rw [Int.natAbs_natCast] at h1
    omega
theorem own_pow_big : 2 ^ b64.p ≤ one64 := by
  show 2 ^ 53 ≤ 2 ^ 1074
  exact Nat.pow_le_pow_right (by decide) (by decide)
theorem own_half (n : Int32) : (∃ s c q, val64 (FP.ddiv (FP.i2d n) 4611686018427387904) = .fin s c q) ∧ 2 * zval b64 (val64 (FP.ddiv (FP.i2d n) 4611686018427387904)) = n.toInt * (one64 : Int) := by
  obtain ⟨s, c, q, hv⟩ := i2d_fin n
  have hfit := val64_fits (Core.i2d n)
  rw [hv] at hfit
  have hz := DInt_zval (i2d_int n)
  rw [hv] at hz
  have e1 : val64 (FP.ddiv (FP.i2d n) 4611686018427387904) = roundRatio b64 s c (2 ^ 52) (q + 51) := by
    show val64 (Core.ddiv (Core.i2d n) 4611686018427387904) = _
    rw [val64_ddiv, hv, own_two_val, own_quot _ _ _ _ _ (by decide), show q - (-51 : Int) = q + 51 by omega]
  rw [e1]
  by_cases h0 : c = 0
  · subst h0
    rw [own_rr0]
    refine ⟨⟨_, _, _, rfl⟩, ?_⟩
    rw [← hz, own_zval_fin, own_zval_fin, own_inUnits, own_inUnits, Nat.zero_mul, Nat.zero_mul, signed_zero]
    rfl
  · obtain ⟨f1, f2, f3, f4⟩ := hfit
    have hq : b64.qmin ≤ q - 1 := by
      by_cases hh : q = b64.qmin
      · exfalso
        subst hh
        rw [own_zval_fin, own_inUnits, Int.sub_self, show (0 : Int).toNat = 0 from rfl, Nat.pow_zero, Nat.mul_one] at hz
        exact h0 (own_signed_big one64_pos (Nat.lt_of_lt_of_le f1 own_pow_big) hz)
      · omega
    have e2 : roundRatio b64 s c (2 ^ 52) (q + 51) = round b64 (.fin s c (q - 1)) := by
      rw [own_round]
      refine roundRatio_congr (by decide) (by decide) ?_
      rw [show q + 51 - (q - 1) = 52 by omega, show q - 1 - (q + 51) = -52 by omega]
      show c * 1 * 2 ^ 52 = c * 2 ^ 52 * 2 ^ 0
      omega
    obtain ⟨c', q', r1, r2⟩ := round_exact good_b64 s f1 hq (show q - 1 ≤ b64.qmax by omega)
    rw [e2, r1]
    refine ⟨⟨_, _, _, rfl⟩, ?_⟩
    have e3 : inUnits c q b64.qmin = inUnits c (q - 1) b64.qmin * 2 := by
      rw [own_inUnits, own_inUnits, show (q - b64.qmin).toNat = (q - 1 - b64.qmin).toNat + 1 by omega, Nat.pow_succ, Nat.mul_assoc]
    rw [← hz, own_zval_fin, own_zval_fin, r2, e3, signed_mul, Int.mul_comm]
    rfl
theorem own_half_fin (n : Int32) : Jvm.Free.Fl.Fin64 (FP.ddiv (FP.i2d n) 4611686018427387904) := Jvm.Free.Fl.fin64_core.mpr (own_half n).1
theorem own_half_nn (n : Int32) : Jvm.Free.Fl.NoNaN64 (FP.ddiv (FP.i2d n) 4611686018427387904) := (own_half_fin n).noNaN
theorem own_half_cmp (a b : Int32) : FP.dcmp (FP.ddiv (FP.i2d a) 4611686018427387904) (FP.ddiv (FP.i2d b) 4611686018427387904) = some (compare a.toInt b.toInt) := by
  have ha := own_half a
  have hb := own_half b
  show Core.dcmp _ _ = _
  rw [dcmp_zval (DFin.ne_nan ha.1) (DFin.ne_nan hb.1)]
  have hp : (0 : Int) < (one64 : Int) := by exact_mod_cast one64_pos
  refine congrArg some ?_
  rw [← compare_mul_pos a.toInt b.toInt _ hp, ← ha.2, ← hb.2]
  refine (compare_congr ?_ ?_) <;> omega
theorem own_half_cmp0 (a : Int32) : FP.dcmp (FP.ddiv (FP.i2d a) 4611686018427387904) 0 = some (compare a.toInt 0) := by
  have ha := own_half a
  show Core.dcmp _ _ = _
  rw [dcmp_zval (DFin.ne_nan ha.1) (by rw [val64_zero]; intro h; cases h), zval64_zero]
  have hp : (0 : Int) < (one64 : Int) := by exact_mod_cast one64_pos
  refine congrArg some ?_
  rw [← compare_mul_pos a.toInt 0 _ hp, ← ha.2, Int.zero_mul]
  refine (compare_congr ?_ ?_) <;> omega
end OwnHalf
def Q1 (Z : State) (a1 : Addr) (x1 x2 : UInt64) (h0 : Heap) (n0 : Nat) (v : Option Value) (h : Heap) (L : List Loc) : Prop := v = none ∧ Fr n0 L ∧ Keep h0 h [a1] ∧ Exa Z h a1 "com/example/peptides_to_proteins/peptidestoproteins/Range" ∧ Fld Z h a1 "com/example/peptides_to_proteins/peptidestoproteins/Range" "low" "D" (.double x1) ∧ Fld Z h a1 "com/example/peptides_to_proteins/peptidestoproteins/Range" "high" "D" (.double x2)
theorem pn0 : plainName "com/example/peptides_to_proteins/peptidestoproteins/Range" = true := by first | (simp [plainName, overriddenIn]; done) | decide +kernel
theorem ef1 (m : MethodId) (x0 : Addr) (x1 : UInt64) (x2 : UInt64) : entryFrame m #[(.ref x0), (.double x1), (.double x2)] 5 = mkF m 0 #[.val (.ref x0), .val (.double x1), .second, .val (.double x2), .second] [] := by first | (simp [entryFrame, mkF, argsToLocals, Value.category]; done) | rfl
theorem d1_0 : decode prog_20_method_1_code 0 = .ok (.aload_n 0, 1) := by decide +kernel
theorem d1_1 : decode prog_20_method_1_code 1 = .ok (.invokespecial 1, 3) := by decide +kernel
theorem d1_4 : decode prog_20_method_1_code 4 = .ok (.dload_n 1, 1) := by decide +kernel
theorem d1_5 : decode prog_20_method_1_code 5 = .ok (.dconst 0, 1) := by decide +kernel
theorem d1_6 : decode prog_20_method_1_code 6 = .ok (.dcmp .l, 1) := by decide +kernel
theorem d1_7 : decode prog_20_method_1_code 7 = .ok (.ifCond .lt 17, 3) := by decide +kernel
theorem d1_10 : decode prog_20_method_1_code 10 = .ok (.dload_n 1, 1) := by decide +kernel
theorem d1_11 : decode prog_20_method_1_code 11 = .ok (.dload_n 3, 1) := by decide +kernel
theorem d1_12 : decode prog_20_method_1_code 12 = .ok (.dcmp .g, 1) := by decide +kernel
theorem d1_13 : decode prog_20_method_1_code 13 = .ok (.ifCond .gt 11, 3) := by decide +kernel
theorem d1_16 : decode prog_20_method_1_code 16 = .ok (.dload_n 3, 1) := by decide +kernel
theorem d1_17 : decode prog_20_method_1_code 17 = .ok (.ldc2_w 9, 3) := by decide +kernel
theorem d1_20 : decode prog_20_method_1_code 20 = .ok (.dcmp .g, 1) := by decide +kernel
theorem d1_21 : decode prog_20_method_1_code 21 = .ok (.ifCond .lt 18, 3) := by decide +kernel
theorem d1_39 : decode prog_20_method_1_code 39 = .ok (.aload_n 0, 1) := by decide +kernel
theorem d1_40 : decode prog_20_method_1_code 40 = .ok (.dload_n 1, 1) := by decide +kernel
theorem d1_41 : decode prog_20_method_1_code 41 = .ok (.putfield 20, 3) := by decide +kernel
theorem d1_44 : decode prog_20_method_1_code 44 = .ok (.aload_n 0, 1) := by decide +kernel
theorem d1_45 : decode prog_20_method_1_code 45 = .ok (.dload_n 3, 1) := by decide +kernel
theorem d1_46 : decode prog_20_method_1_code 46 = .ok (.putfield 26, 3) := by decide +kernel
theorem d1_49 : decode prog_20_method_1_code 49 = .ok (.return_, 1) := by decide +kernel
set_option maxRecDepth 65536 in
set_option maxHeartbeats 40000000 in
theorem rm1 (l : Launch) (Z : State) (a0 : Array Value) (hw : ∀ d ∈ tables_1, d.before a0 Z = true) (ws : List Jvm.Cond) (a1 : Addr) (x1 x2 : UInt64) (h0 : Heap) (n0 : Nat) (Z0 : n0 ≤ h0.size) (F1 : Fld Z h0 a1 "com/example/peptides_to_proteins/peptidestoproteins/Range" "low" "D" (.double 0)) (F2 : Fld Z h0 a1 "com/example/peptides_to_proteins/peptidestoproteins/Range" "high" "D" (.double 0)) (E1 : Exa Z h0 a1 "com/example/peptides_to_proteins/peptidestoproteins/Range") (g1 : n0 ≤ a1) (hc1 : ifCond.holds .lt (cmpValue (FP.dcmp x1 0) .l) = false) (hc2 : ifCond.holds .gt (cmpValue (FP.dcmp x1 x2) .g) = false) (hc3 : ifCond.holds .lt (cmpValue (FP.dcmp x2 9218868437227405312) .g) = true) :
    MetFree l (⟨"com/example/peptides_to_proteins/peptidestoproteins/Range", "<init>", "(DD)V"⟩ : MethodName) (head1 (Jvm.Cond.code (⟨"com/example/peptides_to_proteins/peptidestoproteins/Range", "<init>", "(DD)V"⟩ : MethodName) prog_20_method_1_code 5 none :: ws) ({ frames := 1, cells := 0, slots := 0, locals := 12 } : Room)) (fun a U => a = #[(.ref a1), (.double x1), (.double x2)] ∧ Z.Warmed39 U.vm ∧ U.heap = h0) (fun _ _ _ _ _ => True) (fun _ U o U' => ∃ v L, o = .returned v ∧ Q1 Z a1 x1 x2 h0 n0 v U'.heap L ∧ FrameEnd U o U' L ({ frames := 1, cells := 0, slots := 0, locals := 12 } : Room).cells ({ frames := 1, cells := 0, slots := 0, locals := 12 } : Room).slots) := by
  refine MetFree.of_bodySF (plainFor_of_name pn0) hisR ?_
  intro p e s m args below meth c s₁ Bd hml0 hP hK
  obtain ⟨rfl, hZ, hh⟩ := hP
  have hx := Bd.exec
  have hby := Bd.bytes
  have hml : c.maxLocals = 5 := hml0
  have hown : s.vm.findClass "com/example/peptides_to_proteins/peptidestoproteins/Range" = some m.cls := findClass_of_methodNamed Bd.named
  have hnm := (name_of_methodNamed Bd.named Bd.method).1
  have X0 : Stand p l e ({ frames := 1, cells := 0, slots := 0, locals := 12 } : Room) s m #[(.ref a1), (.double x1), (.double x2)] below meth c s₁ [] 0 0 := Stand.of_body Bd
  have e0 : s₁.heap = h0 := by rw [← hh, Bd.state]; rfl
  have N0 := Fr.nil n0
  have pre0 : ∀ t, Steps p.tables e below (s₁.setTop (mkF m 0 #[.val (.ref a1), .val (.double x1), .second, .val (.double x2), .second] [])) t → Steps p.tables e below (s₁.setTop (entryFrame m #[(.ref a1), (.double x1), (.double x2)] 5)) t := fun t k => castTop (ef1 m a1 x1 x2) k
  have C1 : ∀ t, Steps p.tables e below (s₁.setTop (mkF m 1 #[.val (.ref a1), .val (.double x1), .second, .val (.double x2), .second] [(.ref a1)])) t → Steps p.tables e below (s₁.setTop (entryFrame m #[(.ref a1), (.double x1), (.double x2)] 5)) t := by
    intro t k
    refine pre0 t ?_
    show Steps p.tables e below (s₁.setTop (mkF m 0 #[.val (.ref a1), .val (.double x1), .second, .val (.double x2), .second] [])) _
    refine XS.aloadN X0.here hx rfl (hb hby d1_0) rfl rfl ?_
    exact k
  obtain ⟨T2, X2, e2, st2⟩ := initO X0 hx hZ hown (hw _ (List.mem_of_getElem? (i := 9) rfl)) (hw _ (List.mem_of_getElem? (i := 10) rfl)) (hw _ (List.mem_of_getElem? (i := 11) rfl)) e0 (g := (mkF m 1 #[.val (.ref a1), .val (.double x1), .second, .val (.double x2), .second] [(.ref a1)])) rfl (by rw [hml]; rfl) rfl (hb hby d1_1) (by decide) (W := 0) (by show 2 * 0 + _ ≤ _; exact Nat.le_of_eq rfl) (by decide)
  have C2 : ∀ t, Steps p.tables e below (T2.setTop (mkF m 4 #[.val (.ref a1), .val (.double x1), .second, .val (.double x2), .second] [])) t → Steps p.tables e below (s₁.setTop (entryFrame m #[(.ref a1), (.double x1), (.double x2)] 5)) t := fun t k => C1 t (st2 t k)
  have C3 : ∀ t, Steps p.tables e below (T2.setTop (mkF m 41 #[.val (.ref a1), .val (.double x1), .second, .val (.double x2), .second] [(.double x1), (.ref a1)])) t → Steps p.tables e below (s₁.setTop (entryFrame m #[(.ref a1), (.double x1), (.double x2)] 5)) t := by
    intro t k
    refine C2 t ?_
    show Steps p.tables e below (T2.setTop (mkF m 4 #[.val (.ref a1), .val (.double x1), .second, .val (.double x2), .second] [])) _
    refine XS.dloadN X2.here hx rfl (hb hby d1_4) rfl ?_
    show Steps p.tables e below (T2.setTop (mkF m 5 #[.val (.ref a1), .val (.double x1), .second, .val (.double x2), .second] [(.double x1)])) _
    refine XS.dconst0 X2.here hx rfl (hb hby d1_5) (v := 0) rfl ?_
    show Steps p.tables e below (T2.setTop (mkF m 6 #[.val (.ref a1), .val (.double x1), .second, .val (.double x2), .second] [(.double 0), (.double x1)])) _
    refine XS.dcmpS X2.here hx rfl (hb hby d1_6) rfl rfl ?_
    show Steps p.tables e below (T2.setTop (mkF m 7 #[.val (.ref a1), .val (.double x1), .second, .val (.double x2), .second] [(.int (cmpValue (FP.dcmp x1 0) .l))])) _
    refine XS.ifNo X2.here hx rfl (hb hby d1_7) rfl hc1 ?_
    show Steps p.tables e below (T2.setTop (mkF m 10 #[.val (.ref a1), .val (.double x1), .second, .val (.double x2), .second] [])) _
    refine XS.dloadN X2.here hx rfl (hb hby d1_10) rfl ?_
    show Steps p.tables e below (T2.setTop (mkF m 11 #[.val (.ref a1), .val (.double x1), .second, .val (.double x2), .second] [(.double x1)])) _
    refine XS.dloadN X2.here hx rfl (hb hby d1_11) rfl ?_
    show Steps p.tables e below (T2.setTop (mkF m 12 #[.val (.ref a1), .val (.double x1), .second, .val (.double x2), .second] [(.double x2), (.double x1)])) _
    refine XS.dcmpS X2.here hx rfl (hb hby d1_12) rfl rfl ?_
    show Steps p.tables e below (T2.setTop (mkF m 13 #[.val (.ref a1), .val (.double x1), .second, .val (.double x2), .second] [(.int (cmpValue (FP.dcmp x1 x2) .g))])) _
    refine XS.ifNo X2.here hx rfl (hb hby d1_13) rfl hc2 ?_
    show Steps p.tables e below (T2.setTop (mkF m 16 #[.val (.ref a1), .val (.double x1), .second, .val (.double x2), .second] [])) _
    refine XS.dloadN X2.here hx rfl (hb hby d1_16) rfl ?_
    show Steps p.tables e below (T2.setTop (mkF m 17 #[.val (.ref a1), .val (.double x1), .second, .val (.double x2), .second] [(.double x2)])) _
    refine X2.ldc2DoubleC hx hown (mvT hZ (hw _ (List.mem_of_getElem? (i := 12) rfl))) (g := (mkF m 17 #[.val (.ref a1), .val (.double x1), .second, .val (.double x2), .second] [(.double x2)])) rfl (hb hby d1_17) _ ?_
    show Steps p.tables e below (T2.setTop (mkF m 20 #[.val (.ref a1), .val (.double x1), .second, .val (.double x2), .second] [(.double 9218868437227405312), (.double x2)])) _
    refine XS.dcmpS X2.here hx rfl (hb hby d1_20) rfl rfl ?_
    show Steps p.tables e below (T2.setTop (mkF m 21 #[.val (.ref a1), .val (.double x1), .second, .val (.double x2), .second] [(.int (cmpValue (FP.dcmp x2 9218868437227405312) .g))])) _
    refine XS.ifYes X2.here hx rfl (pc0 := 21) (pc' := 39) rfl (hb hby d1_21) rfl hc3 (by decide) (by decide) ?_
    show Steps p.tables e below (T2.setTop (mkF m 39 #[.val (.ref a1), .val (.double x1), .second, .val (.double x2), .second] [])) _
    refine XS.aloadN X2.here hx rfl (hb hby d1_39) rfl rfl ?_
    show Steps p.tables e below (T2.setTop (mkF m 40 #[.val (.ref a1), .val (.double x1), .second, .val (.double x2), .second] [(.ref a1)])) _
    refine XS.dloadN X2.here hx rfl (hb hby d1_40) rfl ?_
    exact k
  obtain ⟨T4, h4, X4, e4, W4, st4⟩ := putF X2 hx hZ hown (host := "") (Or.inl (hw _ (List.mem_of_getElem? (i := 13) rfl))) Via.refl e2 F1 E1 (Or.inr ⟨(hw _ (List.mem_of_getElem? (i := 14) rfl)), rfl, hnm⟩) (hw _ (List.mem_of_getElem? (i := 3) rfl)) (ty := .double) (by decide) rfl rfl (g := (mkF m 41 #[.val (.ref a1), .val (.double x1), .second, .val (.double x2), .second] [(.double x1), (.ref a1)])) rfl rfl (hb hby d1_41)
  have N4 := Fr.snoc X4 N0 g1
  have C4 : ∀ t, Steps p.tables e below (T4.setTop (mkF m 44 #[.val (.ref a1), .val (.double x1), .second, .val (.double x2), .second] [])) t → Steps p.tables e below (s₁.setTop (entryFrame m #[(.ref a1), (.double x1), (.double x2)] 5)) t := fun t k => C3 t (st4 t k)
  have Fh : Fld Z h4 a1 "com/example/peptides_to_proteins/peptidestoproteins/Range" "high" "D" (.double 0) := F2.other W4 (Or.inr (slot_ne (Or.inr (hw _ (List.mem_of_getElem? (i := 16) rfl))) (Or.inr (hw _ (List.mem_of_getElem? (i := 14) rfl))) (by decide) (t := .double) (t' := .double) (by decide) (by decide)))
  have C5 : ∀ t, Steps p.tables e below (T4.setTop (mkF m 46 #[.val (.ref a1), .val (.double x1), .second, .val (.double x2), .second] [(.double x2), (.ref a1)])) t → Steps p.tables e below (s₁.setTop (entryFrame m #[(.ref a1), (.double x1), (.double x2)] 5)) t := by
    intro t k
    refine C4 t ?_
    show Steps p.tables e below (T4.setTop (mkF m 44 #[.val (.ref a1), .val (.double x1), .second, .val (.double x2), .second] [])) _
    refine XS.aloadN X4.here hx rfl (hb hby d1_44) rfl rfl ?_
    show Steps p.tables e below (T4.setTop (mkF m 45 #[.val (.ref a1), .val (.double x1), .second, .val (.double x2), .second] [(.ref a1)])) _
    refine XS.dloadN X4.here hx rfl (hb hby d1_45) rfl ?_
    exact k
  obtain ⟨T6, h6, X6, e6, W6, st6⟩ := putF X4 hx hZ hown (host := "") (Or.inl (hw _ (List.mem_of_getElem? (i := 15) rfl))) Via.refl e4 Fh (E1.wr W4) (Or.inr ⟨(hw _ (List.mem_of_getElem? (i := 16) rfl)), rfl, hnm⟩) (hw _ (List.mem_of_getElem? (i := 3) rfl)) (ty := .double) (by decide) rfl rfl (g := (mkF m 46 #[.val (.ref a1), .val (.double x1), .second, .val (.double x2), .second] [(.double x2), (.ref a1)])) rfl rfl (hb hby d1_46)
  have N6 := Fr.snoc X6 N4 g1
  have C6 : ∀ t, Steps p.tables e below (T6.setTop (mkF m 49 #[.val (.ref a1), .val (.double x1), .second, .val (.double x2), .second] [])) t → Steps p.tables e below (s₁.setTop (entryFrame m #[(.ref a1), (.double x1), (.double x2)] 5)) t := fun t k => C5 t (st6 t k)
  have Flo : Fld Z h6 a1 "com/example/peptides_to_proteins/peptidestoproteins/Range" "low" "D" (.double x1) := (F1.same W4).other W6 (Or.inr (slot_ne (Or.inr (hw _ (List.mem_of_getElem? (i := 14) rfl))) (Or.inr (hw _ (List.mem_of_getElem? (i := 16) rfl))) (by decide) (t := .double) (t' := .double) (by decide) (by decide)))
  have Fhi : Fld Z h6 a1 "com/example/peptides_to_proteins/peptidestoproteins/Range" "high" "D" (.double x2) := Fh.same W6
  have K : Keep h0 h6 [a1] := ((Keep.refl _ _).wr W4 (Or.inl (List.mem_of_getElem? (i := 0) rfl))).wr W6 (Or.inl (List.mem_of_getElem? (i := 0) rfl))
  obtain ⟨fs, hr, hrun, hended, hW, hsame⟩ := X6.leave (v := none) (fun _ => rfl)
  refine ⟨_, _, C6 _ ?_, hrun, hended, _, _, rfl, ?_, ⟨_, rfl⟩, hW, hsame.mono (by decide) (by decide)⟩
  · show Steps p.tables e below (T6.setTop (mkF m 49 #[.val (.ref a1), .val (.double x1), .second, .val (.double x2), .second] [])) _
    exact X6.returnOut hx Bd.returns (hb hby d1_49) hr
  · show Q1 Z a1 x1 x2 h0 n0 _ T6.heap _
    rw [e6]
    exact ⟨rfl, N6, K, (E1.wr W4).wr W6, Flo, Fhi⟩
def Q3 (Z : State) (a1 : Addr) (x3 : UInt64) (r : Int32) (h0 : Heap) (n0 : Nat) (v : Option Value) (h : Heap) (L : List Loc) : Prop := v = some (.int r) ∧ Fr n0 L ∧ h = h0
theorem ef3 (m : MethodId) (x0 : Addr) (x1 : UInt64) : entryFrame m #[(.ref x0), (.double x1)] 3 = mkF m 0 #[.val (.ref x0), .val (.double x1), .second] [] := by first | (simp [entryFrame, mkF, argsToLocals, Value.category]; done) | rfl
theorem d3_0 : decode prog_20_method_5_code 0 = .ok (.dload_n 1, 1) := by decide +kernel
theorem d3_1 : decode prog_20_method_5_code 1 = .ok (.aload_n 0, 1) := by decide +kernel
theorem d3_2 : decode prog_20_method_5_code 2 = .ok (.getfield 20, 3) := by decide +kernel
theorem d3_5 : decode prog_20_method_5_code 5 = .ok (.dcmp .l, 1) := by decide +kernel
theorem d3_6 : decode prog_20_method_5_code 6 = .ok (.ifCond .lt 16, 3) := by decide +kernel
theorem d3_9 : decode prog_20_method_5_code 9 = .ok (.dload_n 1, 1) := by decide +kernel
theorem d3_10 : decode prog_20_method_5_code 10 = .ok (.aload_n 0, 1) := by decide +kernel
theorem d3_11 : decode prog_20_method_5_code 11 = .ok (.getfield 26, 3) := by decide +kernel
theorem d3_14 : decode prog_20_method_5_code 14 = .ok (.dcmp .g, 1) := by decide +kernel
theorem d3_15 : decode prog_20_method_5_code 15 = .ok (.ifCond .gt 7, 3) := by decide +kernel
theorem d3_18 : decode prog_20_method_5_code 18 = .ok (.iconst 1, 1) := by decide +kernel
theorem d3_19 : decode prog_20_method_5_code 19 = .ok (.goto 4, 3) := by decide +kernel
theorem d3_22 : decode prog_20_method_5_code 22 = .ok (.iconst 0, 1) := by decide +kernel
theorem d3_23 : decode prog_20_method_5_code 23 = .ok (.ireturn, 1) := by decide +kernel
set_option maxRecDepth 65536 in
set_option maxHeartbeats 40000000 in
theorem rm3 (l : Launch) (Z : State) (a0 : Array Value) (hw : ∀ d ∈ tables_1, d.before a0 Z = true) (ws : List Jvm.Cond) (a1 : Addr) (x1 x2 x3 : UInt64) (r : Int32) (h0 : Heap) (n0 : Nat) (Z0 : n0 ≤ h0.size) (F1 : Fld Z h0 a1 "com/example/peptides_to_proteins/peptidestoproteins/Range" "low" "D" (.double x1)) (F2 : Fld Z h0 a1 "com/example/peptides_to_proteins/peptidestoproteins/Range" "high" "D" (.double x2)) (hr : (ifCond.holds .lt (cmpValue (FP.dcmp x3 x1) .l) = false ∧ ifCond.holds .gt (cmpValue (FP.dcmp x3 x2) .g) = false ∧ r = 1) ∨ (ifCond.holds .lt (cmpValue (FP.dcmp x3 x1) .l) = true ∧ r = 0) ∨ (ifCond.holds .lt (cmpValue (FP.dcmp x3 x1) .l) = false ∧ ifCond.holds .gt (cmpValue (FP.dcmp x3 x2) .g) = true ∧ r = 0)) :
    MetFree l (⟨"com/example/peptides_to_proteins/peptidestoproteins/Range", "contains", "(D)Z"⟩ : MethodName) (head1 (Jvm.Cond.code (⟨"com/example/peptides_to_proteins/peptidestoproteins/Range", "contains", "(D)Z"⟩ : MethodName) prog_20_method_5_code 3 (some .boolean) :: ws) ({ frames := 0, cells := 0, slots := 0, locals := 0 } : Room)) (fun a U => a = #[(.ref a1), (.double x3)] ∧ Z.Warmed39 U.vm ∧ U.heap = h0) (fun _ _ _ _ _ => True) (fun _ U o U' => ∃ v L, o = .returned v ∧ Q3 Z a1 x3 r h0 n0 v U'.heap L ∧ FrameEnd U o U' L ({ frames := 0, cells := 0, slots := 0, locals := 0 } : Room).cells ({ frames := 0, cells := 0, slots := 0, locals := 0 } : Room).slots) := by
  refine MetFree.of_bodySF (plainFor_of_name pn0) hisR ?_
  intro p e s m args below meth c s₁ Bd hml0 hP hK
  obtain ⟨rfl, hZ, hh⟩ := hP
  have hx := Bd.exec
  have hby := Bd.bytes
  have hml : c.maxLocals = 3 := hml0
  have hown : s.vm.findClass "com/example/peptides_to_proteins/peptidestoproteins/Range" = some m.cls := findClass_of_methodNamed Bd.named
  have hnm := (name_of_methodNamed Bd.named Bd.method).1
  have X0 : Stand p l e ({ frames := 0, cells := 0, slots := 0, locals := 0 } : Room) s m #[(.ref a1), (.double x3)] below meth c s₁ [] 0 0 := Stand.of_body Bd
  have e0 : s₁.heap = h0 := by rw [← hh, Bd.state]; rfl
  have N0 := Fr.nil n0
  have pre0 : ∀ t, Steps p.tables e below (s₁.setTop (mkF m 0 #[.val (.ref a1), .val (.double x3), .second] [])) t → Steps p.tables e below (s₁.setTop (entryFrame m #[(.ref a1), (.double x3)] 3)) t := fun t k => castTop (ef3 m a1 x3) k
  rcases hr with ⟨hc1, hc2, rfl⟩ | ⟨hc1, rfl⟩ | ⟨hc1, hc2, rfl⟩
  · have C7 : ∀ t, Steps p.tables e below (s₁.setTop (mkF m 2 #[.val (.ref a1), .val (.double x3), .second] [(.ref a1), (.double x3)])) t → Steps p.tables e below (s₁.setTop (entryFrame m #[(.ref a1), (.double x3)] 3)) t := by
      intro t k
      refine pre0 t ?_
      show Steps p.tables e below (s₁.setTop (mkF m 0 #[.val (.ref a1), .val (.double x3), .second] [])) _
      refine XS.dloadN X0.here hx rfl (hb hby d3_0) rfl ?_
      show Steps p.tables e below (s₁.setTop (mkF m 1 #[.val (.ref a1), .val (.double x3), .second] [(.double x3)])) _
      refine XS.aloadN X0.here hx rfl (hb hby d3_1) rfl rfl ?_
      exact k
    obtain ⟨T8, X8, e8, st8⟩ := getF X0 hx hZ hown (host := "") (Or.inl (hw _ (List.mem_of_getElem? (i := 13) rfl))) Via.refl e0 F1 (g := (mkF m 2 #[.val (.ref a1), .val (.double x3), .second] [(.ref a1), (.double x3)])) rfl rfl (hb hby d3_2)
    have C8 : ∀ t, Steps p.tables e below (T8.setTop (mkF m 5 #[.val (.ref a1), .val (.double x3), .second] [(.double x1), (.double x3)])) t → Steps p.tables e below (s₁.setTop (entryFrame m #[(.ref a1), (.double x3)] 3)) t := fun t k => C7 t (st8 t k)
    have C9 : ∀ t, Steps p.tables e below (T8.setTop (mkF m 11 #[.val (.ref a1), .val (.double x3), .second] [(.ref a1), (.double x3)])) t → Steps p.tables e below (s₁.setTop (entryFrame m #[(.ref a1), (.double x3)] 3)) t := by
      intro t k
      refine C8 t ?_
      show Steps p.tables e below (T8.setTop (mkF m 5 #[.val (.ref a1), .val (.double x3), .second] [(.double x1), (.double x3)])) _
      refine XS.dcmpS X8.here hx rfl (hb hby d3_5) rfl rfl ?_
      show Steps p.tables e below (T8.setTop (mkF m 6 #[.val (.ref a1), .val (.double x3), .second] [(.int (cmpValue (FP.dcmp x3 x1) .l))])) _
      refine XS.ifNo X8.here hx rfl (hb hby d3_6) rfl hc1 ?_
      show Steps p.tables e below (T8.setTop (mkF m 9 #[.val (.ref a1), .val (.double x3), .second] [])) _
      refine XS.dloadN X8.here hx rfl (hb hby d3_9) rfl ?_
      show Steps p.tables e below (T8.setTop (mkF m 10 #[.val (.ref a1), .val (.double x3), .second] [(.double x3)])) _
      refine XS.aloadN X8.here hx rfl (hb hby d3_10) rfl rfl ?_
      exact k
    obtain ⟨T10, X10, e10, st10⟩ := getF X8 hx hZ hown (host := "") (Or.inl (hw _ (List.mem_of_getElem? (i := 15) rfl))) Via.refl e8 F2 (g := (mkF m 11 #[.val (.ref a1), .val (.double x3), .second] [(.ref a1), (.double x3)])) rfl rfl (hb hby d3_11)
    have C10 : ∀ t, Steps p.tables e below (T10.setTop (mkF m 14 #[.val (.ref a1), .val (.double x3), .second] [(.double x2), (.double x3)])) t → Steps p.tables e below (s₁.setTop (entryFrame m #[(.ref a1), (.double x3)] 3)) t := fun t k => C9 t (st10 t k)
    have C11 : ∀ t, Steps p.tables e below (T10.setTop (mkF m 23 #[.val (.ref a1), .val (.double x3), .second] [(.int (1 : Int32))])) t → Steps p.tables e below (s₁.setTop (entryFrame m #[(.ref a1), (.double x3)] 3)) t := by
      intro t k
      refine C10 t ?_
      show Steps p.tables e below (T10.setTop (mkF m 14 #[.val (.ref a1), .val (.double x3), .second] [(.double x2), (.double x3)])) _
      refine XS.dcmpS X10.here hx rfl (hb hby d3_14) rfl rfl ?_
      show Steps p.tables e below (T10.setTop (mkF m 15 #[.val (.ref a1), .val (.double x3), .second] [(.int (cmpValue (FP.dcmp x3 x2) .g))])) _
      refine XS.ifNo X10.here hx rfl (hb hby d3_15) rfl hc2 ?_
      show Steps p.tables e below (T10.setTop (mkF m 18 #[.val (.ref a1), .val (.double x3), .second] [])) _
      refine XS.iconst X10.here hx rfl (hb hby d3_18) ?_
      show Steps p.tables e below (T10.setTop (mkF m 19 #[.val (.ref a1), .val (.double x3), .second] [(.int (1 : Int32))])) _
      refine XS.goto X10.here hx rfl (pc0 := 19) (pc' := 23) rfl (hb hby d3_19) (by decide) (by decide) ?_
      exact k
    obtain ⟨fs, hr, hrun, hended, hW, hsame⟩ := X10.leave (v := some (.int (1 : Int32))) (fun h => by rw [Bd.returns] at h; cases h)
    refine ⟨_, _, C11 _ ?_, hrun, hended, _, _, rfl, ?_, ⟨_, rfl⟩, hW, hsame.mono (by decide) (by decide)⟩
    · show Steps p.tables e below (T10.setTop (mkF m 23 #[.val (.ref a1), .val (.double x3), .second] [(.int (1 : Int32))])) _
      exact retN X10 hx (t := .boolean) Bd.returns (by simp) (hb hby d3_23) hr
    · show Q3 Z a1 x3 (1 : Int32) h0 n0 _ T10.heap _
      rw [e10]
      exact ⟨rfl, N0, rfl⟩
  · have C12 : ∀ t, Steps p.tables e below (s₁.setTop (mkF m 2 #[.val (.ref a1), .val (.double x3), .second] [(.ref a1), (.double x3)])) t → Steps p.tables e below (s₁.setTop (entryFrame m #[(.ref a1), (.double x3)] 3)) t := by
      intro t k
      refine pre0 t ?_
      show Steps p.tables e below (s₁.setTop (mkF m 0 #[.val (.ref a1), .val (.double x3), .second] [])) _
      refine XS.dloadN X0.here hx rfl (hb hby d3_0) rfl ?_
      show Steps p.tables e below (s₁.setTop (mkF m 1 #[.val (.ref a1), .val (.double x3), .second] [(.double x3)])) _
      refine XS.aloadN X0.here hx rfl (hb hby d3_1) rfl rfl ?_
      exact k
    obtain ⟨T13, X13, e13, st13⟩ := getF X0 hx hZ hown (host := "") (Or.inl (hw _ (List.mem_of_getElem? (i := 13) rfl))) Via.refl e0 F1 (g := (mkF m 2 #[.val (.ref a1), .val (.double x3), .second] [(.ref a1), (.double x3)])) rfl rfl (hb hby d3_2)
    have C13 : ∀ t, Steps p.tables e below (T13.setTop (mkF m 5 #[.val (.ref a1), .val (.double x3), .second] [(.double x1), (.double x3)])) t → Steps p.tables e below (s₁.setTop (entryFrame m #[(.ref a1), (.double x3)] 3)) t := fun t k => C12 t (st13 t k)
    have C14 : ∀ t, Steps p.tables e below (T13.setTop (mkF m 23 #[.val (.ref a1), .val (.double x3), .second] [(.int (0 : Int32))])) t → Steps p.tables e below (s₁.setTop (entryFrame m #[(.ref a1), (.double x3)] 3)) t := by
      intro t k
      refine C13 t ?_
      show Steps p.tables e below (T13.setTop (mkF m 5 #[.val (.ref a1), .val (.double x3), .second] [(.double x1), (.double x3)])) _
      refine XS.dcmpS X13.here hx rfl (hb hby d3_5) rfl rfl ?_
      show Steps p.tables e below (T13.setTop (mkF m 6 #[.val (.ref a1), .val (.double x3), .second] [(.int (cmpValue (FP.dcmp x3 x1) .l))])) _
      refine XS.ifYes X13.here hx rfl (pc0 := 6) (pc' := 22) rfl (hb hby d3_6) rfl hc1 (by decide) (by decide) ?_
      show Steps p.tables e below (T13.setTop (mkF m 22 #[.val (.ref a1), .val (.double x3), .second] [])) _
      refine XS.iconst X13.here hx rfl (hb hby d3_22) ?_
      exact k
    obtain ⟨fs, hr, hrun, hended, hW, hsame⟩ := X13.leave (v := some (.int (0 : Int32))) (fun h => by rw [Bd.returns] at h; cases h)
    refine ⟨_, _, C14 _ ?_, hrun, hended, _, _, rfl, ?_, ⟨_, rfl⟩, hW, hsame.mono (by decide) (by decide)⟩
    · show Steps p.tables e below (T13.setTop (mkF m 23 #[.val (.ref a1), .val (.double x3), .second] [(.int (0 : Int32))])) _
      exact retN X13 hx (t := .boolean) Bd.returns (by simp) (hb hby d3_23) hr
    · show Q3 Z a1 x3 (0 : Int32) h0 n0 _ T13.heap _
      rw [e13]
      exact ⟨rfl, N0, rfl⟩
  · have C15 : ∀ t, Steps p.tables e below (s₁.setTop (mkF m 2 #[.val (.ref a1), .val (.double x3), .second] [(.ref a1), (.double x3)])) t → Steps p.tables e below (s₁.setTop (entryFrame m #[(.ref a1), (.double x3)] 3)) t := by
      intro t k
      refine pre0 t ?_
      show Steps p.tables e below (s₁.setTop (mkF m 0 #[.val (.ref a1), .val (.double x3), .second] [])) _
      refine XS.dloadN X0.here hx rfl (hb hby d3_0) rfl ?_
      show Steps p.tables e below (s₁.setTop (mkF m 1 #[.val (.ref a1), .val (.double x3), .second] [(.double x3)])) _
      refine XS.aloadN X0.here hx rfl (hb hby d3_1) rfl rfl ?_
      exact k
    obtain ⟨T16, X16, e16, st16⟩ := getF X0 hx hZ hown (host := "") (Or.inl (hw _ (List.mem_of_getElem? (i := 13) rfl))) Via.refl e0 F1 (g := (mkF m 2 #[.val (.ref a1), .val (.double x3), .second] [(.ref a1), (.double x3)])) rfl rfl (hb hby d3_2)
    have C16 : ∀ t, Steps p.tables e below (T16.setTop (mkF m 5 #[.val (.ref a1), .val (.double x3), .second] [(.double x1), (.double x3)])) t → Steps p.tables e below (s₁.setTop (entryFrame m #[(.ref a1), (.double x3)] 3)) t := fun t k => C15 t (st16 t k)
    have C17 : ∀ t, Steps p.tables e below (T16.setTop (mkF m 11 #[.val (.ref a1), .val (.double x3), .second] [(.ref a1), (.double x3)])) t → Steps p.tables e below (s₁.setTop (entryFrame m #[(.ref a1), (.double x3)] 3)) t := by
      intro t k
      refine C16 t ?_
      show Steps p.tables e below (T16.setTop (mkF m 5 #[.val (.ref a1), .val (.double x3), .second] [(.double x1), (.double x3)])) _
      refine XS.dcmpS X16.here hx rfl (hb hby d3_5) rfl rfl ?_
      show Steps p.tables e below (T16.setTop (mkF m 6 #[.val (.ref a1), .val (.double x3), .second] [(.int (cmpValue (FP.dcmp x3 x1) .l))])) _
      refine XS.ifNo X16.here hx rfl (hb hby d3_6) rfl hc1 ?_
      show Steps p.tables e below (T16.setTop (mkF m 9 #[.val (.ref a1), .val (.double x3), .second] [])) _
      refine XS.dloadN X16.here hx rfl (hb hby d3_9) rfl ?_
      show Steps p.tables e below (T16.setTop (mkF m 10 #[.val (.ref a1), .val (.double x3), .second] [(.double x3)])) _
      refine XS.aloadN X16.here hx rfl (hb hby d3_10) rfl rfl ?_
      exact k
    obtain ⟨T18, X18, e18, st18⟩ := getF X16 hx hZ hown (host := "") (Or.inl (hw _ (List.mem_of_getElem? (i := 15) rfl))) Via.refl e16 F2 (g := (mkF m 11 #[.val (.ref a1), .val (.double x3), .second] [(.ref a1), (.double x3)])) rfl rfl (hb hby d3_11)
    have C18 : ∀ t, Steps p.tables e below (T18.setTop (mkF m 14 #[.val (.ref a1), .val (.double x3), .second] [(.double x2), (.double x3)])) t → Steps p.tables e below (s₁.setTop (entryFrame m #[(.ref a1), (.double x3)] 3)) t := fun t k => C17 t (st18 t k)
    have C19 : ∀ t, Steps p.tables e below (T18.setTop (mkF m 23 #[.val (.ref a1), .val (.double x3), .second] [(.int (0 : Int32))])) t → Steps p.tables e below (s₁.setTop (entryFrame m #[(.ref a1), (.double x3)] 3)) t := by
      intro t k
      refine C18 t ?_
      show Steps p.tables e below (T18.setTop (mkF m 14 #[.val (.ref a1), .val (.double x3), .second] [(.double x2), (.double x3)])) _
      refine XS.dcmpS X18.here hx rfl (hb hby d3_14) rfl rfl ?_
      show Steps p.tables e below (T18.setTop (mkF m 15 #[.val (.ref a1), .val (.double x3), .second] [(.int (cmpValue (FP.dcmp x3 x2) .g))])) _
      refine XS.ifYes X18.here hx rfl (pc0 := 15) (pc' := 22) rfl (hb hby d3_15) rfl hc2 (by decide) (by decide) ?_
      show Steps p.tables e below (T18.setTop (mkF m 22 #[.val (.ref a1), .val (.double x3), .second] [])) _
      refine XS.iconst X18.here hx rfl (hb hby d3_22) ?_
      exact k
    obtain ⟨fs, hr, hrun, hended, hW, hsame⟩ := X18.leave (v := some (.int (0 : Int32))) (fun h => by rw [Bd.returns] at h; cases h)
    refine ⟨_, _, C19 _ ?_, hrun, hended, _, _, rfl, ?_, ⟨_, rfl⟩, hW, hsame.mono (by decide) (by decide)⟩
    · show Steps p.tables e below (T18.setTop (mkF m 23 #[.val (.ref a1), .val (.double x3), .second] [(.int (0 : Int32))])) _
      exact retN X18 hx (t := .boolean) Bd.returns (by simp) (hb hby d3_23) hr
    · show Q3 Z a1 x3 (0 : Int32) h0 n0 _ T18.heap _
      rw [e18]
      exact ⟨rfl, N0, rfl⟩
theorem pd0 : parseMethodDescriptor "(DD)V" = some ⟨[.double, .double], none⟩ := by decide +kernel
theorem pd1 : parseMethodDescriptor "(D)Z" = some ⟨[.double], some .boolean⟩ := by decide +kernel
def Q0 (Z : State) (p1 p2 p3 p4 : Int32) (h0 : Heap) (n0 : Nat) (v : Option Value) (h : Heap) (L : List Loc) : Prop := v = some (.int 1) ∧ Fr n0 L
theorem own_c1 {a : Int32} (h : 0 ≤ a.toInt) : ifCond.holds .lt (cmpValue (FP.dcmp (FP.ddiv (FP.i2d a) 4611686018427387904) 0) .l) = false := by
  rw [own_half_cmp0]
  rcases Int.lt_or_eq_of_le h with h | h
  · rw [(Jvm.FP.Core.compare_gt_iff _ _).mpr h]; rfl
  · rw [(Jvm.FP.Core.compare_eq_iff _ _).mpr h.symm]; rfl
theorem own_c2 {a b : Int32} (h : a.toInt ≤ b.toInt) : ifCond.holds .gt (cmpValue (FP.dcmp (FP.ddiv (FP.i2d a) 4611686018427387904) (FP.ddiv (FP.i2d b) 4611686018427387904)) .g) = false := by
  rw [own_half_cmp]
  rcases Int.lt_or_eq_of_le h with h | h
  · rw [(Jvm.FP.Core.compare_lt_iff _ _).mpr h]; rfl
  · rw [(Jvm.FP.Core.compare_eq_iff _ _).mpr h]; rfl
theorem own_c3 (a : Int32) : ifCond.holds .lt (cmpValue (FP.dcmp (FP.ddiv (FP.i2d a) 4611686018427387904) 9218868437227405312) .g) = true := by
  rw [dcmp_pinf (own_half_fin a)]; rfl
theorem own_lt {a b : Int32} (h : a < b) : ifCond.holds .lt (cmpValue (FP.dcmp (FP.ddiv (FP.i2d a) 4611686018427387904) (FP.ddiv (FP.i2d b) 4611686018427387904)) .l) = true := by
  rw [own_half_cmp, (Jvm.FP.Core.compare_lt_iff _ _).mpr (Int32.lt_iff_toInt_lt.mp h)]; rfl
theorem own_nlt {a b : Int32} (h : ¬ a < b) : ifCond.holds .lt (cmpValue (FP.dcmp (FP.ddiv (FP.i2d a) 4611686018427387904) (FP.ddiv (FP.i2d b) 4611686018427387904)) .l) = false := by
  rw [own_half_cmp]
  have h := fun q => h (Int32.lt_iff_toInt_lt.mpr q)
  rcases Int.lt_trichotomy a.toInt b.toInt with q | q | q
  · exact absurd q h
  · rw [(Jvm.FP.Core.compare_eq_iff _ _).mpr q]; rfl
  · rw [(Jvm.FP.Core.compare_gt_iff _ _).mpr q]; rfl
theorem own_gt {a b : Int32} (h : b < a) : ifCond.holds .gt (cmpValue (FP.dcmp (FP.ddiv (FP.i2d a) 4611686018427387904) (FP.ddiv (FP.i2d b) 4611686018427387904)) .g) = true := by
  rw [own_half_cmp, (Jvm.FP.Core.compare_gt_iff _ _).mpr (Int32.lt_iff_toInt_lt.mp h)]; rfl
theorem own_ngt {a b : Int32} (h : ¬ b < a) : ifCond.holds .gt (cmpValue (FP.dcmp (FP.ddiv (FP.i2d a) 4611686018427387904) (FP.ddiv (FP.i2d b) 4611686018427387904)) .g) = false :=
  own_c2 (Int.not_lt.mp fun q => h (Int32.lt_iff_toInt_lt.mpr q))
theorem pn1 : plainName "com/example/peptides_to_proteins/peptidestoproteins/RangeContainsPinLaw" = true := by first | (simp [plainName, overriddenIn]; done) | decide +kernel
theorem ef0 (m : MethodId) (x0 : Int32) (x1 : Int32) (x2 : Int32) (x3 : Int32) : entryFrame m #[(.int x0), (.int x1), (.int x2), (.int x3)] maxLocals = mkF m 0 #[.val (.int x0), .val (.int x1), .val (.int x2), .val (.int x3), .unset, .unset, .unset, .unset, .unset, .unset] [] := by first | (simp [entryFrame, mkF, argsToLocals, Value.category, maxLocals]; done) | rfl
set_option maxRecDepth 65536 in
set_option maxHeartbeats 40000000 in
theorem rm0 (l : Launch) (Z : State) (a0 : Array Value) (hw : ∀ d ∈ tables_1, d.before a0 Z = true) (ws : List Jvm.Cond) (p1 p2 p3 p4 : Int32) (h0 : Heap) (n0 : Nat) (Z0 : n0 ≤ h0.size)  :
    MetFree l x (head1 (Jvm.Cond.code x code maxLocals ret :: ws) room_1) (fun a U => a = #[(.int p1), (.int p2), (.int p3), (.int p4)] ∧ Z.Warmed39 U.vm ∧ U.heap = h0) (fun _ _ _ _ _ => True) (fun _ U o U' => ∃ v L, o = .returned v ∧ Q0 Z p1 p2 p3 p4 h0 n0 v U'.heap L ∧ FrameEnd U o U' L room_1.cells room_1.slots) := by
  refine MetFree.of_bodySF (plainFor_of_name pn1) hisR ?_
  intro p e s m args below meth c s₁ Bd hml0 hP hK
  obtain ⟨rfl, hZ, hh⟩ := hP
  have hx := Bd.exec
  have hby := Bd.bytes
  have hml : c.maxLocals = 10 := hml0
  have hown : s.vm.findClass "com/example/peptides_to_proteins/peptidestoproteins/RangeContainsPinLaw" = some m.cls := findClass_of_methodNamed Bd.named
  have hnm := (name_of_methodNamed Bd.named Bd.method).1
  have X0 : Stand p l e room_1 s m #[(.int p1), (.int p2), (.int p3), (.int p4)] below meth c s₁ [] 0 0 := Stand.of_body Bd
  have e0 : s₁.heap = h0 := by rw [← hh, Bd.state]; rfl
  have N0 := Fr.nil n0
  have pre0 : ∀ t, Steps p.tables e below (s₁.setTop (mkF m 0 #[.val (.int p1), .val (.int p2), .val (.int p3), .val (.int p4), .unset, .unset, .unset, .unset, .unset, .unset] [])) t → Steps p.tables e below (s₁.setTop (entryFrame m #[(.int p1), (.int p2), (.int p3), (.int p4)] maxLocals)) t := fun t k => castTop (ef0 m p1 p2 p3 p4) k
  have C20 : ∀ t, Steps p.tables e below (s₁.setTop (mkF m 25 #[.val (.int p1), .val (.int p2), .val (.int p3), .val (.int p4), .val (.int (p1 &&& (65535 : Int32))), .val (.int ((p1 &&& (65535 : Int32)) + (p2 &&& (65535 : Int32)))), .val (.int ((p4 &&& (2147483647 : Int32)) - ((p4 &&& (2147483647 : Int32)) / (3 : Int32)) * (3 : Int32))), .unset, .unset, .unset] [(.int ((p4 &&& (2147483647 : Int32)) - ((p4 &&& (2147483647 : Int32)) / (3 : Int32)) * (3 : Int32)))])) t → Steps p.tables e below (s₁.setTop (entryFrame m #[(.int p1), (.int p2), (.int p3), (.int p4)] maxLocals)) t := by
    intro t k
    refine pre0 t ?_
    show Steps p.tables e below (s₁.setTop (mkF m 0 #[.val (.int p1), .val (.int p2), .val (.int p3), .val (.int p4), .unset, .unset, .unset, .unset, .unset, .unset] [])) _
    refine XS.iloadN X0.here hx rfl (hb hby at_0) rfl ?_
    show Steps p.tables e below (s₁.setTop (mkF m 1 #[.val (.int p1), .val (.int p2), .val (.int p3), .val (.int p4), .unset, .unset, .unset, .unset, .unset, .unset] [(.int p1)])) _
    refine X0.ldcInt hx hown (mvT hZ (hw _ (List.mem_of_getElem? (i := 0) rfl))) (g := (mkF m 1 #[.val (.int p1), .val (.int p2), .val (.int p3), .val (.int p4), .unset, .unset, .unset, .unset, .unset, .unset] [(.int p1)])) rfl (hb hby at_1) _ ?_
    show Steps p.tables e below (s₁.setTop (mkF m 3 #[.val (.int p1), .val (.int p2), .val (.int p3), .val (.int p4), .unset, .unset, .unset, .unset, .unset, .unset] [(.int (65535 : Int32)), (.int p1)])) _
    refine XS.iand X0.here hx rfl (hb hby at_3) rfl ?_
    show Steps p.tables e below (s₁.setTop (mkF m 4 #[.val (.int p1), .val (.int p2), .val (.int p3), .val (.int p4), .unset, .unset, .unset, .unset, .unset, .unset] [(.int (p1 &&& (65535 : Int32)))])) _
    refine XS.istore X0.here hx rfl (hb hby at_4) rfl (l' := #[.val (.int p1), .val (.int p2), .val (.int p3), .val (.int p4), .val (.int (p1 &&& (65535 : Int32))), .unset, .unset, .unset, .unset, .unset]) rfl ?_
    show Steps p.tables e below (s₁.setTop (mkF m 6 #[.val (.int p1), .val (.int p2), .val (.int p3), .val (.int p4), .val (.int (p1 &&& (65535 : Int32))), .unset, .unset, .unset, .unset, .unset] [])) _
    refine XS.iload X0.here hx rfl (hb hby at_6) rfl ?_
    show Steps p.tables e below (s₁.setTop (mkF m 8 #[.val (.int p1), .val (.int p2), .val (.int p3), .val (.int p4), .val (.int (p1 &&& (65535 : Int32))), .unset, .unset, .unset, .unset, .unset] [(.int (p1 &&& (65535 : Int32)))])) _
    refine XS.iloadN X0.here hx rfl (hb hby at_8) rfl ?_
    show Steps p.tables e below (s₁.setTop (mkF m 9 #[.val (.int p1), .val (.int p2), .val (.int p3), .val (.int p4), .val (.int (p1 &&& (65535 : Int32))), .unset, .unset, .unset, .unset, .unset] [(.int p2), (.int (p1 &&& (65535 : Int32)))])) _
    refine X0.ldcInt hx hown (mvT hZ (hw _ (List.mem_of_getElem? (i := 0) rfl))) (g := (mkF m 9 #[.val (.int p1), .val (.int p2), .val (.int p3), .val (.int p4), .val (.int (p1 &&& (65535 : Int32))), .unset, .unset, .unset, .unset, .unset] [(.int p2), (.int (p1 &&& (65535 : Int32)))])) rfl (hb hby at_9) _ ?_
    show Steps p.tables e below (s₁.setTop (mkF m 11 #[.val (.int p1), .val (.int p2), .val (.int p3), .val (.int p4), .val (.int (p1 &&& (65535 : Int32))), .unset, .unset, .unset, .unset, .unset] [(.int (65535 : Int32)), (.int p2), (.int (p1 &&& (65535 : Int32)))])) _
    refine XS.iand X0.here hx rfl (hb hby at_11) rfl ?_
    show Steps p.tables e below (s₁.setTop (mkF m 12 #[.val (.int p1), .val (.int p2), .val (.int p3), .val (.int p4), .val (.int (p1 &&& (65535 : Int32))), .unset, .unset, .unset, .unset, .unset] [(.int (p2 &&& (65535 : Int32))), (.int (p1 &&& (65535 : Int32)))])) _
    refine XS.iadd X0.here hx rfl (hb hby at_12) rfl ?_
    show Steps p.tables e below (s₁.setTop (mkF m 13 #[.val (.int p1), .val (.int p2), .val (.int p3), .val (.int p4), .val (.int (p1 &&& (65535 : Int32))), .unset, .unset, .unset, .unset, .unset] [(.int ((p1 &&& (65535 : Int32)) + (p2 &&& (65535 : Int32))))])) _
    refine XS.istore X0.here hx rfl (hb hby at_13) rfl (l' := #[.val (.int p1), .val (.int p2), .val (.int p3), .val (.int p4), .val (.int (p1 &&& (65535 : Int32))), .val (.int ((p1 &&& (65535 : Int32)) + (p2 &&& (65535 : Int32)))), .unset, .unset, .unset, .unset]) rfl ?_
    show Steps p.tables e below (s₁.setTop (mkF m 15 #[.val (.int p1), .val (.int p2), .val (.int p3), .val (.int p4), .val (.int (p1 &&& (65535 : Int32))), .val (.int ((p1 &&& (65535 : Int32)) + (p2 &&& (65535 : Int32)))), .unset, .unset, .unset, .unset] [])) _
    refine XS.iloadN X0.here hx rfl (hb hby at_15) rfl ?_
    show Steps p.tables e below (s₁.setTop (mkF m 16 #[.val (.int p1), .val (.int p2), .val (.int p3), .val (.int p4), .val (.int (p1 &&& (65535 : Int32))), .val (.int ((p1 &&& (65535 : Int32)) + (p2 &&& (65535 : Int32)))), .unset, .unset, .unset, .unset] [(.int p4)])) _
    refine X0.ldcInt hx hown (mvT hZ (hw _ (List.mem_of_getElem? (i := 1) rfl))) (g := (mkF m 16 #[.val (.int p1), .val (.int p2), .val (.int p3), .val (.int p4), .val (.int (p1 &&& (65535 : Int32))), .val (.int ((p1 &&& (65535 : Int32)) + (p2 &&& (65535 : Int32)))), .unset, .unset, .unset, .unset] [(.int p4)])) rfl (hb hby at_16) _ ?_
    show Steps p.tables e below (s₁.setTop (mkF m 18 #[.val (.int p1), .val (.int p2), .val (.int p3), .val (.int p4), .val (.int (p1 &&& (65535 : Int32))), .val (.int ((p1 &&& (65535 : Int32)) + (p2 &&& (65535 : Int32)))), .unset, .unset, .unset, .unset] [(.int (2147483647 : Int32)), (.int p4)])) _
    refine XS.iand X0.here hx rfl (hb hby at_18) rfl ?_
    show Steps p.tables e below (s₁.setTop (mkF m 19 #[.val (.int p1), .val (.int p2), .val (.int p3), .val (.int p4), .val (.int (p1 &&& (65535 : Int32))), .val (.int ((p1 &&& (65535 : Int32)) + (p2 &&& (65535 : Int32)))), .unset, .unset, .unset, .unset] [(.int (p4 &&& (2147483647 : Int32)))])) _
    refine XS.iconst X0.here hx rfl (hb hby at_19) ?_
    show Steps p.tables e below (s₁.setTop (mkF m 20 #[.val (.int p1), .val (.int p2), .val (.int p3), .val (.int p4), .val (.int (p1 &&& (65535 : Int32))), .val (.int ((p1 &&& (65535 : Int32)) + (p2 &&& (65535 : Int32)))), .unset, .unset, .unset, .unset] [(.int (3 : Int32)), (.int (p4 &&& (2147483647 : Int32)))])) _
    refine XS.irem X0.here hx rfl (hb hby at_20) rfl (by decide) ?_
    show Steps p.tables e below (s₁.setTop (mkF m 21 #[.val (.int p1), .val (.int p2), .val (.int p3), .val (.int p4), .val (.int (p1 &&& (65535 : Int32))), .val (.int ((p1 &&& (65535 : Int32)) + (p2 &&& (65535 : Int32)))), .unset, .unset, .unset, .unset] [(.int ((p4 &&& (2147483647 : Int32)) - ((p4 &&& (2147483647 : Int32)) / (3 : Int32)) * (3 : Int32)))])) _
    refine XS.istore X0.here hx rfl (hb hby at_21) rfl (l' := #[.val (.int p1), .val (.int p2), .val (.int p3), .val (.int p4), .val (.int (p1 &&& (65535 : Int32))), .val (.int ((p1 &&& (65535 : Int32)) + (p2 &&& (65535 : Int32)))), .val (.int ((p4 &&& (2147483647 : Int32)) - ((p4 &&& (2147483647 : Int32)) / (3 : Int32)) * (3 : Int32))), .unset, .unset, .unset]) rfl ?_
    show Steps p.tables e below (s₁.setTop (mkF m 23 #[.val (.int p1), .val (.int p2), .val (.int p3), .val (.int p4), .val (.int (p1 &&& (65535 : Int32))), .val (.int ((p1 &&& (65535 : Int32)) + (p2 &&& (65535 : Int32)))), .val (.int ((p4 &&& (2147483647 : Int32)) - ((p4 &&& (2147483647 : Int32)) / (3 : Int32)) * (3 : Int32))), .unset, .unset, .unset] [])) _
    refine XS.iload X0.here hx rfl (hb hby at_23) rfl ?_
    exact k
  obtain ⟨lo, h_lo⟩ : ∃ z : Int32, z = (p1 &&& (65535 : Int32)) := ⟨_, rfl⟩
  rw [← h_lo] at C20
  obtain ⟨hi, h_hi⟩ : ∃ z : Int32, z = (lo + (p2 &&& (65535 : Int32))) := ⟨_, rfl⟩
  rw [← h_hi] at C20
  obtain ⟨mo, h_mo⟩ : ∃ z : Int32, z = ((p4 &&& (2147483647 : Int32)) - ((p4 &&& (2147483647 : Int32)) / (3 : Int32)) * (3 : Int32)) := ⟨_, rfl⟩
  rw [← h_mo] at C20
  obtain ⟨v2, C65⟩ : ∃ v2 : Int32, ∀ t, Steps p.tables e below (s₁.setTop (mkF m 65 #[.val (.int p1), .val (.int p2), .val (.int p3), .val (.int p4), .val (.int lo), .val (.int hi), .val (.int mo), .val (.int v2), .unset, .unset] [])) t → Steps p.tables e below (s₁.setTop (entryFrame m #[(.int p1), (.int p2), (.int p3), (.int p4)] maxLocals)) t := by
    by_cases hm : mo = 0
    · refine ⟨p3, ?_⟩
      intro t k
      refine C20 t ?_
      show Steps p.tables e below (s₁.setTop (mkF m 25 #[.val (.int p1), .val (.int p2), .val (.int p3), .val (.int p4), .val (.int lo), .val (.int hi), .val (.int mo), .unset, .unset, .unset] [(.int mo)])) _
      refine XS.ifNo X0.here hx rfl (hb hby at_25) rfl (XT.i0_ne_f hm) ?_
      show Steps p.tables e below (s₁.setTop (mkF m 28 #[.val (.int p1), .val (.int p2), .val (.int p3), .val (.int p4), .val (.int lo), .val (.int hi), .val (.int mo), .unset, .unset, .unset] [])) _
      refine XS.iloadN X0.here hx rfl (hb hby at_28) rfl ?_
      show Steps p.tables e below (s₁.setTop (mkF m 29 #[.val (.int p1), .val (.int p2), .val (.int p3), .val (.int p4), .val (.int lo), .val (.int hi), .val (.int mo), .unset, .unset, .unset] [(.int p3)])) _
      refine XS.istore X0.here hx rfl (hb hby at_29) rfl (l' := #[.val (.int p1), .val (.int p2), .val (.int p3), .val (.int p4), .val (.int lo), .val (.int hi), .val (.int mo), .val (.int p3), .unset, .unset]) rfl ?_
      show Steps p.tables e below (s₁.setTop (mkF m 31 #[.val (.int p1), .val (.int p2), .val (.int p3), .val (.int p4), .val (.int lo), .val (.int hi), .val (.int mo), .val (.int p3), .unset, .unset] [])) _
      refine XS.goto X0.here hx rfl (pc0 := 31) (pc' := 65) rfl (hb hby at_31) (by decide) (by decide) ?_
      exact k
    · by_cases hm1 : mo = 1
      · refine ⟨((lo + (p3 &&& (7 : Int32))) - (4 : Int32)), ?_⟩
        intro t k
        refine C20 t ?_
        show Steps p.tables e below (s₁.setTop (mkF m 25 #[.val (.int p1), .val (.int p2), .val (.int p3), .val (.int p4), .val (.int lo), .val (.int hi), .val (.int mo), .unset, .unset, .unset] [(.int mo)])) _
        refine XS.ifYes X0.here hx rfl (pc0 := 25) (pc' := 34) rfl (hb hby at_25) rfl (XT.i0_ne_t hm) (by decide) (by decide) ?_
        show Steps p.tables e below (s₁.setTop (mkF m 34 #[.val (.int p1), .val (.int p2), .val (.int p3), .val (.int p4), .val (.int lo), .val (.int hi), .val (.int mo), .unset, .unset, .unset] [])) _
        refine XS.iload X0.here hx rfl (hb hby at_34) rfl ?_
        show Steps p.tables e below (s₁.setTop (mkF m 36 #[.val (.int p1), .val (.int p2), .val (.int p3), .val (.int p4), .val (.int lo), .val (.int hi), .val (.int mo), .unset, .unset, .unset] [(.int mo)])) _
        refine XS.iconst X0.here hx rfl (hb hby at_36) ?_
        show Steps p.tables e below (s₁.setTop (mkF m 37 #[.val (.int p1), .val (.int p2), .val (.int p3), .val (.int p4), .val (.int lo), .val (.int hi), .val (.int mo), .unset, .unset, .unset] [(.int (1 : Int32)), (.int mo)])) _
        refine XS.icmpNo X0.here hx rfl (hb hby at_37) rfl (XT.ii_ne_f hm1) ?_
        show Steps p.tables e below (s₁.setTop (mkF m 40 #[.val (.int p1), .val (.int p2), .val (.int p3), .val (.int p4), .val (.int lo), .val (.int hi), .val (.int mo), .unset, .unset, .unset] [])) _
        refine XS.iload X0.here hx rfl (hb hby at_40) rfl ?_
        show Steps p.tables e below (s₁.setTop (mkF m 42 #[.val (.int p1), .val (.int p2), .val (.int p3), .val (.int p4), .val (.int lo), .val (.int hi), .val (.int mo), .unset, .unset, .unset] [(.int lo)])) _
        refine XS.iloadN X0.here hx rfl (hb hby at_42) rfl ?_
        show Steps p.tables e below (s₁.setTop (mkF m 43 #[.val (.int p1), .val (.int p2), .val (.int p3), .val (.int p4), .val (.int lo), .val (.int hi), .val (.int mo), .unset, .unset, .unset] [(.int p3), (.int lo)])) _
        refine XS.bipush X0.here hx rfl (hb hby at_43) ?_
        show Steps p.tables e below (s₁.setTop (mkF m 45 #[.val (.int p1), .val (.int p2), .val (.int p3), .val (.int p4), .val (.int lo), .val (.int hi), .val (.int mo), .unset, .unset, .unset] [(.int (7 : Int32)), (.int p3), (.int lo)])) _
        refine XS.iand X0.here hx rfl (hb hby at_45) rfl ?_
        show Steps p.tables e below (s₁.setTop (mkF m 46 #[.val (.int p1), .val (.int p2), .val (.int p3), .val (.int p4), .val (.int lo), .val (.int hi), .val (.int mo), .unset, .unset, .unset] [(.int (p3 &&& (7 : Int32))), (.int lo)])) _
        refine XS.iadd X0.here hx rfl (hb hby at_46) rfl ?_
        show Steps p.tables e below (s₁.setTop (mkF m 47 #[.val (.int p1), .val (.int p2), .val (.int p3), .val (.int p4), .val (.int lo), .val (.int hi), .val (.int mo), .unset, .unset, .unset] [(.int (lo + (p3 &&& (7 : Int32))))])) _
        refine XS.iconst X0.here hx rfl (hb hby at_47) ?_
        show Steps p.tables e below (s₁.setTop (mkF m 48 #[.val (.int p1), .val (.int p2), .val (.int p3), .val (.int p4), .val (.int lo), .val (.int hi), .val (.int mo), .unset, .unset, .unset] [(.int (4 : Int32)), (.int (lo + (p3 &&& (7 : Int32))))])) _
        refine XS.isub X0.here hx rfl (hb hby at_48) rfl ?_
        show Steps p.tables e below (s₁.setTop (mkF m 49 #[.val (.int p1), .val (.int p2), .val (.int p3), .val (.int p4), .val (.int lo), .val (.int hi), .val (.int mo), .unset, .unset, .unset] [(.int ((lo + (p3 &&& (7 : Int32))) - (4 : Int32)))])) _
        refine XS.istore X0.here hx rfl (hb hby at_49) rfl (l' := #[.val (.int p1), .val (.int p2), .val (.int p3), .val (.int p4), .val (.int lo), .val (.int hi), .val (.int mo), .val (.int ((lo + (p3 &&& (7 : Int32))) - (4 : Int32))), .unset, .unset]) rfl ?_
        show Steps p.tables e below (s₁.setTop (mkF m 51 #[.val (.int p1), .val (.int p2), .val (.int p3), .val (.int p4), .val (.int lo), .val (.int hi), .val (.int mo), .val (.int ((lo + (p3 &&& (7 : Int32))) - (4 : Int32))), .unset, .unset] [])) _
        refine XS.goto X0.here hx rfl (pc0 := 51) (pc' := 65) rfl (hb hby at_51) (by decide) (by decide) ?_
        exact k
      · refine ⟨((hi + (p3 &&& (7 : Int32))) - (4 : Int32)), ?_⟩
        intro t k
        refine C20 t ?_
        show Steps p.tables e below (s₁.setTop (mkF m 25 #[.val (.int p1), .val (.int p2), .val (.int p3), .val (.int p4), .val (.int lo), .val (.int hi), .val (.int mo), .unset, .unset, .unset] [(.int mo)])) _
        refine XS.ifYes X0.here hx rfl (pc0 := 25) (pc' := 34) rfl (hb hby at_25) rfl (XT.i0_ne_t hm) (by decide) (by decide) ?_
        show Steps p.tables e below (s₁.setTop (mkF m 34 #[.val (.int p1), .val (.int p2), .val (.int p3), .val (.int p4), .val (.int lo), .val (.int hi), .val (.int mo), .unset, .unset, .unset] [])) _
        refine XS.iload X0.here hx rfl (hb hby at_34) rfl ?_
        show Steps p.tables e below (s₁.setTop (mkF m 36 #[.val (.int p1), .val (.int p2), .val (.int p3), .val (.int p4), .val (.int lo), .val (.int hi), .val (.int mo), .unset, .unset, .unset] [(.int mo)])) _
        refine XS.iconst X0.here hx rfl (hb hby at_36) ?_
        show Steps p.tables e below (s₁.setTop (mkF m 37 #[.val (.int p1), .val (.int p2), .val (.int p3), .val (.int p4), .val (.int lo), .val (.int hi), .val (.int mo), .unset, .unset, .unset] [(.int (1 : Int32)), (.int mo)])) _
        refine XS.icmpYes X0.here hx rfl (pc0 := 37) (pc' := 54) rfl (hb hby at_37) rfl (XT.ii_ne_t hm1) (by decide) (by decide) ?_
        show Steps p.tables e below (s₁.setTop (mkF m 54 #[.val (.int p1), .val (.int p2), .val (.int p3), .val (.int p4), .val (.int lo), .val (.int hi), .val (.int mo), .unset, .unset, .unset] [])) _
        refine XS.iload X0.here hx rfl (hb hby at_54) rfl ?_
        show Steps p.tables e below (s₁.setTop (mkF m 56 #[.val (.int p1), .val (.int p2), .val (.int p3), .val (.int p4), .val (.int lo), .val (.int hi), .val (.int mo), .unset, .unset, .unset] [(.int hi)])) _
        refine XS.iloadN X0.here hx rfl (hb hby at_56) rfl ?_
        show Steps p.tables e below (s₁.setTop (mkF m 57 #[.val (.int p1), .val (.int p2), .val (.int p3), .val (.int p4), .val (.int lo), .val (.int hi), .val (.int mo), .unset, .unset, .unset] [(.int p3), (.int hi)])) _
        refine XS.bipush X0.here hx rfl (hb hby at_57) ?_
        show Steps p.tables e below (s₁.setTop (mkF m 59 #[.val (.int p1), .val (.int p2), .val (.int p3), .val (.int p4), .val (.int lo), .val (.int hi), .val (.int mo), .unset, .unset, .unset] [(.int (7 : Int32)), (.int p3), (.int hi)])) _
        refine XS.iand X0.here hx rfl (hb hby at_59) rfl ?_
        show Steps p.tables e below (s₁.setTop (mkF m 60 #[.val (.int p1), .val (.int p2), .val (.int p3), .val (.int p4), .val (.int lo), .val (.int hi), .val (.int mo), .unset, .unset, .unset] [(.int (p3 &&& (7 : Int32))), (.int hi)])) _
        refine XS.iadd X0.here hx rfl (hb hby at_60) rfl ?_
        show Steps p.tables e below (s₁.setTop (mkF m 61 #[.val (.int p1), .val (.int p2), .val (.int p3), .val (.int p4), .val (.int lo), .val (.int hi), .val (.int mo), .unset, .unset, .unset] [(.int (hi + (p3 &&& (7 : Int32))))])) _
        refine XS.iconst X0.here hx rfl (hb hby at_61) ?_
        show Steps p.tables e below (s₁.setTop (mkF m 62 #[.val (.int p1), .val (.int p2), .val (.int p3), .val (.int p4), .val (.int lo), .val (.int hi), .val (.int mo), .unset, .unset, .unset] [(.int (4 : Int32)), (.int (hi + (p3 &&& (7 : Int32))))])) _
        refine XS.isub X0.here hx rfl (hb hby at_62) rfl ?_
        show Steps p.tables e below (s₁.setTop (mkF m 63 #[.val (.int p1), .val (.int p2), .val (.int p3), .val (.int p4), .val (.int lo), .val (.int hi), .val (.int mo), .unset, .unset, .unset] [(.int ((hi + (p3 &&& (7 : Int32))) - (4 : Int32)))])) _
        refine XS.istore X0.here hx rfl (hb hby at_63) rfl (l' := #[.val (.int p1), .val (.int p2), .val (.int p3), .val (.int p4), .val (.int lo), .val (.int hi), .val (.int mo), .val (.int ((hi + (p3 &&& (7 : Int32))) - (4 : Int32))), .unset, .unset]) rfl ?_
        exact k
  have blo : 0 ≤ lo.toInt ∧ lo.toInt ≤ 65535 := by rw [h_lo]; exact c_and _ _ (by decide)
  have bhi : lo.toInt ≤ hi.toInt := by
    have b2 := c_and p2 65535 (by decide)
    have a2 := c_iadd lo (p2 &&& 65535)
    have l2 : (65535 : Int32).toInt = 65535 := rfl
    rw [l2] at b2
    have t1 := hi.toInt_lt; have t2 := hi.le_toInt
    rw [← h_hi] at a2
    omega
  obtain ⟨T21, h21, X21, e21, E21, A21, D21, -, st21⟩ := newO X0 hx hZ hown (hw _ (List.mem_of_getElem? (i := 2) rfl)) (hw _ (List.mem_of_getElem? (i := 3) rfl)) (hw _ (List.mem_of_getElem? (i := 4) rfl)) e0 (g := (mkF m 65 #[.val (.int p1), .val (.int p2), .val (.int p3), .val (.int p4), .val (.int lo), .val (.int hi), .val (.int mo), .val (.int v2), .unset, .unset] [])) rfl (hb hby at_65) (by decide) (by decide)
  obtain ⟨b21, g21⟩ : ∃ z, z = h0.size := ⟨_, rfl⟩
  rw [← g21] at A21 D21 st21
  have C21 : ∀ t, Steps p.tables e below (T21.setTop (mkF m 68 #[.val (.int p1), .val (.int p2), .val (.int p3), .val (.int p4), .val (.int lo), .val (.int hi), .val (.int mo), .val (.int v2), .unset, .unset] [(.ref b21)])) t → Steps p.tables e below (s₁.setTop (entryFrame m #[(.int p1), (.int p2), (.int p3), (.int p4)] maxLocals)) t := fun t k => C65 t (st21 t k)
  have F1 : Fld Z h21 b21 "com/example/peptides_to_proteins/peptidestoproteins/Range" "low" "D" (.double 0) := D21 (Or.inr (hw _ (List.mem_of_getElem? (i := 14) rfl))) (ty := .double) (by decide)
  have F2 : Fld Z h21 b21 "com/example/peptides_to_proteins/peptidestoproteins/Range" "high" "D" (.double 0) := D21 (Or.inr (hw _ (List.mem_of_getElem? (i := 16) rfl))) (ty := .double) (by decide)
  have Z1 : n0 ≤ h21.size := Nat.le_trans Z0 E21.1
  have C22 : ∀ t, Steps p.tables e below (T21.setTop (mkF m 83 #[.val (.int p1), .val (.int p2), .val (.int p3), .val (.int p4), .val (.int lo), .val (.int hi), .val (.int mo), .val (.int v2), .unset, .unset] [(.double (FP.ddiv (FP.i2d hi) 4611686018427387904)), (.double (FP.ddiv (FP.i2d lo) 4611686018427387904)), (.ref b21), (.ref b21)])) t → Steps p.tables e below (s₁.setTop (entryFrame m #[(.int p1), (.int p2), (.int p3), (.int p4)] maxLocals)) t := by
    intro t k
    refine C21 t ?_
    show Steps p.tables e below (T21.setTop (mkF m 68 #[.val (.int p1), .val (.int p2), .val (.int p3), .val (.int p4), .val (.int lo), .val (.int hi), .val (.int mo), .val (.int v2), .unset, .unset] [(.ref b21)])) _
    refine XS.dup X21.here hx rfl (hb hby at_68) rfl rfl ?_
    show Steps p.tables e below (T21.setTop (mkF m 69 #[.val (.int p1), .val (.int p2), .val (.int p3), .val (.int p4), .val (.int lo), .val (.int hi), .val (.int mo), .val (.int v2), .unset, .unset] [(.ref b21), (.ref b21)])) _
    refine XS.iload X21.here hx rfl (hb hby at_69) rfl ?_
    show Steps p.tables e below (T21.setTop (mkF m 71 #[.val (.int p1), .val (.int p2), .val (.int p3), .val (.int p4), .val (.int lo), .val (.int hi), .val (.int mo), .val (.int v2), .unset, .unset] [(.int lo), (.ref b21), (.ref b21)])) _
    refine XS.i2dS X21.here hx rfl (hb hby at_71) rfl rfl ?_
    show Steps p.tables e below (T21.setTop (mkF m 72 #[.val (.int p1), .val (.int p2), .val (.int p3), .val (.int p4), .val (.int lo), .val (.int hi), .val (.int mo), .val (.int v2), .unset, .unset] [(.double (FP.i2d lo)), (.ref b21), (.ref b21)])) _
    refine X21.ldc2DoubleC hx hown (mvT hZ (hw _ (List.mem_of_getElem? (i := 5) rfl))) (g := (mkF m 72 #[.val (.int p1), .val (.int p2), .val (.int p3), .val (.int p4), .val (.int lo), .val (.int hi), .val (.int mo), .val (.int v2), .unset, .unset] [(.double (FP.i2d lo)), (.ref b21), (.ref b21)])) rfl (hb hby at_72) _ ?_
    show Steps p.tables e below (T21.setTop (mkF m 75 #[.val (.int p1), .val (.int p2), .val (.int p3), .val (.int p4), .val (.int lo), .val (.int hi), .val (.int mo), .val (.int v2), .unset, .unset] [(.double 4611686018427387904), (.double (FP.i2d lo)), (.ref b21), (.ref b21)])) _
    refine XS.ddivS X21.here hx rfl (hb hby at_75) rfl (own_half_nn lo) rfl ?_
    show Steps p.tables e below (T21.setTop (mkF m 76 #[.val (.int p1), .val (.int p2), .val (.int p3), .val (.int p4), .val (.int lo), .val (.int hi), .val (.int mo), .val (.int v2), .unset, .unset] [(.double (FP.ddiv (FP.i2d lo) 4611686018427387904)), (.ref b21), (.ref b21)])) _
    refine XS.iload X21.here hx rfl (hb hby at_76) rfl ?_
    show Steps p.tables e below (T21.setTop (mkF m 78 #[.val (.int p1), .val (.int p2), .val (.int p3), .val (.int p4), .val (.int lo), .val (.int hi), .val (.int mo), .val (.int v2), .unset, .unset] [(.int hi), (.double (FP.ddiv (FP.i2d lo) 4611686018427387904)), (.ref b21), (.ref b21)])) _
    refine XS.i2dS X21.here hx rfl (hb hby at_78) rfl rfl ?_
    show Steps p.tables e below (T21.setTop (mkF m 79 #[.val (.int p1), .val (.int p2), .val (.int p3), .val (.int p4), .val (.int lo), .val (.int hi), .val (.int mo), .val (.int v2), .unset, .unset] [(.double (FP.i2d hi)), (.double (FP.ddiv (FP.i2d lo) 4611686018427387904)), (.ref b21), (.ref b21)])) _
    refine X21.ldc2DoubleC hx hown (mvT hZ (hw _ (List.mem_of_getElem? (i := 5) rfl))) (g := (mkF m 79 #[.val (.int p1), .val (.int p2), .val (.int p3), .val (.int p4), .val (.int lo), .val (.int hi), .val (.int mo), .val (.int v2), .unset, .unset] [(.double (FP.i2d hi)), (.double (FP.ddiv (FP.i2d lo) 4611686018427387904)), (.ref b21), (.ref b21)])) rfl (hb hby at_79) _ ?_
    show Steps p.tables e below (T21.setTop (mkF m 82 #[.val (.int p1), .val (.int p2), .val (.int p3), .val (.int p4), .val (.int lo), .val (.int hi), .val (.int mo), .val (.int v2), .unset, .unset] [(.double 4611686018427387904), (.double (FP.i2d hi)), (.double (FP.ddiv (FP.i2d lo) 4611686018427387904)), (.ref b21), (.ref b21)])) _
    refine XS.ddivS X21.here hx rfl (hb hby at_82) rfl (own_half_nn hi) rfl ?_
    exact k
  obtain ⟨_, _, ⟨T23, L23, k23, n23⟩, -, X23, ⟨Lc23, hQ23, l23, y23, z23⟩, st23⟩ := X21.specialBack hx (y := (⟨"com/example/peptides_to_proteins/peptidestoproteins/Range", "<init>", "(DD)V"⟩ : MethodName)) rfl hown (mvT hZ (hw _ (List.mem_of_getElem? (i := 6) rfl))) (mvT hZ (hw _ (List.mem_of_getElem? (i := 7) rfl))) (mvT hZ (hw _ (List.mem_of_getElem? (i := 8) rfl))) (by decide) (backOf (W := 1) (rm1 l Z a0 hw [] b21 (FP.ddiv (FP.i2d lo) 4611686018427387904) (FP.ddiv (FP.i2d hi) 4611686018427387904) h21 n0 Z1 F1 F2 A21 (Nat.le_trans Z0 (Nat.le_of_eq g21.symm)) (own_c1 blo.1) (own_c2 bhi) (own_c3 hi)) hZ (hw _ (List.mem_of_getElem? (i := 8) rfl)) (hw _ (List.mem_of_getElem? (i := 4) rfl)) (by decide) (by decide)) (g := (mkF m 83 #[.val (.int p1), .val (.int p2), .val (.int p3), .val (.int p4), .val (.int lo), .val (.int hi), .val (.int mo), .val (.int v2), .unset, .unset] [(.double (FP.ddiv (FP.i2d hi) 4611686018427387904)), (.double (FP.ddiv (FP.i2d lo) 4611686018427387904)), (.ref b21), (.ref b21)])) rfl (by rw [hml]; rfl) (Steps.refl _) (a := b21) (argsL := [(.double (FP.ddiv (FP.i2d lo) 4611686018427387904)), (.double (FP.ddiv (FP.i2d hi) 4611686018427387904))]) (rest := [(.ref b21)]) (lenOf pd0 rfl) rfl (by show 2 * 0 + _ ≤ _; exact Nat.le_of_eq rfl) (hb hby at_83) (fun _ _ => ⟨rfl, e21, (by decide : 1 + 0 ≤ _), (by decide : 2 + 0 ≤ _)⟩)
  dsimp only [Pt.U, Pt.locs, Pt.cells, Pt.slots] at X23 l23 y23 z23 st23 hQ23
  subst l23 y23 z23
  obtain ⟨rfl, N23q, K23, X23a, G23l, G23h⟩ := hQ23
  have N23 := Fr.app N0 N23q
  have C23 : ∀ t, Steps p.tables e below (T23.setTop (mkF m 86 #[.val (.int p1), .val (.int p2), .val (.int p3), .val (.int p4), .val (.int lo), .val (.int hi), .val (.int mo), .val (.int v2), .unset, .unset] [(.ref b21)])) t → Steps p.tables e below (s₁.setTop (entryFrame m #[(.int p1), (.int p2), (.int p3), (.int p4)] maxLocals)) t := fun t k => C22 t (st23.trans k)
  have C24 : ∀ t, Steps p.tables e below (T23.setTop (mkF m 92 #[.val (.int p1), .val (.int p2), .val (.int p3), .val (.int p4), .val (.int lo), .val (.int hi), .val (.int mo), .val (.int v2), .val (.ref b21), .unset] [(.int lo), (.int v2)])) t → Steps p.tables e below (s₁.setTop (entryFrame m #[(.int p1), (.int p2), (.int p3), (.int p4)] maxLocals)) t := by
    intro t k
    refine C23 t ?_
    show Steps p.tables e below (T23.setTop (mkF m 86 #[.val (.int p1), .val (.int p2), .val (.int p3), .val (.int p4), .val (.int lo), .val (.int hi), .val (.int mo), .val (.int v2), .unset, .unset] [(.ref b21)])) _
    refine XS.astore X23.here hx rfl (hb hby at_86) rfl rfl (l' := #[.val (.int p1), .val (.int p2), .val (.int p3), .val (.int p4), .val (.int lo), .val (.int hi), .val (.int mo), .val (.int v2), .val (.ref b21), .unset]) rfl ?_
    show Steps p.tables e below (T23.setTop (mkF m 88 #[.val (.int p1), .val (.int p2), .val (.int p3), .val (.int p4), .val (.int lo), .val (.int hi), .val (.int mo), .val (.int v2), .val (.ref b21), .unset] [])) _
    refine XS.iload X23.here hx rfl (hb hby at_88) rfl ?_
    show Steps p.tables e below (T23.setTop (mkF m 90 #[.val (.int p1), .val (.int p2), .val (.int p3), .val (.int p4), .val (.int lo), .val (.int hi), .val (.int mo), .val (.int v2), .val (.ref b21), .unset] [(.int v2)])) _
    refine XS.iload X23.here hx rfl (hb hby at_90) rfl ?_
    exact k
  obtain ⟨r, hr9, C107⟩ : ∃ r : Int32, ((ifCond.holds .lt (cmpValue (FP.dcmp (FP.ddiv (FP.i2d v2) 4611686018427387904) (FP.ddiv (FP.i2d lo) 4611686018427387904)) .l) = false ∧ ifCond.holds .gt (cmpValue (FP.dcmp (FP.ddiv (FP.i2d v2) 4611686018427387904) (FP.ddiv (FP.i2d hi) 4611686018427387904)) .g) = false ∧ r = 1) ∨ (ifCond.holds .lt (cmpValue (FP.dcmp (FP.ddiv (FP.i2d v2) 4611686018427387904) (FP.ddiv (FP.i2d lo) 4611686018427387904)) .l) = true ∧ r = 0) ∨ (ifCond.holds .lt (cmpValue (FP.dcmp (FP.ddiv (FP.i2d v2) 4611686018427387904) (FP.ddiv (FP.i2d lo) 4611686018427387904)) .l) = false ∧ ifCond.holds .gt (cmpValue (FP.dcmp (FP.ddiv (FP.i2d v2) 4611686018427387904) (FP.ddiv (FP.i2d hi) 4611686018427387904)) .g) = true ∧ r = 0)) ∧ ∀ t, Steps p.tables e below (T23.setTop (mkF m 107 #[.val (.int p1), .val (.int p2), .val (.int p3), .val (.int p4), .val (.int lo), .val (.int hi), .val (.int mo), .val (.int v2), .val (.ref b21), .unset] [(.int r)])) t → Steps p.tables e below (s₁.setTop (entryFrame m #[(.int p1), (.int p2), (.int p3), (.int p4)] maxLocals)) t := by
    by_cases hm : v2 < lo
    · refine ⟨0, Or.inr (Or.inl ⟨own_lt hm, rfl⟩), ?_⟩
      intro t k
      refine C24 t ?_
      show Steps p.tables e below (T23.setTop (mkF m 92 #[.val (.int p1), .val (.int p2), .val (.int p3), .val (.int p4), .val (.int lo), .val (.int hi), .val (.int mo), .val (.int v2), .val (.ref b21), .unset] [(.int lo), (.int v2)])) _
      refine XS.icmpYes X23.here hx rfl (pc0 := 92) (pc' := 106) rfl (hb hby at_92) rfl (XT.ii_lt_t hm) (by decide) (by decide) ?_
      show Steps p.tables e below (T23.setTop (mkF m 106 #[.val (.int p1), .val (.int p2), .val (.int p3), .val (.int p4), .val (.int lo), .val (.int hi), .val (.int mo), .val (.int v2), .val (.ref b21), .unset] [])) _
      refine XS.iconst X23.here hx rfl (hb hby at_106) ?_
      exact k
    · by_cases hm1 : hi < v2
      · refine ⟨0, Or.inr (Or.inr ⟨own_nlt hm, own_gt hm1, rfl⟩), ?_⟩
        intro t k
        refine C24 t ?_
        show Steps p.tables e below (T23.setTop (mkF m 92 #[.val (.int p1), .val (.int p2), .val (.int p3), .val (.int p4), .val (.int lo), .val (.int hi), .val (.int mo), .val (.int v2), .val (.ref b21), .unset] [(.int lo), (.int v2)])) _
        refine XS.icmpNo X23.here hx rfl (hb hby at_92) rfl (XT.ii_lt_f hm) ?_
        show Steps p.tables e below (T23.setTop (mkF m 95 #[.val (.int p1), .val (.int p2), .val (.int p3), .val (.int p4), .val (.int lo), .val (.int hi), .val (.int mo), .val (.int v2), .val (.ref b21), .unset] [])) _
        refine XS.iload X23.here hx rfl (hb hby at_95) rfl ?_
        show Steps p.tables e below (T23.setTop (mkF m 97 #[.val (.int p1), .val (.int p2), .val (.int p3), .val (.int p4), .val (.int lo), .val (.int hi), .val (.int mo), .val (.int v2), .val (.ref b21), .unset] [(.int v2)])) _
        refine XS.iload X23.here hx rfl (hb hby at_97) rfl ?_
        show Steps p.tables e below (T23.setTop (mkF m 99 #[.val (.int p1), .val (.int p2), .val (.int p3), .val (.int p4), .val (.int lo), .val (.int hi), .val (.int mo), .val (.int v2), .val (.ref b21), .unset] [(.int hi), (.int v2)])) _
        refine XS.icmpYes X23.here hx rfl (pc0 := 99) (pc' := 106) rfl (hb hby at_99) rfl (XT.ii_gt_t hm1) (by decide) (by decide) ?_
        show Steps p.tables e below (T23.setTop (mkF m 106 #[.val (.int p1), .val (.int p2), .val (.int p3), .val (.int p4), .val (.int lo), .val (.int hi), .val (.int mo), .val (.int v2), .val (.ref b21), .unset] [])) _
        refine XS.iconst X23.here hx rfl (hb hby at_106) ?_
        exact k
      · refine ⟨1, Or.inl ⟨own_nlt hm, own_ngt hm1, rfl⟩, ?_⟩
        intro t k
        refine C24 t ?_
        show Steps p.tables e below (T23.setTop (mkF m 92 #[.val (.int p1), .val (.int p2), .val (.int p3), .val (.int p4), .val (.int lo), .val (.int hi), .val (.int mo), .val (.int v2), .val (.ref b21), .unset] [(.int lo), (.int v2)])) _
        refine XS.icmpNo X23.here hx rfl (hb hby at_92) rfl (XT.ii_lt_f hm) ?_
        show Steps p.tables e below (T23.setTop (mkF m 95 #[.val (.int p1), .val (.int p2), .val (.int p3), .val (.int p4), .val (.int lo), .val (.int hi), .val (.int mo), .val (.int v2), .val (.ref b21), .unset] [])) _
        refine XS.iload X23.here hx rfl (hb hby at_95) rfl ?_
        show Steps p.tables e below (T23.setTop (mkF m 97 #[.val (.int p1), .val (.int p2), .val (.int p3), .val (.int p4), .val (.int lo), .val (.int hi), .val (.int mo), .val (.int v2), .val (.ref b21), .unset] [(.int v2)])) _
        refine XS.iload X23.here hx rfl (hb hby at_97) rfl ?_
        show Steps p.tables e below (T23.setTop (mkF m 99 #[.val (.int p1), .val (.int p2), .val (.int p3), .val (.int p4), .val (.int lo), .val (.int hi), .val (.int mo), .val (.int v2), .val (.ref b21), .unset] [(.int hi), (.int v2)])) _
        refine XS.icmpNo X23.here hx rfl (hb hby at_99) rfl (XT.ii_gt_f hm1) ?_
        show Steps p.tables e below (T23.setTop (mkF m 102 #[.val (.int p1), .val (.int p2), .val (.int p3), .val (.int p4), .val (.int lo), .val (.int hi), .val (.int mo), .val (.int v2), .val (.ref b21), .unset] [])) _
        refine XS.iconst X23.here hx rfl (hb hby at_102) ?_
        show Steps p.tables e below (T23.setTop (mkF m 103 #[.val (.int p1), .val (.int p2), .val (.int p3), .val (.int p4), .val (.int lo), .val (.int hi), .val (.int mo), .val (.int v2), .val (.ref b21), .unset] [(.int (1 : Int32))])) _
        refine XS.goto X23.here hx rfl (pc0 := 103) (pc' := 107) rfl (hb hby at_103) (by decide) (by decide) ?_
        exact k
  have Z2 : n0 ≤ T23.heap.size := Nat.le_trans Z1 K23.1
  have C25 : ∀ t, Steps p.tables e below (T23.setTop (mkF m 118 #[.val (.int p1), .val (.int p2), .val (.int p3), .val (.int p4), .val (.int lo), .val (.int hi), .val (.int mo), .val (.int v2), .val (.ref b21), .val (.int r)] [(.double (FP.ddiv (FP.i2d v2) 4611686018427387904)), (.ref b21)])) t → Steps p.tables e below (s₁.setTop (entryFrame m #[(.int p1), (.int p2), (.int p3), (.int p4)] maxLocals)) t := by
    intro t k
    refine C107 t ?_
    show Steps p.tables e below (T23.setTop (mkF m 107 #[.val (.int p1), .val (.int p2), .val (.int p3), .val (.int p4), .val (.int lo), .val (.int hi), .val (.int mo), .val (.int v2), .val (.ref b21), .unset] [(.int r)])) _
    refine XS.istore X23.here hx rfl (hb hby at_107) rfl (l' := #[.val (.int p1), .val (.int p2), .val (.int p3), .val (.int p4), .val (.int lo), .val (.int hi), .val (.int mo), .val (.int v2), .val (.ref b21), .val (.int r)]) rfl ?_
    show Steps p.tables e below (T23.setTop (mkF m 109 #[.val (.int p1), .val (.int p2), .val (.int p3), .val (.int p4), .val (.int lo), .val (.int hi), .val (.int mo), .val (.int v2), .val (.ref b21), .val (.int r)] [])) _
    refine XS.aload X23.here hx rfl (hb hby at_109) rfl rfl ?_
    show Steps p.tables e below (T23.setTop (mkF m 111 #[.val (.int p1), .val (.int p2), .val (.int p3), .val (.int p4), .val (.int lo), .val (.int hi), .val (.int mo), .val (.int v2), .val (.ref b21), .val (.int r)] [(.ref b21)])) _
    refine XS.iload X23.here hx rfl (hb hby at_111) rfl ?_
    show Steps p.tables e below (T23.setTop (mkF m 113 #[.val (.int p1), .val (.int p2), .val (.int p3), .val (.int p4), .val (.int lo), .val (.int hi), .val (.int mo), .val (.int v2), .val (.ref b21), .val (.int r)] [(.int v2), (.ref b21)])) _
    refine XS.i2dS X23.here hx rfl (hb hby at_113) rfl rfl ?_
    show Steps p.tables e below (T23.setTop (mkF m 114 #[.val (.int p1), .val (.int p2), .val (.int p3), .val (.int p4), .val (.int lo), .val (.int hi), .val (.int mo), .val (.int v2), .val (.ref b21), .val (.int r)] [(.double (FP.i2d v2)), (.ref b21)])) _
    refine X23.ldc2DoubleC hx hown (mvT hZ (hw _ (List.mem_of_getElem? (i := 5) rfl))) (g := (mkF m 114 #[.val (.int p1), .val (.int p2), .val (.int p3), .val (.int p4), .val (.int lo), .val (.int hi), .val (.int mo), .val (.int v2), .val (.ref b21), .val (.int r)] [(.double (FP.i2d v2)), (.ref b21)])) rfl (hb hby at_114) _ ?_
    show Steps p.tables e below (T23.setTop (mkF m 117 #[.val (.int p1), .val (.int p2), .val (.int p3), .val (.int p4), .val (.int lo), .val (.int hi), .val (.int mo), .val (.int v2), .val (.ref b21), .val (.int r)] [(.double 4611686018427387904), (.double (FP.i2d v2)), (.ref b21)])) _
    refine XS.ddivS X23.here hx rfl (hb hby at_117) rfl (own_half_nn v2) rfl ?_
    exact k
  obtain ⟨cq26, kq26, q26a, q26b, q26c⟩ := isOf hZ rfl X23a
  obtain ⟨_, _, ⟨T26, L26, k26, n26⟩, -, X26, ⟨Lc26, hQ26, l26, y26, z26⟩, st26⟩ := X23.virtualBack hx (y := (⟨"com/example/peptides_to_proteins/peptidestoproteins/Range", "contains", "(D)Z"⟩ : MethodName)) (z := (⟨"com/example/peptides_to_proteins/peptidestoproteins/Range", "contains", "(D)Z"⟩ : MethodName)) hown (mvT hZ (hw _ (List.mem_of_getElem? (i := 17) rfl))) (mvT hZ (hw _ (List.mem_of_getElem? (i := 18) rfl))) (notFace_of_selects (args := #[]) (mvT hZ (hw _ (List.mem_of_getElem? (i := 20) rfl)))) (mvT hZ (hw _ (List.mem_of_getElem? (i := 20) rfl))) (mvT hZ (hw _ (List.mem_of_getElem? (i := 19) rfl))) (by decide) (backOf (W := 0) (rm3 l Z a0 hw [] b21 (FP.ddiv (FP.i2d lo) 4611686018427387904) (FP.ddiv (FP.i2d hi) 4611686018427387904) (FP.ddiv (FP.i2d v2) 4611686018427387904) r T23.heap n0 Z2 G23l G23h hr9) hZ (hw _ (List.mem_of_getElem? (i := 21) rfl)) (hw _ (List.mem_of_getElem? (i := 4) rfl)) (by decide) (by decide)) q26a q26c (g := (mkF m 118 #[.val (.int p1), .val (.int p2), .val (.int p3), .val (.int p4), .val (.int lo), .val (.int hi), .val (.int mo), .val (.int v2), .val (.ref b21), .val (.int r)] [(.double (FP.ddiv (FP.i2d v2) 4611686018427387904)), (.ref b21)])) rfl (by rw [hml]; rfl) (Steps.refl _) (argsL := [(.double (FP.ddiv (FP.i2d v2) 4611686018427387904))]) (rest := []) (lenOf pd1 rfl) rfl (by show 2 * 0 + _ ≤ _; exact Nat.le_of_eq rfl) (hb hby at_118) (fun _ _ => ⟨rfl, rfl, (by decide : 1 + 0 ≤ _), (by decide : 2 + 0 ≤ _)⟩)
  dsimp only [Pt.U, Pt.locs, Pt.cells, Pt.slots] at X26 l26 y26 z26 st26 hQ26
  subst l26 y26 z26
  obtain ⟨rfl, N26q, e26⟩ := hQ26
  have N26 := Fr.app N23 N26q
  have C26 : ∀ t, Steps p.tables e below (T26.setTop (mkF m 121 #[.val (.int p1), .val (.int p2), .val (.int p3), .val (.int p4), .val (.int lo), .val (.int hi), .val (.int mo), .val (.int v2), .val (.ref b21), .val (.int r)] [(.int r)])) t → Steps p.tables e below (s₁.setTop (entryFrame m #[(.int p1), (.int p2), (.int p3), (.int p4)] maxLocals)) t := fun t k => C25 t (st26.trans k)
  have eend := e26
  have C27 : ∀ t, Steps p.tables e below (T26.setTop (mkF m 131 #[.val (.int p1), .val (.int p2), .val (.int p3), .val (.int p4), .val (.int lo), .val (.int hi), .val (.int mo), .val (.int v2), .val (.ref b21), .val (.int r)] [(.int (1 : Int32))])) t → Steps p.tables e below (s₁.setTop (entryFrame m #[(.int p1), (.int p2), (.int p3), (.int p4)] maxLocals)) t := by
    intro t k
    refine C26 t ?_
    show Steps p.tables e below (T26.setTop (mkF m 121 #[.val (.int p1), .val (.int p2), .val (.int p3), .val (.int p4), .val (.int lo), .val (.int hi), .val (.int mo), .val (.int v2), .val (.ref b21), .val (.int r)] [(.int r)])) _
    refine XS.iload X26.here hx rfl (hb hby at_121) rfl ?_
    show Steps p.tables e below (T26.setTop (mkF m 123 #[.val (.int p1), .val (.int p2), .val (.int p3), .val (.int p4), .val (.int lo), .val (.int hi), .val (.int mo), .val (.int v2), .val (.ref b21), .val (.int r)] [(.int r), (.int r)])) _
    refine XS.icmpNo X26.here hx rfl (hb hby at_123) rfl (XT.ii_ne_f rfl) ?_
    show Steps p.tables e below (T26.setTop (mkF m 126 #[.val (.int p1), .val (.int p2), .val (.int p3), .val (.int p4), .val (.int lo), .val (.int hi), .val (.int mo), .val (.int v2), .val (.ref b21), .val (.int r)] [])) _
    refine XS.iconst X26.here hx rfl (hb hby at_126) ?_
    show Steps p.tables e below (T26.setTop (mkF m 127 #[.val (.int p1), .val (.int p2), .val (.int p3), .val (.int p4), .val (.int lo), .val (.int hi), .val (.int mo), .val (.int v2), .val (.ref b21), .val (.int r)] [(.int (1 : Int32))])) _
    refine XS.goto X26.here hx rfl (pc0 := 127) (pc' := 131) rfl (hb hby at_127) (by decide) (by decide) ?_
    exact k
  obtain ⟨fs, hr, hrun, hended, hW, hsame⟩ := X26.leave (v := some (.int (1 : Int32))) (fun h => by rw [Bd.returns] at h; cases h)
  refine ⟨_, _, C27 _ ?_, hrun, hended, _, _, rfl, ?_, ⟨_, rfl⟩, hW, hsame.mono (by decide) (by decide)⟩
  · show Steps p.tables e below (T26.setTop (mkF m 131 #[.val (.int p1), .val (.int p2), .val (.int p3), .val (.int p4), .val (.int lo), .val (.int hi), .val (.int mo), .val (.int v2), .val (.ref b21), .val (.int r)] [(.int (1 : Int32))])) _
    exact retN X26 hx (t := .boolean) Bd.returns (by simp) (hb hby at_131) hr
  · show Q0 Z p1 p2 p3 p4 h0 n0 _ T26.heap _
    exact ⟨rfl, N26⟩
set_option maxRecDepth 65536 in
set_option maxHeartbeats 40000000 in
theorem comes_1 {Post : Tables → Env → Array Value → State → Outcome → State → Prop} (hpost : ∀ tb e args s v u, (limb_1_1.after args s (.returned v) u = true ∧ limb_1_2.after args s (.returned v) u = true ∧ True) → FrameEnd s (.returned v) u (Jvm.fieldLocs frame_1_writes args s ++ Jvm.arrayLocs frame_1_arrays args s ++ Jvm.staticLocs frame_1_statics s) 16 128 → Post tb e args s (.returned v) u) :
    ArmFor flags0 classFile x code maxLocals ret World_1 tables_1 room_1 Calls_1 rest_1 Pre_1 Post := by
  intro l hfl _ _ p e ha hc hk s m args below hf hA hF happ hP
  obtain ⟨hcalls, hrest, hpre⟩ := hP
  obtain ⟨-, -, -, hnamed, -, -, -, hat⟩ := (Spec.applies_iff hf).mp happ
  obtain ⟨hg, hn⟩ := and_e (Cond.before_iff.mp (show (Jvm.Cond.and given_1 narrow_1).before args s = true from hpre))
  obtain ⟨hcount, r0⟩ := and_e hg
  obtain ⟨q0, r1⟩ := and_e r0
  obtain ⟨q1, r2⟩ := and_e r1
  obtain ⟨q2, r3⟩ := and_e r2
  have q3 := r3
  obtain ⟨w0, w1, w2, w3, rfl⟩ : ∃ w0 w1 w2 w3 : Value, args = #[w0, w1, w2, w3] := by
    have hs : args.size = 4 := by simpa [Cond.value, given_1] using hcount
    obtain ⟨L⟩ := args
    match L, hs with
    | [w0, w1, w2, w3], _ => exact ⟨w0, w1, w2, w3, rfl⟩
  have hw := fun d (hd : d ∈ tables_1) => atoms_spec (ws := Jvm.Cond.code x code maxLocals ret :: tables_1) hat d (List.mem_cons_of_mem _ hd)
  obtain ⟨i0, ei0⟩ := is_v q0
  obtain rfl : w0 = (.int i0) := Option.some.inj ei0
  obtain ⟨i1, ei1⟩ := is_v q1
  obtain rfl : w1 = (.int i1) := Option.some.inj ei1
  obtain ⟨i2, ei2⟩ := is_v q2
  obtain rfl : w2 = (.int i2) := Option.some.inj ei2
  obtain ⟨i3, ei3⟩ := is_v q3
  obtain rfl : w3 = (.int i3) := Option.some.inj ei3
  obtain ⟨n, o, h1, h2, h3, _, L, rfl, ⟨rfl, N⟩, hq⟩ := rm0 l s _ hw tables_1 i0 i1 i2 i3 s.heap s.heap.size (Nat.le_refl _)  p e ha hc hk s m _ below hf ((Spec.applies_iff_loose hf).mp happ).1 ⟨rfl, State.Warmed39.refl s, rfl⟩ trivial
  refine ⟨n, _, h1, h2, h3, hpost _ _ _ _ _ _ ⟨Cond.after_iff.mpr rfl, Cond.after_iff.mpr (eq_i res_at (Term.int_eval (1)) rfl), trivial⟩ ⟨hq.1, hq.2.1, (hq.2.2.sift fun y hy => Or.inr (N y hy)).mono (by decide) (by decide)⟩⟩
theorem main_1_1 : Claimed_1_1 := comes_1 fun _ _ _ _ _ _ h hF => ⟨h.1, hF⟩
theorem main_1_2 : Claimed_1_2 := comes_1 fun _ _ _ _ _ _ h hF => ⟨h.2.1, hF⟩
end Jvm.Pilot.@@N@@
namespace Jvm.Pilot.@@N@@
open Jvm Jvm.ClassFile Sem Op Lib Jvm.Free Jvm.Stand Jvm.Pilot.@@N@@.Jvm.D
/-! MADE BY PROGRAM (witnessworld.py) out of the Statement's table words and the real class files: 9 classes; the members and pool entries that the words name. The judged class is class 1, her method 1. -/
namespace start1
open Jvm.ClassFile
def u (s : String) : CpInfo := .utf8 (stringToUtf16 s)
/-- a pool by its gaps: so many unusable entries, then the entry; so many at the end -/
def gap : Nat → List CpInfo → List CpInfo
  | 0, r => r
  | n + 1, r => .unusable :: gap n r
def poolList (es : List (Nat × CpInfo)) (last : Nat) : List CpInfo := es.foldr (fun e r => gap e.1 (e.2 :: r)) (gap last [])
def pool (es : List (Nat × CpInfo)) (last : Nat) : Array CpInfo := ⟨poolList es last⟩
def fileOf (pool : Array CpInfo) (this : Nat) (attrs : Array Attribute := #[]) (ms : Array MethodInfo := #[]) (fl : Nat := 33) (sup : Nat := 0) (ifs : Array Nat := #[]) (fds : Array FieldInfo := #[]) : ClassFile where
  minorVersion := 0
  majorVersion := 65
  constantPool := pool
  accessFlags := fl
  thisClass := this
  superClass := sup
  interfaces := ifs
  fields := fds
  methods := ms
  attributes := attrs
def plain (name : String) (sup : Option ClassId) : Class where
  name := name
  kind := .ordinary
  loader := none
  accessFlags := 33
  super := sup
  interfaces := #[]
  cf := none
  fields := #[]
  methods := #[]
  instanceTypes := #[]
  staticTypes := #[]
  resolved := #[]
  callSites := []
  init := .initialized
  statics := none
  mirror := none

def pool0 : Array CpInfo := pool [(5, u "<init>"), (0, u "()V"), (1, .class_ 10), (1, u "java/lang/Object")] 113

def k0c0 : Code := { maxStack := 0, maxLocals := 1, code := object_method_1_code, exceptionTable := #[], attributes := #[] }
def k0m0 : Method := { name := "<init>", desc := "()V", sig := { parameters := [], returnType := none }, accessFlags := 1, code := some k0c0 }
/-- java/lang/Object -/
def k0 : Class := { plain "java/lang/Object" none with
  accessFlags := 33
  interfaces := #[]
  cf := some (fileOf pool0 8 #[] #[{ accessFlags := 1, nameIndex := 5, descriptorIndex := 6, attributes := #[] }] 33 0 #[] #[])
  fields := #[]
  methods := #[k0m0]
  instanceTypes := #[]
  staticTypes := #[]
  resolved := Array.replicate 124 none
  statics := none }

def pool1 : Array CpInfo := pool [(2, .class_ 4), (1, u "java/lang/Object"), (0, u "<init>"), (0, u "()V"), (0, .integer 65535), (0, .integer 2147483647), (0, .class_ 10), (0, u "com/example/peptides_to_proteins/peptidestoproteins/Range"), (0, .double 4611686018427387904), (1, .methodref 9 14), (0, .nameAndType 5 15), (0, u "(DD)V"), (0, .methodref 9 17), (0, .nameAndType 18 19), (0, u "contains"), (0, u "(D)Z"), (0, .class_ 21), (0, u "com/example/peptides_to_proteins/peptidestoproteins/RangeContainsPinLaw"), (2, u "law"), (0, u "(IIII)Z")] 3

def k1m0 : Method := { name := "<init>", desc := "()V", sig := { parameters := [], returnType := none }, accessFlags := 1, code := none }
def k1c1 : Code := { maxStack := 8, maxLocals := 10, code := code, exceptionTable := #[], attributes := #[] }
def k1m1 : Method := { name := "law", desc := "(IIII)Z", sig := { parameters := [.int, .int, .int, .int], returnType := some .boolean }, accessFlags := 9, code := some k1c1 }
/-- com/example/peptides_to_proteins/peptidestoproteins/RangeContainsPinLaw -/
def k1 : Class := { plain "com/example/peptides_to_proteins/peptidestoproteins/RangeContainsPinLaw" (some 0) with
  accessFlags := 49
  interfaces := #[]
  cf := some (fileOf pool1 20 #[] #[{ accessFlags := 1, nameIndex := 5, descriptorIndex := 6, attributes := #[] }, { accessFlags := 9, nameIndex := 24, descriptorIndex := 25, attributes := #[] }] 49 2 #[] #[])
  fields := #[]
  methods := #[k1m0, k1m1]
  instanceTypes := #[]
  staticTypes := #[]
  resolved := Array.replicate 29 none
  statics := none }

def pool2 : Array CpInfo := pool [(1, .methodref 2 3), (0, .class_ 4), (0, .nameAndType 5 6), (0, u "java/lang/Object"), (0, u "<init>"), (0, u "()V"), (2, .double 9218868437227405312), (10, .fieldref 21 22), (0, .class_ 23), (0, .nameAndType 24 25), (0, u "com/example/peptides_to_proteins/peptidestoproteins/Range"), (0, u "low"), (0, u "D"), (0, .fieldref 21 27), (0, .nameAndType 28 25), (0, u "high"), (23, u "(DD)V"), (19, u "contains"), (0, u "(D)Z")] 24

def k2c0 : Code := { maxStack := 6, maxLocals := 5, code := prog_20_method_1_code, exceptionTable := #[], attributes := #[] }
def k2m0 : Method := { name := "<init>", desc := "(DD)V", sig := { parameters := [.double, .double], returnType := none }, accessFlags := 1, code := some k2c0 }
def k2c1 : Code := { maxStack := 4, maxLocals := 3, code := prog_20_method_5_code, exceptionTable := #[], attributes := #[] }
def k2m1 : Method := { name := "contains", desc := "(D)Z", sig := { parameters := [.double], returnType := some .boolean }, accessFlags := 1, code := some k2c1 }
/-- com/example/peptides_to_proteins/peptidestoproteins/Range -/
def k2 : Class := { plain "com/example/peptides_to_proteins/peptidestoproteins/Range" (some 0) with
  accessFlags := 49
  interfaces := #[]
  cf := some (fileOf pool2 21 #[] #[{ accessFlags := 1, nameIndex := 5, descriptorIndex := 52, attributes := #[] }, { accessFlags := 1, nameIndex := 72, descriptorIndex := 73, attributes := #[] }] 49 2 #[] #[{ accessFlags := 18, nameIndex := 24, descriptorIndex := 25, attributes := #[] }, { accessFlags := 18, nameIndex := 28, descriptorIndex := 25, attributes := #[] }])
  fields := #[{ name := "low", type := .double, accessFlags := 18, slot := 0, constantValue := 0 }, { name := "high", type := .double, accessFlags := 18, slot := 1, constantValue := 0 }]
  methods := #[k2m0, k2m1]
  instanceTypes := #[.double, .double]
  staticTypes := #[]
  resolved := Array.replicate 98 none
  statics := none }

def pool3 : Array CpInfo := pool [(1, u "java/lang/Cloneable"), (0, .class_ 1), (0, u "java/lang/Object"), (0, .class_ 3)] 3

/-- java/lang/Cloneable -/
def k3 : Class := { plain "java/lang/Cloneable" (some 0) with
  accessFlags := 1537
  interfaces := #[]
  cf := some (fileOf pool3 2 #[] #[] 1537 4 #[] #[])
  fields := #[]
  methods := #[]
  instanceTypes := #[]
  staticTypes := #[]
  resolved := Array.replicate 8 none
  statics := none }

def pool4 : Array CpInfo := pool [(1, u "java/io/Serializable"), (0, .class_ 1), (0, u "java/lang/Object"), (0, .class_ 3)] 3

/-- java/io/Serializable -/
def k4 : Class := { plain "java/io/Serializable" (some 0) with
  accessFlags := 1537
  interfaces := #[]
  cf := some (fileOf pool4 2 #[] #[] 1537 4 #[] #[])
  fields := #[]
  methods := #[]
  instanceTypes := #[]
  staticTypes := #[]
  resolved := Array.replicate 8 none
  statics := none }

/-- the primitive byte -/
def k5 : Class := { plain "byte" none with kind := .primitive 'B', accessFlags := 0x411 }
/-- [B -/
def k6 : Class := { plain "[B" (some 0) with kind := .array 5 .byte, interfaces := #[3, 4], accessFlags := 1041 }

/-- the primitive int -/
def k7 : Class := { plain "int" none with kind := .primitive 'I', accessFlags := 0x411 }
/-- [I -/
def k8 : Class := { plain "[I" (some 0) with kind := .array 7 .int, interfaces := #[3, 4], accessFlags := 1041 }

def heap : Heap := #[]
def classes : Array Class := #[k0, k1, k2, k3, k4, k5, k6, k7, k8]
def interned : List (Array UInt16 × Addr) := []
def slotsUsed : Nat := 0
def theMethod : MethodId := ⟨1, 1⟩
def args0 : Array Value := #[.int 5, .int 5, .int 5, .int 5]
def aboutOver (below : List Frame) : State where
  vm := { classes := classes, interned := interned.toArray }
  heap := heap
  slotsUsed := slotsUsed
  threads := #[{ frames := .invoking theMethod args0 :: below }]
def below0 : List Frame := [.native { method := ⟨0, 0⟩, args := #[] }]
def about1 : State := aboutOver below0
def p0 : Program := .bare "" "" ""
def e0 : Env := launch0.env 0 0 0
theorem w_frames : about1.frames = Frame.invoking theMethod args0 :: below0 := rfl
set_option maxRecDepth 65536 in
theorem w_args : argsFit about1.vm theMethod args0 = true := by decide +kernel
set_option maxRecDepth 65536 in
theorem w_heap : heapFits about1 = true := by decide +kernel
set_option maxRecDepth 65536 in
theorem w_runnable : about1.curStatus? = some .runnable := by decide +kernel
set_option maxRecDepth 65536 in
theorem w_alone : about1.alone = true := by decide +kernel
set_option maxRecDepth 65536 in
theorem w_named : about1.methodNamed? x = some theMethod := by decide +kernel
set_option maxRecDepth 65536 in
theorem w_hears : about1.hears theMethod below0 = true := by decide +kernel
set_option maxRecDepth 65536 in
theorem w_ripe : about1.ripe theMethod args0 below0 = true := by decide +kernel
theorem w_running : about1.status = .running := rfl
set_option maxRecDepth 65536 in
theorem w_room : about1.hasRoom e0.platform room_1 = true :=
  launch0.hasRoom_least _ room_1 (by decide +kernel) (by decide +kernel) (by decide +kernel) (by decide +kernel) (by decide +kernel) (by decide +kernel)
theorem allAtoms_all (ts : List Jvm.Cond) (a : Array Jvm.Value) (st : Jvm.State) : (allAtoms ts).before a st = ts.all (fun c => c.before a st) := by
  induction ts with
  | nil => rfl
  | cons c t ih =>
    show (Jvm.Cond.and c (allAtoms t)).before a st = _
    rw [Jvm.Cond.before_and, ih, List.all_cons]
def words1 : List Jvm.Cond := Jvm.Cond.code x code maxLocals ret :: tables_1
/-- a 'code' word, met by the world's own term for the bytes: nothing is compared byte by byte -/
theorem code_word {y : MethodName} {bytes : ByteArray} {mx : Nat} {rt : Option FieldType} {a : Array Value} {s : State} {m : MethodId} {meth : Method} {c : Code} (h1 : s.methodNamed? y = some m) (h2 : s.vm.method? m = some meth) (h3 : meth.code = some c) (h4 : c.code = bytes)
    (h5 : (c.maxLocals == mx && c.exceptionTable.isEmpty && decide (c.maxStack ≤ mostOperands) && decide (meth.sig.returnType = rt) && !meth.locks && decide (parseMethodDescriptor y.desc = some meth.sig)) = true) : (Jvm.Cond.code y bytes mx rt).before a s = true := by
  simp only [Bool.and_eq_true, beq_iff_eq, Bool.not_eq_true', decide_eq_true_eq] at h5
  obtain ⟨⟨⟨⟨⟨g1, g2⟩, g3⟩, g4⟩, g5⟩, g6⟩ := h5
  simp [Cond.before, Cond.holds, Cond.value, h1, h2, h3, h4, g1, g2, g3, g4, g5, g6]
def isCode : Jvm.Cond → Bool
  | .code _ _ _ _ => true
  | _ => false
theorem all_split {L : List Jvm.Cond} {P : Jvm.Cond → Bool} (h1 : L.all (fun c => isCode c || P c) = true) (h2 : ∀ c ∈ L.filter isCode, P c = true) : L.all P = true := by
  refine List.all_eq_true.mpr fun c hc => ?_
  have h := List.all_eq_true.mp h1 c hc
  rcases Bool.eq_false_or_eq_true (isCode c) with hi | hi
  · exact h2 c (List.mem_filter.mpr ⟨hc, hi⟩)
  · simpa [hi] using h
set_option maxRecDepth 65536 in
theorem w_c0 : (Jvm.Cond.code x code maxLocals ret).before args0 about1 = true := code_word (m := ⟨1, 1⟩) (meth := k1m1) (c := k1c1) (by decide +kernel) rfl rfl rfl (by decide +kernel)
set_option maxRecDepth 65536 in
theorem w_c1 : (Jvm.Cond.code ({ cls := "com/example/peptides_to_proteins/peptidestoproteins/Range", name := "<init>", desc := "(DD)V" } : Jvm.MethodName) prog_20_method_1_code (5 : Nat) (Option.none : Option Jvm.ClassFile.FieldType)).before args0 about1 = true := code_word (m := ⟨2, 0⟩) (meth := k2m0) (c := k2c0) (by decide +kernel) rfl rfl rfl (by decide +kernel)
set_option maxRecDepth 65536 in
theorem w_c2 : (Jvm.Cond.code ({ cls := "java/lang/Object", name := "<init>", desc := "()V" } : Jvm.MethodName) object_method_1_code (1 : Nat) (Option.none : Option Jvm.ClassFile.FieldType)).before args0 about1 = true := code_word (m := ⟨0, 0⟩) (meth := k0m0) (c := k0c0) (by decide +kernel) rfl rfl rfl (by decide +kernel)
set_option maxRecDepth 65536 in
theorem w_c3 : (Jvm.Cond.code ({ cls := "com/example/peptides_to_proteins/peptidestoproteins/Range", name := "contains", desc := "(D)Z" } : Jvm.MethodName) prog_20_method_5_code (3 : Nat) (Option.some Jvm.ClassFile.FieldType.boolean)).before args0 about1 = true := code_word (m := ⟨2, 1⟩) (meth := k2m1) (c := k2c1) (by decide +kernel) rfl rfl rfl (by decide +kernel)
def codes1 : List Jvm.Cond := [Jvm.Cond.code x code maxLocals ret, Jvm.Cond.code ({ cls := "com/example/peptides_to_proteins/peptidestoproteins/Range", name := "<init>", desc := "(DD)V" } : Jvm.MethodName) prog_20_method_1_code (5 : Nat) (Option.none : Option Jvm.ClassFile.FieldType), Jvm.Cond.code ({ cls := "java/lang/Object", name := "<init>", desc := "()V" } : Jvm.MethodName) object_method_1_code (1 : Nat) (Option.none : Option Jvm.ClassFile.FieldType), Jvm.Cond.code ({ cls := "com/example/peptides_to_proteins/peptidestoproteins/Range", name := "contains", desc := "(D)Z" } : Jvm.MethodName) prog_20_method_5_code (3 : Nat) (Option.some Jvm.ClassFile.FieldType.boolean)]
set_option maxRecDepth 65536 in
theorem codes_eq : words1.filter isCode = codes1 := rfl
theorem w_codes : ∀ c ∈ words1.filter isCode, c.before args0 about1 = true := by
  rw [codes_eq]
  intro c hc
  simp only [codes1, List.mem_cons, List.not_mem_nil, or_false] at hc
  rcases hc with rfl | rfl | rfl | rfl
  · exact w_c0
  · exact w_c1
  · exact w_c2
  · exact w_c3
set_option maxRecDepth 65536 in
theorem w_t1 : words1.all (fun c => isCode c || c.before args0 about1) = true := by decide +kernel
theorem w_tables : (allAtoms (Jvm.Cond.code x code maxLocals ret :: tables_1)).before args0 about1 = true := by
  rw [allAtoms_all]
  show words1.all (fun c => c.before args0 about1) = true
  refine all_split ?_ w_codes
  rw [w_t1]
set_option maxRecDepth 65536 in
theorem w_case : (Jvm.Cond.and given_1 narrow_1).before args0 about1 = true := by decide +kernel
theorem w_applies : (headSpec (Jvm.Cond.code x code maxLocals ret :: tables_1) room_1).applies x e0.platform about1 = true :=
  (Spec.applies_iff w_frames).mpr ⟨w_running, w_runnable, w_alone, w_named, w_hears, w_ripe, w_room, w_tables⟩
theorem atStart : AtStart classFile x code maxLocals ret World_1 tables_1 room_1 Calls_1 rest_1 Pre_1 launch0 p0 e0 about1 theMethod args0 below0 :=
  ⟨lists_1, trivial, launch0.admits_env _ _ _, launch0.least_env, fairChoices_fair.cas, fairChoices_fair.clock, w_frames, w_args, w_heap, w_applies, trivial, trivial, w_case⟩
end start1
theorem witness_1 : WitnessClaimed_1 := ⟨start1.p0, start1.e0, start1.about1, start1.theMethod, start1.args0, start1.below0, start1.atStart⟩
end Jvm.Pilot.@@N@@
