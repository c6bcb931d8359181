import JvmDerived
import JvmDerived.Pilot.@@N@@Statement
import JvmDerived.Pilot.@@N@@Code
set_option linter.unusedVariables false
set_option linter.unusedSimpArgs false
namespace Jvm.Pilot.@@N@@
open Jvm Jvm.ClassFile Sem Op Lib Jvm.Free Jvm.Stand Jvm.LawKit Jvm.RoadKit Bundle Jvm.Pilot.@@N@@.Jvm.D
def Q5 (Z : State) (h0 : Heap) (n0 : Nat) (v : Option Value) (h : Heap) (L : List Loc) : Prop := v = none ∧ Fr n0 L ∧ h = h0
theorem pn0 : plainName "java/util/AbstractCollection" = true := by first | (simp [plainName, overriddenIn]; done) | decide +kernel
theorem ef5 (m : MethodId) (x0 : Addr) : entryFrame m #[(.ref x0)] 1 = mkF m 0 #[.val (.ref x0)] [] := by first | (simp [entryFrame, mkF, argsToLocals, Value.category]; done) | rfl
theorem d5_0 : decode jdk_22_method_1_code 0 = .ok (.aload_n 0, 1) := by decide +kernel
theorem d5_1 : decode jdk_22_method_1_code 1 = .ok (.invokespecial 1, 3) := by decide +kernel
theorem d5_4 : decode jdk_22_method_1_code 4 = .ok (.return_, 1) := by decide +kernel
set_option maxRecDepth 65536 in
set_option maxHeartbeats 40000000 in
theorem rm5 (l : Launch) (Z : State) (a0 : Array Value) (hw : ∀ d ∈ tables_1, d.before a0 Z = true) (ws : List Jvm.Cond) (a1 : Addr) (h0 : Heap) (n0 : Nat) (Z0 : n0 ≤ h0.size)  :
    MetFree l (⟨"java/util/AbstractCollection", "<init>", "()V"⟩ : MethodName) (head1 (Jvm.Cond.code (⟨"java/util/AbstractCollection", "<init>", "()V"⟩ : MethodName) jdk_22_method_1_code 1 none :: ws) ({ frames := 1, cells := 0, slots := 0, locals := 12 } : Room)) (fun a U => a = #[(.ref a1)] ∧ Z.Warmed39 U.vm ∧ U.heap = h0) (fun _ _ _ _ _ => True) (fun _ U o U' => ∃ v L, o = .returned v ∧ Q5 Z h0 n0 v U'.heap L ∧ FrameEnd U o U' L ({ frames := 1, cells := 0, slots := 0, locals := 12 } : Room).cells ({ frames := 1, cells := 0, slots := 0, locals := 12 } : Room).slots) := by
  refine MetFree.of_bodySF (plainFor_of_name pn0) hisR ?_
  intro p e s m args below meth c s₁ Bd hml0 hP hK
  obtain ⟨rfl, hZ, hh⟩ := hP
  have hx := Bd.exec
  have hby := Bd.bytes
  have hml : c.maxLocals = 1 := hml0
  have hown : s.vm.findClass "java/util/AbstractCollection" = some m.cls := findClass_of_methodNamed Bd.named
  have hnm := (name_of_methodNamed Bd.named Bd.method).1
  have X0 : Stand p l e ({ frames := 1, cells := 0, slots := 0, locals := 12 } : Room) s m #[(.ref a1)] below meth c s₁ [] 0 0 := Stand.of_body Bd
  have e0 : s₁.heap = h0 := by rw [← hh, Bd.state]; rfl
  have N0 := Fr.nil n0
  have pre0 : ∀ t, Steps p.tables e below (s₁.setTop (mkF m 0 #[.val (.ref a1)] [])) t → Steps p.tables e below (s₁.setTop (entryFrame m #[(.ref a1)] 1)) t := fun t k => castTop (ef5 m a1) k
  have C1 : ∀ t, Steps p.tables e below (s₁.setTop (mkF m 1 #[.val (.ref a1)] [(.ref a1)])) t → Steps p.tables e below (s₁.setTop (entryFrame m #[(.ref a1)] 1)) t := by
    intro t k
    refine pre0 t ?_
    show Steps p.tables e below (s₁.setTop (mkF m 0 #[.val (.ref a1)] [])) _
    refine XS.aloadN X0.here hx rfl (hb hby d5_0) rfl rfl ?_
    exact k
  obtain ⟨T2, X2, e2, st2⟩ := initO X0 hx hZ hown (hw _ (List.mem_of_getElem? (i := 27) rfl)) (hw _ (List.mem_of_getElem? (i := 7) rfl)) (hw _ (List.mem_of_getElem? (i := 8) rfl)) e0 (g := (mkF m 1 #[.val (.ref a1)] [(.ref a1)])) rfl (by rw [hml]; rfl) rfl (hb hby d5_1) (by decide) (W := 0) (by show 2 * 0 + _ ≤ _; exact Nat.le_of_eq rfl) (by decide)
  have C2 : ∀ t, Steps p.tables e below (T2.setTop (mkF m 4 #[.val (.ref a1)] [])) t → Steps p.tables e below (s₁.setTop (entryFrame m #[(.ref a1)] 1)) t := fun t k => C1 t (st2 t k)
  obtain ⟨fs, hr, hrun, hended, hW, hsame⟩ := X2.leave (v := none) (fun _ => rfl)
  refine ⟨_, _, C2 _ ?_, hrun, hended, _, _, rfl, ?_, ⟨_, rfl⟩, hW, hsame.mono (by decide) (by decide)⟩
  · show Steps p.tables e below (T2.setTop (mkF m 4 #[.val (.ref a1)] [])) _
    exact X2.returnOut hx Bd.returns (hb hby d5_4) hr
  · show Q5 Z h0 n0 _ T2.heap _
    rw [e2]
    exact ⟨rfl, N0, rfl⟩
theorem pd0 : parseMethodDescriptor "()V" = some ⟨[], none⟩ := by decide +kernel
def Q4 (Z : State) (a1 : Addr) (h0 : Heap) (n0 : Nat) (v : Option Value) (h : Heap) (L : List Loc) : Prop := v = none ∧ Fr n0 L ∧ Keep h0 h [a1] ∧ Exa Z h a1 "java/util/ArrayList" ∧ Fld Z h a1 "java/util/ArrayList" "elementData" "[Ljava/lang/Object;" .null
theorem pn1 : plainName "java/util/AbstractList" = true := by first | (simp [plainName, overriddenIn]; done) | decide +kernel
theorem ef4 (m : MethodId) (x0 : Addr) : entryFrame m #[(.ref x0)] 1 = mkF m 0 #[.val (.ref x0)] [] := by first | (simp [entryFrame, mkF, argsToLocals, Value.category]; done) | rfl
theorem d4_0 : decode jdk_39_method_1_code 0 = .ok (.aload_n 0, 1) := by decide +kernel
theorem d4_1 : decode jdk_39_method_1_code 1 = .ok (.invokespecial 1, 3) := by decide +kernel
theorem d4_4 : decode jdk_39_method_1_code 4 = .ok (.aload_n 0, 1) := by decide +kernel
theorem d4_5 : decode jdk_39_method_1_code 5 = .ok (.iconst 0, 1) := by decide +kernel
theorem d4_6 : decode jdk_39_method_1_code 6 = .ok (.putfield 7, 3) := by decide +kernel
theorem d4_9 : decode jdk_39_method_1_code 9 = .ok (.return_, 1) := by decide +kernel
set_option maxRecDepth 65536 in
set_option maxHeartbeats 40000000 in
theorem rm4 (l : Launch) (Z : State) (a0 : Array Value) (hw : ∀ d ∈ tables_1, d.before a0 Z = true) (ws : List Jvm.Cond) (a1 : Addr) (h0 : Heap) (n0 : Nat) (Z0 : n0 ≤ h0.size) (F1 : Fld Z h0 a1 "java/util/AbstractList" "modCount" "I" (.int 0)) (F2 : Fld Z h0 a1 "java/util/ArrayList" "elementData" "[Ljava/lang/Object;" .null) (E1 : Exa Z h0 a1 "java/util/ArrayList") (g1 : n0 ≤ a1) :
    MetFree l (⟨"java/util/AbstractList", "<init>", "()V"⟩ : MethodName) (head1 (Jvm.Cond.code (⟨"java/util/AbstractList", "<init>", "()V"⟩ : MethodName) jdk_39_method_1_code 1 none :: ws) ({ frames := 2, cells := 0, slots := 0, locals := 24 } : Room)) (fun a U => a = #[(.ref a1)] ∧ Z.Warmed39 U.vm ∧ U.heap = h0) (fun _ _ _ _ _ => True) (fun _ U o U' => ∃ v L, o = .returned v ∧ Q4 Z a1 h0 n0 v U'.heap L ∧ FrameEnd U o U' L ({ frames := 2, cells := 0, slots := 0, locals := 24 } : Room).cells ({ frames := 2, cells := 0, slots := 0, locals := 24 } : Room).slots) := by
  refine MetFree.of_bodySF (plainFor_of_name pn1) hisR ?_
  intro p e s m args below meth c s₁ Bd hml0 hP hK
  obtain ⟨rfl, hZ, hh⟩ := hP
  have hx := Bd.exec
  have hby := Bd.bytes
  have hml : c.maxLocals = 1 := hml0
  have hown : s.vm.findClass "java/util/AbstractList" = some m.cls := findClass_of_methodNamed Bd.named
  have hnm := (name_of_methodNamed Bd.named Bd.method).1
  have X0 : Stand p l e ({ frames := 2, cells := 0, slots := 0, locals := 24 } : Room) s m #[(.ref a1)] below meth c s₁ [] 0 0 := Stand.of_body Bd
  have e0 : s₁.heap = h0 := by rw [← hh, Bd.state]; rfl
  have N0 := Fr.nil n0
  have pre0 : ∀ t, Steps p.tables e below (s₁.setTop (mkF m 0 #[.val (.ref a1)] [])) t → Steps p.tables e below (s₁.setTop (entryFrame m #[(.ref a1)] 1)) t := fun t k => castTop (ef4 m a1) k
  have C3 : ∀ t, Steps p.tables e below (s₁.setTop (mkF m 1 #[.val (.ref a1)] [(.ref a1)])) t → Steps p.tables e below (s₁.setTop (entryFrame m #[(.ref a1)] 1)) t := by
    intro t k
    refine pre0 t ?_
    show Steps p.tables e below (s₁.setTop (mkF m 0 #[.val (.ref a1)] [])) _
    refine XS.aloadN X0.here hx rfl (hb hby d4_0) rfl rfl ?_
    exact k
  obtain ⟨_, _, ⟨T4, L4, k4, n4⟩, -, X4, ⟨Lc4, hQ4, l4, y4, z4⟩, st4⟩ := X0.specialBack hx (y := (⟨"java/util/AbstractCollection", "<init>", "()V"⟩ : MethodName)) rfl hown (mvT hZ (hw _ (List.mem_of_getElem? (i := 21) rfl))) (mvT hZ (hw _ (List.mem_of_getElem? (i := 22) rfl))) (mvT hZ (hw _ (List.mem_of_getElem? (i := 26) rfl))) (by decide) (backOf (W := 0) (rm5 l Z a0 hw [] a1 h0 n0 Z0) hZ (hw _ (List.mem_of_getElem? (i := 26) rfl)) (hw _ (List.mem_of_getElem? (i := 25) rfl)) (by decide) (by decide)) (g := (mkF m 1 #[.val (.ref a1)] [(.ref a1)])) rfl (by rw [hml]; rfl) (Steps.refl _) (a := a1) (argsL := []) (rest := []) (lenOf pd0 rfl) rfl (by show 2 * 0 + _ ≤ _; exact Nat.le_of_eq rfl) (hb hby d4_1) (fun _ _ => ⟨rfl, e0, (by decide : 0 + 0 ≤ _), (by decide : 0 + 0 ≤ _)⟩)
  dsimp only [Pt.U, Pt.locs, Pt.cells, Pt.slots] at X4 l4 y4 z4 st4 hQ4
  subst l4 y4 z4
  obtain ⟨rfl, N4q, q4⟩ := hQ4
  have N4 := Fr.app N0 N4q
  have C4 : ∀ t, Steps p.tables e below (T4.setTop (mkF m 4 #[.val (.ref a1)] [])) t → Steps p.tables e below (s₁.setTop (entryFrame m #[(.ref a1)] 1)) t := fun t k => C3 t (st4.trans k)
  have C5 : ∀ t, Steps p.tables e below (T4.setTop (mkF m 6 #[.val (.ref a1)] [(.int (0 : Int32)), (.ref a1)])) t → Steps p.tables e below (s₁.setTop (entryFrame m #[(.ref a1)] 1)) t := by
    intro t k
    refine C4 t ?_
    show Steps p.tables e below (T4.setTop (mkF m 4 #[.val (.ref a1)] [])) _
    refine XS.aloadN X4.here hx rfl (hb hby d4_4) rfl rfl ?_
    show Steps p.tables e below (T4.setTop (mkF m 5 #[.val (.ref a1)] [(.ref a1)])) _
    refine XS.iconst X4.here hx rfl (hb hby d4_5) ?_
    exact k
  obtain ⟨T6, h6, X6, e6, W6, st6⟩ := putF X4 hx hZ hown (host := "") (Or.inl (hw _ (List.mem_of_getElem? (i := 28) rfl))) Via.refl q4 F1 E1 (Or.inl (hw _ (List.mem_of_getElem? (i := 29) rfl))) (hw _ (List.mem_of_getElem? (i := 10) rfl)) (ty := .int) (by decide) rfl rfl (g := (mkF m 6 #[.val (.ref a1)] [(.int (0 : Int32)), (.ref a1)])) rfl rfl (hb hby d4_6)
  have N6 := Fr.snoc X6 N4 g1
  have C6 : ∀ t, Steps p.tables e below (T6.setTop (mkF m 9 #[.val (.ref a1)] [])) t → Steps p.tables e below (s₁.setTop (entryFrame m #[(.ref a1)] 1)) t := fun t k => C5 t (st6 t k)
  have K : Keep h0 h6 [a1] := (Keep.refl h0 [a1]).wr W6 (Or.inl (List.mem_of_getElem? (i := 0) rfl))
  have FE2 := F2.other W6 (Or.inr (slot_ne (Or.inl (hw _ (List.mem_of_getElem? (i := 32) rfl))) (Or.inl (hw _ (List.mem_of_getElem? (i := 29) rfl))) (by decide) (t := (.array (.object "java/lang/Object"))) (t' := .int) (by decide) (by decide)))
  obtain ⟨fs, hr, hrun, hended, hW, hsame⟩ := X6.leave (v := none) (fun _ => rfl)
  refine ⟨_, _, C6 _ ?_, hrun, hended, _, _, rfl, ?_, ⟨_, rfl⟩, hW, hsame.mono (by decide) (by decide)⟩
  · show Steps p.tables e below (T6.setTop (mkF m 9 #[.val (.ref a1)] [])) _
    exact X6.returnOut hx Bd.returns (hb hby d4_9) hr
  · show Q4 Z a1 h0 n0 _ T6.heap _
    rw [e6]
    exact ⟨rfl, N6, K, E1.wr W6, FE2⟩
theorem own_sta {Z : State} {h h' : Heap} {a : Addr} {C n d K : String} {v : Value} (S : Sta Z h C n d v) (Kp : Keep h h' [a]) (E : Exa Z h a K) : Sta Z h' C n d v := by
  obtain ⟨cf, i, k, f, st, cell, h1, h2, h3, h4, h5, h6, h7⟩ := S
  refine ⟨cf, i, k, f, st, cell, h1, h2, h3, h4, Kp.2.1 st cell h5 (fun q => ?_), h6, h7⟩
  obtain ⟨c2, k2, e1, -, -, e4, -⟩ := E
  have q := List.mem_singleton.mp q
  subst q
  cases h5.symm.trans e1
  rw [h6] at e4
  cases e4
def Q3 (Z : State) (a1 : Addr) (h0 : Heap) (n0 : Nat) (v : Option Value) (h : Heap) (L : List Loc) : Prop := v = none ∧ Fr n0 L ∧ Keep h0 h [a1]
theorem pn2 : plainName "java/util/ArrayList" = true := by first | (simp [plainName, overriddenIn]; done) | decide +kernel
theorem ef3 (m : MethodId) (x0 : Addr) : entryFrame m #[(.ref x0)] 1 = mkF m 0 #[.val (.ref x0)] [] := by first | (simp [entryFrame, mkF, argsToLocals, Value.category]; done) | rfl
theorem d3_0 : decode jdk_38_method_2_code 0 = .ok (.aload_n 0, 1) := by decide +kernel
theorem d3_1 : decode jdk_38_method_2_code 1 = .ok (.invokespecial 1, 3) := by decide +kernel
theorem d3_4 : decode jdk_38_method_2_code 4 = .ok (.aload_n 0, 1) := by decide +kernel
theorem d3_5 : decode jdk_38_method_2_code 5 = .ok (.getstatic 39, 3) := by decide +kernel
theorem d3_8 : decode jdk_38_method_2_code 8 = .ok (.putfield 9, 3) := by decide +kernel
theorem d3_11 : decode jdk_38_method_2_code 11 = .ok (.return_, 1) := by decide +kernel
set_option maxRecDepth 65536 in
set_option maxHeartbeats 40000000 in
theorem rm3 (l : Launch) (Z : State) (a0 : Array Value) (hw : ∀ d ∈ tables_1, d.before a0 Z = true) (ws : List Jvm.Cond) (a1 ad : Addr) (h0 : Heap) (n0 : Nat) (Z0 : n0 ≤ h0.size) (F1 : Fld Z h0 a1 "java/util/AbstractList" "modCount" "I" (.int 0)) (F2 : Fld Z h0 a1 "java/util/ArrayList" "elementData" "[Ljava/lang/Object;" .null) (E1 : Exa Z h0 a1 "java/util/ArrayList") (g1 : n0 ≤ a1) (S1 : Sta Z h0 "java/util/ArrayList" "DEFAULTCAPACITY_EMPTY_ELEMENTDATA" "[Ljava/lang/Object;" (.ref ad)) :
    MetFree l (⟨"java/util/ArrayList", "<init>", "()V"⟩ : MethodName) (head1 (Jvm.Cond.code (⟨"java/util/ArrayList", "<init>", "()V"⟩ : MethodName) jdk_38_method_2_code 1 none :: ws) ({ frames := 3, cells := 0, slots := 0, locals := 36 } : Room)) (fun a U => a = #[(.ref a1)] ∧ Z.Warmed39 U.vm ∧ U.heap = h0) (fun _ _ _ _ _ => True) (fun _ U o U' => ∃ v L, o = .returned v ∧ Q3 Z a1 h0 n0 v U'.heap L ∧ FrameEnd U o U' L ({ frames := 3, cells := 0, slots := 0, locals := 36 } : Room).cells ({ frames := 3, cells := 0, slots := 0, locals := 36 } : Room).slots) := by
  refine MetFree.of_bodySF (plainFor_of_name pn2) hisR ?_
  intro p e s m args below meth c s₁ Bd hml0 hP hK
  obtain ⟨rfl, hZ, hh⟩ := hP
  have hx := Bd.exec
  have hby := Bd.bytes
  have hml : c.maxLocals = 1 := hml0
  have hown : s.vm.findClass "java/util/ArrayList" = some m.cls := findClass_of_methodNamed Bd.named
  have hnm := (name_of_methodNamed Bd.named Bd.method).1
  have X0 : Stand p l e ({ frames := 3, cells := 0, slots := 0, locals := 36 } : Room) s m #[(.ref a1)] below meth c s₁ [] 0 0 := Stand.of_body Bd
  have e0 : s₁.heap = h0 := by rw [← hh, Bd.state]; rfl
  have N0 := Fr.nil n0
  have pre0 : ∀ t, Steps p.tables e below (s₁.setTop (mkF m 0 #[.val (.ref a1)] [])) t → Steps p.tables e below (s₁.setTop (entryFrame m #[(.ref a1)] 1)) t := fun t k => castTop (ef3 m a1) k
  have C7 : ∀ t, Steps p.tables e below (s₁.setTop (mkF m 1 #[.val (.ref a1)] [(.ref a1)])) t → Steps p.tables e below (s₁.setTop (entryFrame m #[(.ref a1)] 1)) t := by
    intro t k
    refine pre0 t ?_
    show Steps p.tables e below (s₁.setTop (mkF m 0 #[.val (.ref a1)] [])) _
    refine XS.aloadN X0.here hx rfl (hb hby d3_0) rfl rfl ?_
    exact k
  obtain ⟨_, _, ⟨T8, L8, k8, n8⟩, -, X8, ⟨Lc8, hQ8, l8, y8, z8⟩, st8⟩ := X0.specialBack hx (y := (⟨"java/util/AbstractList", "<init>", "()V"⟩ : MethodName)) rfl hown (mvT hZ (hw _ (List.mem_of_getElem? (i := 15) rfl))) (mvT hZ (hw _ (List.mem_of_getElem? (i := 16) rfl))) (mvT hZ (hw _ (List.mem_of_getElem? (i := 20) rfl))) (by decide) (backOf (W := 0) (rm4 l Z a0 hw [] a1 h0 n0 Z0 F1 F2 E1 g1) hZ (hw _ (List.mem_of_getElem? (i := 20) rfl)) (hw _ (List.mem_of_getElem? (i := 19) rfl)) (by decide) (by decide)) (g := (mkF m 1 #[.val (.ref a1)] [(.ref a1)])) rfl (by rw [hml]; rfl) (Steps.refl _) (a := a1) (argsL := []) (rest := []) (lenOf pd0 rfl) rfl (by show 2 * 0 + _ ≤ _; exact Nat.le_of_eq rfl) (hb hby d3_1) (fun _ _ => ⟨rfl, e0, (by decide : 0 + 0 ≤ _), (by decide : 0 + 0 ≤ _)⟩)
  dsimp only [Pt.U, Pt.locs, Pt.cells, Pt.slots] at X8 l8 y8 z8 st8 hQ8
  subst l8 y8 z8
  obtain ⟨rfl, N8q, K8, E8x, F8x⟩ := hQ8
  have N8 := Fr.app N0 N8q
  have C8 : ∀ t, Steps p.tables e below (T8.setTop (mkF m 4 #[.val (.ref a1)] [])) t → Steps p.tables e below (s₁.setTop (entryFrame m #[(.ref a1)] 1)) t := fun t k => C7 t (st8.trans k)
  have S2 : Sta Z T8.heap "java/util/ArrayList" "DEFAULTCAPACITY_EMPTY_ELEMENTDATA" "[Ljava/lang/Object;" (.ref ad) := own_sta S1 K8 E1
  have C9 : ∀ t, Steps p.tables e below (T8.setTop (mkF m 5 #[.val (.ref a1)] [(.ref a1)])) t → Steps p.tables e below (s₁.setTop (entryFrame m #[(.ref a1)] 1)) t := by
    intro t k
    refine C8 t ?_
    show Steps p.tables e below (T8.setTop (mkF m 4 #[.val (.ref a1)] [])) _
    refine XS.aloadN X8.here hx rfl (hb hby d3_4) rfl rfl ?_
    exact k
  obtain ⟨T10, X10, e10, st10⟩ := getS X8 hx hZ hown (host := "") (hw _ (List.mem_of_getElem? (i := 30) rfl)) Via.refl rfl S2 (g := (mkF m 5 #[.val (.ref a1)] [(.ref a1)])) rfl (hb hby d3_5)
  have C10 : ∀ t, Steps p.tables e below (T10.setTop (mkF m 8 #[.val (.ref a1)] [(.ref ad), (.ref a1)])) t → Steps p.tables e below (s₁.setTop (entryFrame m #[(.ref a1)] 1)) t := fun t k => C9 t (st10 t k)
  obtain ⟨T11, h11, X11, e11, W11, st11⟩ := putF X10 hx hZ hown (host := "") (Or.inl (hw _ (List.mem_of_getElem? (i := 31) rfl))) Via.refl e10 F8x E8x (Or.inl (hw _ (List.mem_of_getElem? (i := 32) rfl))) (hw _ (List.mem_of_getElem? (i := 10) rfl)) (ty := (.array (.object "java/lang/Object"))) (by decide) rfl rfl (g := (mkF m 8 #[.val (.ref a1)] [(.ref ad), (.ref a1)])) rfl rfl (hb hby d3_8)
  have N11 := Fr.snoc X11 N8 g1
  have C11 : ∀ t, Steps p.tables e below (T11.setTop (mkF m 11 #[.val (.ref a1)] [])) t → Steps p.tables e below (s₁.setTop (entryFrame m #[(.ref a1)] 1)) t := fun t k => C10 t (st11 t k)
  have K : Keep h0 h11 [a1] := K8.wr W11 (Or.inl (List.mem_of_getElem? (i := 0) rfl))
  obtain ⟨fs, hr, hrun, hended, hW, hsame⟩ := X11.leave (v := none) (fun _ => rfl)
  refine ⟨_, _, C11 _ ?_, hrun, hended, _, _, rfl, ?_, ⟨_, rfl⟩, hW, hsame.mono (by decide) (by decide)⟩
  · show Steps p.tables e below (T11.setTop (mkF m 11 #[.val (.ref a1)] [])) _
    exact X11.returnOut hx Bd.returns (hb hby d3_11) hr
  · show Q3 Z a1 h0 n0 _ T11.heap _
    rw [e11]
    exact ⟨rfl, N11, K⟩
def Q1 (Z : State) (a1 : Addr) (y : UInt64) (h0 : Heap) (n0 : Nat) (v : Option Value) (h : Heap) (L : List Loc) : Prop := v = none ∧ Fr n0 L ∧ Exa Z h a1 "com/example/stairsim/stairsim/simulation/CueMark" ∧ Fld Z h a1 "com/example/stairsim/stairsim/simulation/CueMark" "passedS" "D" (.double y) ∧ h0.size ≤ h.size
theorem pn3 : plainName "com/example/stairsim/stairsim/simulation/CueMark" = true := by first | (simp [plainName, overriddenIn]; done) | decide +kernel
theorem ef1 (m : MethodId) (x0 : Addr) (x1 : UInt64) : entryFrame m #[(.ref x0), (.double x1)] 3 = mkF m 0 #[.val (.ref x0), .val (.double x1), .second] [] := by first | (simp [entryFrame, mkF, argsToLocals, Value.category]; done) | rfl
theorem d1_0 : decode prog_33_method_1_code 0 = .ok (.aload_n 0, 1) := by decide +kernel
theorem d1_1 : decode prog_33_method_1_code 1 = .ok (.invokespecial 1, 3) := by decide +kernel
theorem d1_4 : decode prog_33_method_1_code 4 = .ok (.aload_n 0, 1) := by decide +kernel
theorem d1_5 : decode prog_33_method_1_code 5 = .ok (.new 7, 3) := by decide +kernel
theorem d1_8 : decode prog_33_method_1_code 8 = .ok (.dup, 1) := by decide +kernel
theorem d1_9 : decode prog_33_method_1_code 9 = .ok (.invokespecial 9, 3) := by decide +kernel
theorem d1_12 : decode prog_33_method_1_code 12 = .ok (.putfield 10, 3) := by decide +kernel
theorem d1_15 : decode prog_33_method_1_code 15 = .ok (.aload_n 0, 1) := by decide +kernel
theorem d1_16 : decode prog_33_method_1_code 16 = .ok (.ldc2_w 18, 3) := by decide +kernel
theorem d1_19 : decode prog_33_method_1_code 19 = .ok (.putfield 20, 3) := by decide +kernel
theorem d1_22 : decode prog_33_method_1_code 22 = .ok (.aload_n 0, 1) := by decide +kernel
theorem d1_23 : decode prog_33_method_1_code 23 = .ok (.dload_n 1, 1) := by decide +kernel
theorem d1_24 : decode prog_33_method_1_code 24 = .ok (.putfield 24, 3) := by decide +kernel
theorem d1_27 : decode prog_33_method_1_code 27 = .ok (.return_, 1) := by decide +kernel
set_option maxRecDepth 65536 in
set_option maxHeartbeats 40000000 in
theorem rm1 (l : Launch) (Z : State) (a0 : Array Value) (hw : ∀ d ∈ tables_1, d.before a0 Z = true) (ws : List Jvm.Cond) (a1 : Addr) (x1 : UInt64) (ad : Addr) (h0 : Heap) (n0 : Nat) (Z0 : n0 ≤ h0.size) (F1 : Fld Z h0 a1 "com/example/stairsim/stairsim/simulation/CueMark" "held" "Ljava/util/List;" .null) (F2 : Fld Z h0 a1 "com/example/stairsim/stairsim/simulation/CueMark" "passedS" "D" (.double 0)) (F3 : Fld Z h0 a1 "com/example/stairsim/stairsim/simulation/CueMark" "positionM" "D" (.double 0)) (E1 : Exa Z h0 a1 "com/example/stairsim/stairsim/simulation/CueMark") (g1 : n0 ≤ a1) (S1 : Sta Z h0 "java/util/ArrayList" "DEFAULTCAPACITY_EMPTY_ELEMENTDATA" "[Ljava/lang/Object;" (.ref ad)) :
    MetFree l (⟨"com/example/stairsim/stairsim/simulation/CueMark", "<init>", "(D)V"⟩ : MethodName) (head1 (Jvm.Cond.code (⟨"com/example/stairsim/stairsim/simulation/CueMark", "<init>", "(D)V"⟩ : MethodName) prog_33_method_1_code 3 none :: ws) ({ frames := 4, cells := 1, slots := 3, locals := 50 } : Room)) (fun a U => a = #[(.ref a1), (.double x1)] ∧ Z.Warmed39 U.vm ∧ U.heap = h0) (fun _ _ _ _ _ => True) (fun _ U o U' => ∃ v L, o = .returned v ∧ Q1 Z a1 9218868437227405312 h0 n0 v U'.heap L ∧ FrameEnd U o U' L ({ frames := 4, cells := 1, slots := 3, locals := 50 } : Room).cells ({ frames := 4, cells := 1, slots := 3, locals := 50 } : Room).slots) := by
  refine MetFree.of_bodySF (plainFor_of_name pn3) hisR ?_
  intro p e s m args below meth c s₁ Bd hml0 hP hK
  obtain ⟨rfl, hZ, hh⟩ := hP
  have hx := Bd.exec
  have hby := Bd.bytes
  have hml : c.maxLocals = 3 := hml0
  have hown : s.vm.findClass "com/example/stairsim/stairsim/simulation/CueMark" = some m.cls := findClass_of_methodNamed Bd.named
  have hnm := (name_of_methodNamed Bd.named Bd.method).1
  have X0 : Stand p l e ({ frames := 4, cells := 1, slots := 3, locals := 50 } : Room) s m #[(.ref a1), (.double x1)] below meth c s₁ [] 0 0 := Stand.of_body Bd
  have e0 : s₁.heap = h0 := by rw [← hh, Bd.state]; rfl
  have N0 := Fr.nil n0
  have pre0 : ∀ t, Steps p.tables e below (s₁.setTop (mkF m 0 #[.val (.ref a1), .val (.double x1), .second] [])) t → Steps p.tables e below (s₁.setTop (entryFrame m #[(.ref a1), (.double x1)] 3)) t := fun t k => castTop (ef1 m a1 x1) k
  have C12 : ∀ t, Steps p.tables e below (s₁.setTop (mkF m 1 #[.val (.ref a1), .val (.double x1), .second] [(.ref a1)])) t → Steps p.tables e below (s₁.setTop (entryFrame m #[(.ref a1), (.double x1)] 3)) t := by
    intro t k
    refine pre0 t ?_
    show Steps p.tables e below (s₁.setTop (mkF m 0 #[.val (.ref a1), .val (.double x1), .second] [])) _
    refine XS.aloadN X0.here hx rfl (hb hby d1_0) rfl rfl ?_
    exact k
  obtain ⟨T13, X13, e13, st13⟩ := initO X0 hx hZ hown (hw _ (List.mem_of_getElem? (i := 6) rfl)) (hw _ (List.mem_of_getElem? (i := 7) rfl)) (hw _ (List.mem_of_getElem? (i := 8) rfl)) e0 (g := (mkF m 1 #[.val (.ref a1), .val (.double x1), .second] [(.ref a1)])) rfl (by rw [hml]; rfl) rfl (hb hby d1_1) (by decide) (W := 0) (by show 2 * 0 + _ ≤ _; exact Nat.le_of_eq rfl) (by decide)
  have C13 : ∀ t, Steps p.tables e below (T13.setTop (mkF m 4 #[.val (.ref a1), .val (.double x1), .second] [])) t → Steps p.tables e below (s₁.setTop (entryFrame m #[(.ref a1), (.double x1)] 3)) t := fun t k => C12 t (st13 t k)
  have C14 : ∀ t, Steps p.tables e below (T13.setTop (mkF m 5 #[.val (.ref a1), .val (.double x1), .second] [(.ref a1)])) t → Steps p.tables e below (s₁.setTop (entryFrame m #[(.ref a1), (.double x1)] 3)) t := by
    intro t k
    refine C13 t ?_
    show Steps p.tables e below (T13.setTop (mkF m 4 #[.val (.ref a1), .val (.double x1), .second] [])) _
    refine XS.aloadN X13.here hx rfl (hb hby d1_4) rfl rfl ?_
    exact k
  obtain ⟨T15, h15, X15, e15, E15, A15, D15, -, st15⟩ := newO X13 hx hZ hown (hw _ (List.mem_of_getElem? (i := 9) rfl)) (hw _ (List.mem_of_getElem? (i := 10) rfl)) (hw _ (List.mem_of_getElem? (i := 11) rfl)) e13 (g := (mkF m 5 #[.val (.ref a1), .val (.double x1), .second] [(.ref a1)])) rfl (hb hby d1_5) (by decide) (by decide)
  obtain ⟨b15, g15⟩ : ∃ z, z = h0.size := ⟨_, rfl⟩
  rw [← g15] at A15 D15 st15
  have C15 : ∀ t, Steps p.tables e below (T15.setTop (mkF m 8 #[.val (.ref a1), .val (.double x1), .second] [(.ref b15), (.ref a1)])) t → Steps p.tables e below (s₁.setTop (entryFrame m #[(.ref a1), (.double x1)] 3)) t := fun t k => C14 t (st15 t k)
  have M1 : Fld Z h15 b15 "java/util/AbstractList" "modCount" "I" (.int 0) := D15 (Or.inl (hw _ (List.mem_of_getElem? (i := 29) rfl))) (ty := .int) (by decide)
  have M2 : Fld Z h15 b15 "java/util/ArrayList" "elementData" "[Ljava/lang/Object;" .null := D15 (Or.inl (hw _ (List.mem_of_getElem? (i := 32) rfl))) (ty := (.array (.object "java/lang/Object"))) (by decide)
  have Z1 : n0 ≤ h15.size := Nat.le_trans Z0 E15.1
  have gb : n0 ≤ b15 := Nat.le_trans Z0 (Nat.le_of_eq g15.symm)
  have a_b : a1 ≠ b15 := Nat.ne_of_lt (Nat.lt_of_lt_of_le F1.lt (Nat.le_of_eq g15.symm))
  have C16 : ∀ t, Steps p.tables e below (T15.setTop (mkF m 9 #[.val (.ref a1), .val (.double x1), .second] [(.ref b15), (.ref b15), (.ref a1)])) t → Steps p.tables e below (s₁.setTop (entryFrame m #[(.ref a1), (.double x1)] 3)) t := by
    intro t k
    refine C15 t ?_
    show Steps p.tables e below (T15.setTop (mkF m 8 #[.val (.ref a1), .val (.double x1), .second] [(.ref b15), (.ref a1)])) _
    refine XS.dup X15.here hx rfl (hb hby d1_8) rfl rfl ?_
    exact k
  obtain ⟨_, _, ⟨T17, L17, k17, n17⟩, -, X17, ⟨Lc17, hQ17, l17, y17, z17⟩, st17⟩ := X15.specialBack hx (y := (⟨"java/util/ArrayList", "<init>", "()V"⟩ : MethodName)) rfl hown (mvT hZ (hw _ (List.mem_of_getElem? (i := 12) rfl))) (mvT hZ (hw _ (List.mem_of_getElem? (i := 13) rfl))) (mvT hZ (hw _ (List.mem_of_getElem? (i := 14) rfl))) (by decide) (backOf (W := 2) (rm3 l Z a0 hw [] b15 ad h15 n0 Z1 M1 M2 A15 gb (S1.ext E15)) hZ (hw _ (List.mem_of_getElem? (i := 14) rfl)) (hw _ (List.mem_of_getElem? (i := 11) rfl)) (by decide) (by decide)) (g := (mkF m 9 #[.val (.ref a1), .val (.double x1), .second] [(.ref b15), (.ref b15), (.ref a1)])) rfl (by rw [hml]; rfl) (Steps.refl _) (a := b15) (argsL := []) (rest := [(.ref b15), (.ref a1)]) (lenOf pd0 rfl) rfl (by show 2 * 0 + _ ≤ _; exact Nat.le_of_eq rfl) (hb hby d1_9) (fun _ _ => ⟨rfl, e15, (by decide : 1 + 0 ≤ _), (by decide : 3 + 0 ≤ _)⟩)
  dsimp only [Pt.U, Pt.locs, Pt.cells, Pt.slots] at X17 l17 y17 z17 st17 hQ17
  subst l17 y17 z17
  obtain ⟨rfl, N17q, K17⟩ := hQ17
  have N17 := Fr.app N0 N17q
  have C17 : ∀ t, Steps p.tables e below (T17.setTop (mkF m 12 #[.val (.ref a1), .val (.double x1), .second] [(.ref b15), (.ref a1)])) t → Steps p.tables e below (s₁.setTop (entryFrame m #[(.ref a1), (.double x1)] 3)) t := fun t k => C16 t (st17.trans k)
  have F1a := (F1.ext E15).keep K17 (fun q => a_b (List.mem_singleton.mp q))
  have F2a := (F2.ext E15).keep K17 (fun q => a_b (List.mem_singleton.mp q))
  have F3a := (F3.ext E15).keep K17 (fun q => a_b (List.mem_singleton.mp q))
  have E1a := (E1.ext E15).keep K17
  have KK : Keep h0 T17.heap [a1] := ((Keep.refl h0 [a1]).ext E15).trans K17 (fun x hx => by cases List.mem_singleton.mp hx; exact Or.inr (Nat.le_of_eq g15.symm))
  obtain ⟨T18, h18, X18, e18, W18, st18⟩ := putF X17 hx hZ hown (host := "") (Or.inl (hw _ (List.mem_of_getElem? (i := 33) rfl))) Via.refl rfl F1a E1a (Or.inr ⟨(hw _ (List.mem_of_getElem? (i := 34) rfl)), rfl, hnm⟩) (hw _ (List.mem_of_getElem? (i := 1) rfl)) (ty := (.object "java/util/List")) (by decide) rfl rfl (g := (mkF m 12 #[.val (.ref a1), .val (.double x1), .second] [(.ref b15), (.ref a1)])) rfl rfl (hb hby d1_12)
  have N18 := Fr.snoc X18 N17 g1
  have C18 : ∀ t, Steps p.tables e below (T18.setTop (mkF m 15 #[.val (.ref a1), .val (.double x1), .second] [])) t → Steps p.tables e below (s₁.setTop (entryFrame m #[(.ref a1), (.double x1)] 3)) t := fun t k => C17 t (st18 t k)
  have F2b := F2a.other W18 (Or.inr (slot_ne (Or.inl (hw _ (List.mem_of_getElem? (i := 37) rfl))) (Or.inr (hw _ (List.mem_of_getElem? (i := 34) rfl))) (by decide) (t := .double) (t' := (.object "java/util/List")) (by decide) (by decide)))
  have F3b := F3a.other W18 (Or.inr (slot_ne (Or.inr (hw _ (List.mem_of_getElem? (i := 39) rfl))) (Or.inr (hw _ (List.mem_of_getElem? (i := 34) rfl))) (by decide) (t := .double) (t' := (.object "java/util/List")) (by decide) (by decide)))
  have C19 : ∀ t, Steps p.tables e below (T18.setTop (mkF m 19 #[.val (.ref a1), .val (.double x1), .second] [(.double 9218868437227405312), (.ref a1)])) t → Steps p.tables e below (s₁.setTop (entryFrame m #[(.ref a1), (.double x1)] 3)) t := by
    intro t k
    refine C18 t ?_
    show Steps p.tables e below (T18.setTop (mkF m 15 #[.val (.ref a1), .val (.double x1), .second] [])) _
    refine XS.aloadN X18.here hx rfl (hb hby d1_15) rfl rfl ?_
    show Steps p.tables e below (T18.setTop (mkF m 16 #[.val (.ref a1), .val (.double x1), .second] [(.ref a1)])) _
    refine X18.ldc2DoubleC hx hown (mvT hZ (hw _ (List.mem_of_getElem? (i := 35) rfl))) (g := (mkF m 16 #[.val (.ref a1), .val (.double x1), .second] [(.ref a1)])) rfl (hb hby d1_16) _ ?_
    exact k
  obtain ⟨T20, h20, X20, e20, W20, st20⟩ := putF X18 hx hZ hown (host := "") (Or.inl (hw _ (List.mem_of_getElem? (i := 36) rfl))) Via.refl e18 F2b (E1a.wr W18) (Or.inl (hw _ (List.mem_of_getElem? (i := 37) rfl))) (hw _ (List.mem_of_getElem? (i := 1) rfl)) (ty := .double) (by decide) rfl rfl (g := (mkF m 19 #[.val (.ref a1), .val (.double x1), .second] [(.double 9218868437227405312), (.ref a1)])) rfl rfl (hb hby d1_19)
  have N20 := Fr.snoc X20 N18 g1
  have C20 : ∀ t, Steps p.tables e below (T20.setTop (mkF m 22 #[.val (.ref a1), .val (.double x1), .second] [])) t → Steps p.tables e below (s₁.setTop (entryFrame m #[(.ref a1), (.double x1)] 3)) t := fun t k => C19 t (st20 t k)
  have F2c := F2b.same W20
  have F3c := F3b.other W20 (Or.inr (slot_ne (Or.inr (hw _ (List.mem_of_getElem? (i := 39) rfl))) (Or.inl (hw _ (List.mem_of_getElem? (i := 37) rfl))) (by decide) (t := .double) (t' := .double) (by decide) (by decide)))
  have C21 : ∀ t, Steps p.tables e below (T20.setTop (mkF m 24 #[.val (.ref a1), .val (.double x1), .second] [(.double x1), (.ref a1)])) t → Steps p.tables e below (s₁.setTop (entryFrame m #[(.ref a1), (.double x1)] 3)) t := by
    intro t k
    refine C20 t ?_
    show Steps p.tables e below (T20.setTop (mkF m 22 #[.val (.ref a1), .val (.double x1), .second] [])) _
    refine XS.aloadN X20.here hx rfl (hb hby d1_22) rfl rfl ?_
    show Steps p.tables e below (T20.setTop (mkF m 23 #[.val (.ref a1), .val (.double x1), .second] [(.ref a1)])) _
    refine XS.dloadN X20.here hx rfl (hb hby d1_23) rfl ?_
    exact k
  obtain ⟨T22, h22, X22, e22, W22, st22⟩ := putF X20 hx hZ hown (host := "") (Or.inl (hw _ (List.mem_of_getElem? (i := 38) rfl))) Via.refl e20 F3c ((E1a.wr W18).wr W20) (Or.inr ⟨(hw _ (List.mem_of_getElem? (i := 39) rfl)), rfl, hnm⟩) (hw _ (List.mem_of_getElem? (i := 1) rfl)) (ty := .double) (by decide) rfl rfl (g := (mkF m 24 #[.val (.ref a1), .val (.double x1), .second] [(.double x1), (.ref a1)])) rfl rfl (hb hby d1_24)
  have N22 := Fr.snoc X22 N20 g1
  have C22 : ∀ t, Steps p.tables e below (T22.setTop (mkF m 27 #[.val (.ref a1), .val (.double x1), .second] [])) t → Steps p.tables e below (s₁.setTop (entryFrame m #[(.ref a1), (.double x1)] 3)) t := fun t k => C21 t (st22 t k)
  have F2d := F2c.other W22 (Or.inr (slot_ne (Or.inl (hw _ (List.mem_of_getElem? (i := 37) rfl))) (Or.inr (hw _ (List.mem_of_getElem? (i := 39) rfl))) (by decide) (t := .double) (t' := .double) (by decide) (by decide)))
  have K : Keep h0 h22 [a1] := ((KK.wr W18 (Or.inl (List.mem_of_getElem? (i := 0) rfl))).wr W20 (Or.inl (List.mem_of_getElem? (i := 0) rfl))).wr W22 (Or.inl (List.mem_of_getElem? (i := 0) rfl))
  obtain ⟨fs, hr, hrun, hended, hW, hsame⟩ := X22.leave (v := none) (fun _ => rfl)
  refine ⟨_, _, C22 _ ?_, hrun, hended, _, _, rfl, ?_, ⟨_, rfl⟩, hW, hsame.mono (by decide) (by decide)⟩
  · show Steps p.tables e below (T22.setTop (mkF m 27 #[.val (.ref a1), .val (.double x1), .second] [])) _
    exact X22.returnOut hx Bd.returns (hb hby d1_27) hr
  · show Q1 Z a1 9218868437227405312 h0 n0 _ T22.heap _
    rw [e22]
    exact ⟨rfl, N22, ((E1a.wr W18).wr W20).wr W22, F2d, K.1⟩
def Q6 (Z : State) (r : Int32) (h0 : Heap) (n0 : Nat) (v : Option Value) (h : Heap) (L : List Loc) : Prop := v = some (.int r) ∧ Fr n0 L ∧ h = h0
theorem ef6 (m : MethodId) (x0 : Addr) : entryFrame m #[(.ref x0)] 1 = mkF m 0 #[.val (.ref x0)] [] := by first | (simp [entryFrame, mkF, argsToLocals, Value.category]; done) | rfl
theorem d6_0 : decode prog_33_method_5_code 0 = .ok (.aload_n 0, 1) := by decide +kernel
theorem d6_1 : decode prog_33_method_5_code 1 = .ok (.getfield 20, 3) := by decide +kernel
theorem d6_4 : decode prog_33_method_5_code 4 = .ok (.ldc2_w 18, 3) := by decide +kernel
theorem d6_7 : decode prog_33_method_5_code 7 = .ok (.dcmp .l, 1) := by decide +kernel
theorem d6_8 : decode prog_33_method_5_code 8 = .ok (.ifCond .eq 7, 3) := by decide +kernel
theorem d6_11 : decode prog_33_method_5_code 11 = .ok (.iconst 1, 1) := by decide +kernel
theorem d6_12 : decode prog_33_method_5_code 12 = .ok (.goto 4, 3) := by decide +kernel
theorem d6_15 : decode prog_33_method_5_code 15 = .ok (.iconst 0, 1) := by decide +kernel
theorem d6_16 : decode prog_33_method_5_code 16 = .ok (.ireturn, 1) := by decide +kernel
set_option maxRecDepth 65536 in
set_option maxHeartbeats 40000000 in
theorem rm6 (l : Launch) (Z : State) (a0 : Array Value) (hw : ∀ d ∈ tables_1, d.before a0 Z = true) (ws : List Jvm.Cond) (a1 : Addr) (x1 : UInt64) (r : Int32) (h0 : Heap) (n0 : Nat) (Z0 : n0 ≤ h0.size) (F1 : Fld Z h0 a1 "com/example/stairsim/stairsim/simulation/CueMark" "passedS" "D" (.double x1)) (hr : (ifCond.holds .eq (cmpValue (FP.dcmp x1 9218868437227405312) .l) = false ∧ r = 1) ∨ (ifCond.holds .eq (cmpValue (FP.dcmp x1 9218868437227405312) .l) = true ∧ r = 0)) :
    MetFree l (⟨"com/example/stairsim/stairsim/simulation/CueMark", "isPassed", "()Z"⟩ : MethodName) (head1 (Jvm.Cond.code (⟨"com/example/stairsim/stairsim/simulation/CueMark", "isPassed", "()Z"⟩ : MethodName) prog_33_method_5_code 1 (some .boolean) :: ws) ({ frames := 0, cells := 0, slots := 0, locals := 0 } : Room)) (fun a U => a = #[(.ref a1)] ∧ Z.Warmed39 U.vm ∧ U.heap = h0) (fun _ _ _ _ _ => True) (fun _ U o U' => ∃ v L, o = .returned v ∧ Q6 Z r h0 n0 v U'.heap L ∧ FrameEnd U o U' L ({ frames := 0, cells := 0, slots := 0, locals := 0 } : Room).cells ({ frames := 0, cells := 0, slots := 0, locals := 0 } : Room).slots) := by
  refine MetFree.of_bodySF (plainFor_of_name pn3) hisR ?_
  intro p e s m args below meth c s₁ Bd hml0 hP hK
  obtain ⟨rfl, hZ, hh⟩ := hP
  have hx := Bd.exec
  have hby := Bd.bytes
  have hml : c.maxLocals = 1 := hml0
  have hown : s.vm.findClass "com/example/stairsim/stairsim/simulation/CueMark" = some m.cls := findClass_of_methodNamed Bd.named
  have hnm := (name_of_methodNamed Bd.named Bd.method).1
  have X0 : Stand p l e ({ frames := 0, cells := 0, slots := 0, locals := 0 } : Room) s m #[(.ref a1)] below meth c s₁ [] 0 0 := Stand.of_body Bd
  have e0 : s₁.heap = h0 := by rw [← hh, Bd.state]; rfl
  have N0 := Fr.nil n0
  have pre0 : ∀ t, Steps p.tables e below (s₁.setTop (mkF m 0 #[.val (.ref a1)] [])) t → Steps p.tables e below (s₁.setTop (entryFrame m #[(.ref a1)] 1)) t := fun t k => castTop (ef6 m a1) k
  rcases hr with ⟨hc, rfl⟩ | ⟨hc, rfl⟩
  · have C23 : ∀ t, Steps p.tables e below (s₁.setTop (mkF m 1 #[.val (.ref a1)] [(.ref a1)])) t → Steps p.tables e below (s₁.setTop (entryFrame m #[(.ref a1)] 1)) t := by
      intro t k
      refine pre0 t ?_
      show Steps p.tables e below (s₁.setTop (mkF m 0 #[.val (.ref a1)] [])) _
      refine XS.aloadN X0.here hx rfl (hb hby d6_0) rfl rfl ?_
      exact k
    obtain ⟨T24, X24, e24, st24⟩ := getF X0 hx hZ hown (host := "") (Or.inl (hw _ (List.mem_of_getElem? (i := 36) rfl))) Via.refl e0 F1 (g := (mkF m 1 #[.val (.ref a1)] [(.ref a1)])) rfl rfl (hb hby d6_1)
    have C24 : ∀ t, Steps p.tables e below (T24.setTop (mkF m 4 #[.val (.ref a1)] [(.double x1)])) t → Steps p.tables e below (s₁.setTop (entryFrame m #[(.ref a1)] 1)) t := fun t k => C23 t (st24 t k)
    have C25 : ∀ t, Steps p.tables e below (T24.setTop (mkF m 16 #[.val (.ref a1)] [(.int (1 : Int32))])) t → Steps p.tables e below (s₁.setTop (entryFrame m #[(.ref a1)] 1)) t := by
      intro t k
      refine C24 t ?_
      show Steps p.tables e below (T24.setTop (mkF m 4 #[.val (.ref a1)] [(.double x1)])) _
      refine X24.ldc2DoubleC hx hown (mvT hZ (hw _ (List.mem_of_getElem? (i := 35) rfl))) (g := (mkF m 4 #[.val (.ref a1)] [(.double x1)])) rfl (hb hby d6_4) _ ?_
      show Steps p.tables e below (T24.setTop (mkF m 7 #[.val (.ref a1)] [(.double 9218868437227405312), (.double x1)])) _
      refine XS.dcmpS X24.here hx rfl (hb hby d6_7) rfl rfl ?_
      show Steps p.tables e below (T24.setTop (mkF m 8 #[.val (.ref a1)] [(.int (cmpValue (FP.dcmp x1 9218868437227405312) .l))])) _
      refine XS.ifNo X24.here hx rfl (hb hby d6_8) rfl hc ?_
      show Steps p.tables e below (T24.setTop (mkF m 11 #[.val (.ref a1)] [])) _
      refine XS.iconst X24.here hx rfl (hb hby d6_11) ?_
      show Steps p.tables e below (T24.setTop (mkF m 12 #[.val (.ref a1)] [(.int (1 : Int32))])) _
      refine XS.goto X24.here hx rfl (pc0 := 12) (pc' := 16) rfl (hb hby d6_12) (by decide) (by decide) ?_
      exact k
    obtain ⟨fs, hr, hrun, hended, hW, hsame⟩ := X24.leave (v := some (.int (1 : Int32))) (fun h => by rw [Bd.returns] at h; cases h)
    refine ⟨_, _, C25 _ ?_, hrun, hended, _, _, rfl, ?_, ⟨_, rfl⟩, hW, hsame.mono (by decide) (by decide)⟩
    · show Steps p.tables e below (T24.setTop (mkF m 16 #[.val (.ref a1)] [(.int (1 : Int32))])) _
      exact retN X24 hx (t := .boolean) Bd.returns (by simp) (hb hby d6_16) hr
    · show Q6 Z (1 : Int32) h0 n0 _ T24.heap _
      rw [e24]
      exact ⟨rfl, N0, rfl⟩
  · have C26 : ∀ t, Steps p.tables e below (s₁.setTop (mkF m 1 #[.val (.ref a1)] [(.ref a1)])) t → Steps p.tables e below (s₁.setTop (entryFrame m #[(.ref a1)] 1)) t := by
      intro t k
      refine pre0 t ?_
      show Steps p.tables e below (s₁.setTop (mkF m 0 #[.val (.ref a1)] [])) _
      refine XS.aloadN X0.here hx rfl (hb hby d6_0) rfl rfl ?_
      exact k
    obtain ⟨T27, X27, e27, st27⟩ := getF X0 hx hZ hown (host := "") (Or.inl (hw _ (List.mem_of_getElem? (i := 36) rfl))) Via.refl e0 F1 (g := (mkF m 1 #[.val (.ref a1)] [(.ref a1)])) rfl rfl (hb hby d6_1)
    have C27 : ∀ t, Steps p.tables e below (T27.setTop (mkF m 4 #[.val (.ref a1)] [(.double x1)])) t → Steps p.tables e below (s₁.setTop (entryFrame m #[(.ref a1)] 1)) t := fun t k => C26 t (st27 t k)
    have C28 : ∀ t, Steps p.tables e below (T27.setTop (mkF m 16 #[.val (.ref a1)] [(.int (0 : Int32))])) t → Steps p.tables e below (s₁.setTop (entryFrame m #[(.ref a1)] 1)) t := by
      intro t k
      refine C27 t ?_
      show Steps p.tables e below (T27.setTop (mkF m 4 #[.val (.ref a1)] [(.double x1)])) _
      refine X27.ldc2DoubleC hx hown (mvT hZ (hw _ (List.mem_of_getElem? (i := 35) rfl))) (g := (mkF m 4 #[.val (.ref a1)] [(.double x1)])) rfl (hb hby d6_4) _ ?_
      show Steps p.tables e below (T27.setTop (mkF m 7 #[.val (.ref a1)] [(.double 9218868437227405312), (.double x1)])) _
      refine XS.dcmpS X27.here hx rfl (hb hby d6_7) rfl rfl ?_
      show Steps p.tables e below (T27.setTop (mkF m 8 #[.val (.ref a1)] [(.int (cmpValue (FP.dcmp x1 9218868437227405312) .l))])) _
      refine XS.ifYes X27.here hx rfl (pc0 := 8) (pc' := 15) rfl (hb hby d6_8) rfl hc (by decide) (by decide) ?_
      show Steps p.tables e below (T27.setTop (mkF m 15 #[.val (.ref a1)] [])) _
      refine XS.iconst X27.here hx rfl (hb hby d6_15) ?_
      exact k
    obtain ⟨fs, hr, hrun, hended, hW, hsame⟩ := X27.leave (v := some (.int (0 : Int32))) (fun h => by rw [Bd.returns] at h; cases h)
    refine ⟨_, _, C28 _ ?_, hrun, hended, _, _, rfl, ?_, ⟨_, rfl⟩, hW, hsame.mono (by decide) (by decide)⟩
    · show Steps p.tables e below (T27.setTop (mkF m 16 #[.val (.ref a1)] [(.int (0 : Int32))])) _
      exact retN X27 hx (t := .boolean) Bd.returns (by simp) (hb hby d6_16) hr
    · show Q6 Z (0 : Int32) h0 n0 _ T27.heap _
      rw [e27]
      exact ⟨rfl, N0, rfl⟩
theorem pd1 : parseMethodDescriptor "(DD)D" = some ⟨[.double, .double], some .double⟩ := by decide +kernel
def Q7 (Z : State) (a1 : Addr) (x1 x2 : UInt64) (h0 : Heap) (n0 : Nat) (v : Option Value) (h : Heap) (L : List Loc) : Prop := v = none ∧ Fr n0 L ∧ Exa Z h a1 "com/example/stairsim/stairsim/simulation/CueMark" ∧ Fld Z h a1 "com/example/stairsim/stairsim/simulation/CueMark" "passedS" "D" (.double (Jvm.Native.java_lang_Math.nans.pick64 false x1 x2)) ∧ h0.size ≤ h.size
theorem ef7 (m : MethodId) (x0 : Addr) (x1 : UInt64) : entryFrame m #[(.ref x0), (.double x1)] 3 = mkF m 0 #[.val (.ref x0), .val (.double x1), .second] [] := by first | (simp [entryFrame, mkF, argsToLocals, Value.category]; done) | rfl
theorem d7_0 : decode prog_33_method_4_code 0 = .ok (.aload_n 0, 1) := by decide +kernel
theorem d7_1 : decode prog_33_method_4_code 1 = .ok (.aload_n 0, 1) := by decide +kernel
theorem d7_2 : decode prog_33_method_4_code 2 = .ok (.getfield 20, 3) := by decide +kernel
theorem d7_5 : decode prog_33_method_4_code 5 = .ok (.dload_n 1, 1) := by decide +kernel
theorem d7_6 : decode prog_33_method_4_code 6 = .ok (.invokestatic 33, 3) := by decide +kernel
theorem d7_9 : decode prog_33_method_4_code 9 = .ok (.putfield 20, 3) := by decide +kernel
theorem d7_12 : decode prog_33_method_4_code 12 = .ok (.return_, 1) := by decide +kernel
set_option maxRecDepth 65536 in
set_option maxHeartbeats 40000000 in
theorem rm7 (l : Launch) (Z : State) (a0 : Array Value) (hw : ∀ d ∈ tables_1, d.before a0 Z = true) (ws : List Jvm.Cond) (a1 : Addr) (x2 x1 : UInt64) (h0 : Heap) (n0 : Nat) (Z0 : n0 ≤ h0.size) (F1 : Fld Z h0 a1 "com/example/stairsim/stairsim/simulation/CueMark" "passedS" "D" (.double x1)) (E1 : Exa Z h0 a1 "com/example/stairsim/stairsim/simulation/CueMark") (g1 : n0 ≤ a1) (nx1 : Jvm.Free.Fl.NoNaN64 x1) (nx2 : Jvm.Free.Fl.NoNaN64 x2) :
    MetFree l (⟨"com/example/stairsim/stairsim/simulation/CueMark", "pass", "(D)V"⟩ : MethodName) (head1 (Jvm.Cond.code (⟨"com/example/stairsim/stairsim/simulation/CueMark", "pass", "(D)V"⟩ : MethodName) prog_33_method_4_code 3 none :: ws) ({ frames := 1, cells := 0, slots := 0, locals := 16 } : Room)) (fun a U => a = #[(.ref a1), (.double x2)] ∧ Z.Warmed39 U.vm ∧ U.heap = h0) (fun _ _ _ _ _ => True) (fun _ U o U' => ∃ v L, o = .returned v ∧ Q7 Z a1 x1 x2 h0 n0 v U'.heap L ∧ FrameEnd U o U' L ({ frames := 1, cells := 0, slots := 0, locals := 16 } : Room).cells ({ frames := 1, cells := 0, slots := 0, locals := 16 } : Room).slots) := by
  refine MetFree.of_bodySF (plainFor_of_name pn3) hisR ?_
  intro p e s m args below meth c s₁ Bd hml0 hP hK
  obtain ⟨rfl, hZ, hh⟩ := hP
  have hx := Bd.exec
  have hby := Bd.bytes
  have hml : c.maxLocals = 3 := hml0
  have hown : s.vm.findClass "com/example/stairsim/stairsim/simulation/CueMark" = some m.cls := findClass_of_methodNamed Bd.named
  have hnm := (name_of_methodNamed Bd.named Bd.method).1
  have X0 : Stand p l e ({ frames := 1, cells := 0, slots := 0, locals := 16 } : Room) s m #[(.ref a1), (.double x2)] below meth c s₁ [] 0 0 := Stand.of_body Bd
  have e0 : s₁.heap = h0 := by rw [← hh, Bd.state]; rfl
  have N0 := Fr.nil n0
  have pre0 : ∀ t, Steps p.tables e below (s₁.setTop (mkF m 0 #[.val (.ref a1), .val (.double x2), .second] [])) t → Steps p.tables e below (s₁.setTop (entryFrame m #[(.ref a1), (.double x2)] 3)) t := fun t k => castTop (ef7 m a1 x2) k
  have C29 : ∀ t, Steps p.tables e below (s₁.setTop (mkF m 2 #[.val (.ref a1), .val (.double x2), .second] [(.ref a1), (.ref a1)])) t → Steps p.tables e below (s₁.setTop (entryFrame m #[(.ref a1), (.double x2)] 3)) t := by
    intro t k
    refine pre0 t ?_
    show Steps p.tables e below (s₁.setTop (mkF m 0 #[.val (.ref a1), .val (.double x2), .second] [])) _
    refine XS.aloadN X0.here hx rfl (hb hby d7_0) rfl rfl ?_
    show Steps p.tables e below (s₁.setTop (mkF m 1 #[.val (.ref a1), .val (.double x2), .second] [(.ref a1)])) _
    refine XS.aloadN X0.here hx rfl (hb hby d7_1) rfl rfl ?_
    exact k
  obtain ⟨T30, X30, e30, st30⟩ := getF X0 hx hZ hown (host := "") (Or.inl (hw _ (List.mem_of_getElem? (i := 36) rfl))) Via.refl e0 F1 (g := (mkF m 2 #[.val (.ref a1), .val (.double x2), .second] [(.ref a1), (.ref a1)])) rfl rfl (hb hby d7_2)
  have C30 : ∀ t, Steps p.tables e below (T30.setTop (mkF m 5 #[.val (.ref a1), .val (.double x2), .second] [(.double x1), (.ref a1)])) t → Steps p.tables e below (s₁.setTop (entryFrame m #[(.ref a1), (.double x2)] 3)) t := fun t k => C29 t (st30 t k)
  have C31 : ∀ t, Steps p.tables e below (T30.setTop (mkF m 6 #[.val (.ref a1), .val (.double x2), .second] [(.double x2), (.double x1), (.ref a1)])) t → Steps p.tables e below (s₁.setTop (entryFrame m #[(.ref a1), (.double x2)] 3)) t := by
    intro t k
    refine C30 t ?_
    show Steps p.tables e below (T30.setTop (mkF m 5 #[.val (.ref a1), .val (.double x2), .second] [(.double x1), (.ref a1)])) _
    refine XS.dloadN X30.here hx rfl (hb hby d7_5) rfl ?_
    exact k
  obtain ⟨T32, X32, e32, st32⟩ := natS X30 hx hZ hown (hw _ (List.mem_of_getElem? (i := 50) rfl)) (hw _ (List.mem_of_getElem? (i := 51) rfl)) (hw _ (List.mem_of_getElem? (i := 52) rfl)) (hw _ (List.mem_of_getElem? (i := 53) rfl)) (by decide) e30 (W := 1) (val' := (.double (Jvm.Native.java_lang_Math.nans.pick64 false x1 x2))) (fun h4 => Jvm.Free.Fl.Abs.minD_pays (W := 1) x1 x2 h4 (by decide) (by decide)) (g := (mkF m 6 #[.val (.ref a1), .val (.double x2), .second] [(.double x2), (.double x1), (.ref a1)])) rfl (by rw [hml]; rfl) (argsL := [(.double x1), (.double x2)]) (rest := [(.ref a1)]) (lenOf pd1 rfl) rfl (by show 2 * 0 + _ ≤ _; exact Nat.le_of_eq rfl) (hb hby d7_6) (by decide) (by decide) ⟨rfl, nx1, nx2⟩ rfl
  have C32 : ∀ t, Steps p.tables e below (T32.setTop (mkF m 9 #[.val (.ref a1), .val (.double x2), .second] [(.double (Jvm.Native.java_lang_Math.nans.pick64 false x1 x2)), (.ref a1)])) t → Steps p.tables e below (s₁.setTop (entryFrame m #[(.ref a1), (.double x2)] 3)) t := fun t k => C31 t (st32 t k)
  obtain ⟨T33, h33, X33, e33, W33, st33⟩ := putF X32 hx hZ hown (host := "") (Or.inl (hw _ (List.mem_of_getElem? (i := 36) rfl))) Via.refl e32 F1 E1 (Or.inl (hw _ (List.mem_of_getElem? (i := 37) rfl))) (hw _ (List.mem_of_getElem? (i := 1) rfl)) (ty := .double) (by decide) rfl rfl (g := (mkF m 9 #[.val (.ref a1), .val (.double x2), .second] [(.double (Jvm.Native.java_lang_Math.nans.pick64 false x1 x2)), (.ref a1)])) rfl rfl (hb hby d7_9)
  have N33 := Fr.snoc X33 N0 g1
  have C33 : ∀ t, Steps p.tables e below (T33.setTop (mkF m 12 #[.val (.ref a1), .val (.double x2), .second] [])) t → Steps p.tables e below (s₁.setTop (entryFrame m #[(.ref a1), (.double x2)] 3)) t := fun t k => C32 t (st33 t k)
  obtain ⟨fs, hr, hrun, hended, hW, hsame⟩ := X33.leave (v := none) (fun _ => rfl)
  refine ⟨_, _, C33 _ ?_, hrun, hended, _, _, rfl, ?_, ⟨_, rfl⟩, hW, hsame.mono (by decide) (by decide)⟩
  · show Steps p.tables e below (T33.setTop (mkF m 12 #[.val (.ref a1), .val (.double x2), .second] [])) _
    exact X33.returnOut hx Bd.returns (hb hby d7_12) hr
  · show Q7 Z a1 x1 x2 h0 n0 _ T33.heap _
    rw [e33]
    exact ⟨rfl, N33, E1.wr W33, F1.same W33, Nat.le_of_eq (Wr.size W33).symm⟩
def Q0 (Z : State) (p1 p2 p3 p4 p5 : Int32) (h0 : Heap) (n0 : Nat) (v : Option Value) (h : Heap) (L : List Loc) : Prop := v = some (.int 1) ∧ Fr n0 L
open Jvm.Native.java_lang_Math.nans in
theorem own_min_fin {x y : UInt64} (hx : x = 9218868437227405312 ∨ Jvm.Free.Fl.Fin64 x) (hy : Jvm.Free.Fl.Fin64 y) : Jvm.Free.Fl.Fin64 (pick64 false x y) := by
  rcases hx with rfl | hx
  · have h : FP.dcmp 9218868437227405312 y = some .gt := (Jvm.FP.Core.fin_lt_inf (Jvm.Free.Fl.fin64_core.mp hy)).2.2.1
    have e : pick64 false 9218868437227405312 y = y := by
      show (match FP.dcmp 9218868437227405312 y with | some .lt => if false = true then y else 9218868437227405312 | some .gt => if false = true then 9218868437227405312 else y | _ => _) = y
      rw [h]
      rfl
    rw [e]
    exact hy
  · show Jvm.Free.Fl.Fin64 (match FP.dcmp x y with | some .lt => if false = true then y else x | some .gt => if false = true then x else y | _ => if (x >>> 63 == 1) == false then y else x)
    split
    · exact hx
    · exact hy
    · split
      · exact hy
      · exact hx
theorem own_not_passed : ifCond.holds .eq (cmpValue (FP.dcmp 9218868437227405312 9218868437227405312) .l) = true := by decide +kernel
theorem own_passed {x : UInt64} (h : Jvm.Free.Fl.Fin64 x) : ifCond.holds .eq (cmpValue (FP.dcmp x 9218868437227405312) .l) = false := by
  rw [dcmp_pinf h]
  rfl
theorem own_inf_nn : Jvm.Free.Fl.NoNaN64 9218868437227405312 := by
  show (9218868437227405312 : UInt64) &&& 0x7fffffffffffffff ≤ 0x7ff0000000000000
  decide
theorem own_i2d_fin (v : Int32) : Jvm.Free.Fl.Fin64 (FP.i2d v) := Jvm.Free.Fl.fin64_core.mpr (Jvm.FP.Core.i2d_fin v)
theorem own_and3 (x : Int32) : 0 ≤ (x &&& (3 : Int32)).toInt ∧ (x &&& (3 : Int32)).toInt ≤ 3 := by
  have h := c_mask x 3 2 (by decide) (by decide)
  rw [show ((2 ^ 2 : Nat) : Int) = 4 from rfl] at h
  omega
theorem own_four {k : Int32} (h : 0 ≤ k.toInt ∧ k.toInt ≤ 3) : k = 0 ∨ k = 1 ∨ k = 2 ∨ k = 3 := by
  have e0 : (0 : Int32).toInt = 0 := rfl
  have e1 : (1 : Int32).toInt = 1 := rfl
  have e2 : (2 : Int32).toInt = 2 := rfl
  have e3 : (3 : Int32).toInt = 3 := rfl
  simp only [← Int32.toInt_inj, e0, e1, e2, e3]
  omega
theorem pd2 : parseMethodDescriptor "(D)V" = some ⟨[.double], none⟩ := by decide +kernel
theorem pd3 : parseMethodDescriptor "()Z" = some ⟨[], some .boolean⟩ := by decide +kernel
theorem pn4 : plainName "com/example/stairsim/stairsim/simulation/CueMarkIsPassedPinLaw" = true := by first | (simp [plainName, overriddenIn]; done) | decide +kernel
theorem ef0 (m : MethodId) (x0 : Int32) (x1 : Int32) (x2 : Int32) (x3 : Int32) (x4 : Int32) : entryFrame m #[(.int x0), (.int x1), (.int x2), (.int x3), (.int x4)] maxLocals = mkF m 0 #[.val (.int x0), .val (.int x1), .val (.int x2), .val (.int x3), .val (.int x4), .unset, .unset, .unset] [] := by first | (simp [entryFrame, mkF, argsToLocals, Value.category, maxLocals]; done) | rfl
set_option maxRecDepth 65536 in
set_option maxHeartbeats 40000000 in
theorem rm0_0 (l : Launch) (Z : State) (a0 : Array Value) (hw : ∀ d ∈ tables_1, d.before a0 Z = true) (ws : List Jvm.Cond) (p1 p2 p3 p4 p5 : Int32) (ad : Addr) (h0 : Heap) (n0 : Nat) (Z0 : n0 ≤ h0.size) (S1 : Sta Z h0 "java/util/ArrayList" "DEFAULTCAPACITY_EMPTY_ELEMENTDATA" "[Ljava/lang/Object;" (.ref ad)) (hk : (p2 &&& (3 : Int32)) = (0 : Int32)) :
    MetFree l x (head1 (Jvm.Cond.code x code maxLocals ret :: ws) room_1) (fun a U => a = #[(.int p1), (.int p2), (.int p3), (.int p4), (.int p5)] ∧ Z.Warmed39 U.vm ∧ U.heap = h0) (fun _ _ _ _ _ => True) (fun _ U o U' => ∃ v L, o = .returned v ∧ Q0 Z p1 p2 p3 p4 p5 h0 n0 v U'.heap L ∧ FrameEnd U o U' L room_1.cells room_1.slots) := by
  refine MetFree.of_bodySF (plainFor_of_name pn4) hisR ?_
  intro p e s m args below meth c s₁ Bd hml0 hP hK
  obtain ⟨rfl, hZ, hh⟩ := hP
  have hx := Bd.exec
  have hby := Bd.bytes
  have hml : c.maxLocals = 8 := hml0
  have hown : s.vm.findClass "com/example/stairsim/stairsim/simulation/CueMarkIsPassedPinLaw" = some m.cls := findClass_of_methodNamed Bd.named
  have hnm := (name_of_methodNamed Bd.named Bd.method).1
  have X0 : Stand p l e room_1 s m #[(.int p1), (.int p2), (.int p3), (.int p4), (.int p5)] below meth c s₁ [] 0 0 := Stand.of_body Bd
  have e0 : s₁.heap = h0 := by rw [← hh, Bd.state]; rfl
  have N0 := Fr.nil n0
  have pre0 : ∀ t, Steps p.tables e below (s₁.setTop (mkF m 0 #[.val (.int p1), .val (.int p2), .val (.int p3), .val (.int p4), .val (.int p5), .unset, .unset, .unset] [])) t → Steps p.tables e below (s₁.setTop (entryFrame m #[(.int p1), (.int p2), (.int p3), (.int p4), (.int p5)] maxLocals)) t := fun t k => castTop (ef0 m p1 p2 p3 p4 p5) k
  obtain ⟨T34, h34, X34, e34, E34, A34, D34, -, st34⟩ := newO X0 hx hZ hown (hw _ (List.mem_of_getElem? (i := 0) rfl)) (hw _ (List.mem_of_getElem? (i := 1) rfl)) (hw _ (List.mem_of_getElem? (i := 2) rfl)) e0 (g := (mkF m 0 #[.val (.int p1), .val (.int p2), .val (.int p3), .val (.int p4), .val (.int p5), .unset, .unset, .unset] [])) rfl (hb hby at_0) (by decide) (by decide)
  obtain ⟨b34, g34⟩ : ∃ z, z = h0.size := ⟨_, rfl⟩
  rw [← g34] at A34 D34 st34
  have C34 : ∀ t, Steps p.tables e below (T34.setTop (mkF m 3 #[.val (.int p1), .val (.int p2), .val (.int p3), .val (.int p4), .val (.int p5), .unset, .unset, .unset] [(.ref b34)])) t → Steps p.tables e below (s₁.setTop (entryFrame m #[(.int p1), (.int p2), (.int p3), (.int p4), (.int p5)] maxLocals)) t := fun t k => pre0 t (st34 t k)
  have F1 : Fld Z h34 b34 "com/example/stairsim/stairsim/simulation/CueMark" "held" "Ljava/util/List;" .null := D34 (Or.inr (hw _ (List.mem_of_getElem? (i := 34) rfl))) (ty := (.object "java/util/List")) (by decide)
  have F2 : Fld Z h34 b34 "com/example/stairsim/stairsim/simulation/CueMark" "passedS" "D" (.double 0) := D34 (Or.inl (hw _ (List.mem_of_getElem? (i := 37) rfl))) (ty := .double) (by decide)
  have F3 : Fld Z h34 b34 "com/example/stairsim/stairsim/simulation/CueMark" "positionM" "D" (.double 0) := D34 (Or.inr (hw _ (List.mem_of_getElem? (i := 39) rfl))) (ty := .double) (by decide)
  have Z1 : n0 ≤ h34.size := Nat.le_trans Z0 E34.1
  have g1 : n0 ≤ b34 := Nat.le_trans Z0 (Nat.le_of_eq g34.symm)
  have C35 : ∀ t, Steps p.tables e below (T34.setTop (mkF m 6 #[.val (.int p1), .val (.int p2), .val (.int p3), .val (.int p4), .val (.int p5), .unset, .unset, .unset] [(.double (FP.i2d p1)), (.ref b34), (.ref b34)])) t → Steps p.tables e below (s₁.setTop (entryFrame m #[(.int p1), (.int p2), (.int p3), (.int p4), (.int p5)] maxLocals)) t := by
    intro t k
    refine C34 t ?_
    show Steps p.tables e below (T34.setTop (mkF m 3 #[.val (.int p1), .val (.int p2), .val (.int p3), .val (.int p4), .val (.int p5), .unset, .unset, .unset] [(.ref b34)])) _
    refine XS.dup X34.here hx rfl (hb hby at_3) rfl rfl ?_
    show Steps p.tables e below (T34.setTop (mkF m 4 #[.val (.int p1), .val (.int p2), .val (.int p3), .val (.int p4), .val (.int p5), .unset, .unset, .unset] [(.ref b34), (.ref b34)])) _
    refine XS.iloadN X34.here hx rfl (hb hby at_4) rfl ?_
    show Steps p.tables e below (T34.setTop (mkF m 5 #[.val (.int p1), .val (.int p2), .val (.int p3), .val (.int p4), .val (.int p5), .unset, .unset, .unset] [(.int p1), (.ref b34), (.ref b34)])) _
    refine XS.i2dS X34.here hx rfl (hb hby at_5) rfl rfl ?_
    exact k
  obtain ⟨_, _, ⟨T36, L36, k36, n36⟩, -, X36, ⟨Lc36, hQ36, l36, y36, z36⟩, st36⟩ := X34.specialBack hx (y := (⟨"com/example/stairsim/stairsim/simulation/CueMark", "<init>", "(D)V"⟩ : MethodName)) rfl hown (mvT hZ (hw _ (List.mem_of_getElem? (i := 3) rfl))) (mvT hZ (hw _ (List.mem_of_getElem? (i := 4) rfl))) (mvT hZ (hw _ (List.mem_of_getElem? (i := 5) rfl))) (by decide) (backOf (W := 1) (rm1 l Z a0 hw [] b34 (FP.i2d p1) ad h34 n0 Z1 F1 F2 F3 A34 g1 (S1.ext E34)) hZ (hw _ (List.mem_of_getElem? (i := 5) rfl)) (hw _ (List.mem_of_getElem? (i := 2) rfl)) (by decide) (by decide)) (g := (mkF m 6 #[.val (.int p1), .val (.int p2), .val (.int p3), .val (.int p4), .val (.int p5), .unset, .unset, .unset] [(.double (FP.i2d p1)), (.ref b34), (.ref b34)])) rfl (by rw [hml]; rfl) (Steps.refl _) (a := b34) (argsL := [(.double (FP.i2d p1))]) (rest := [(.ref b34)]) (lenOf pd2 rfl) rfl (by show 2 * 0 + _ ≤ _; exact Nat.le_of_eq rfl) (hb hby at_6) (fun _ _ => ⟨rfl, e34, (by decide : 1 + 1 ≤ _), (by decide : 3 + 3 ≤ _)⟩)
  dsimp only [Pt.U, Pt.locs, Pt.cells, Pt.slots] at X36 l36 y36 z36 st36 hQ36
  subst l36 y36 z36
  obtain ⟨rfl, N36q, E36x, F36x, s36⟩ := hQ36
  have N36 := Fr.app N0 N36q
  have C36 : ∀ t, Steps p.tables e below (T36.setTop (mkF m 9 #[.val (.int p1), .val (.int p2), .val (.int p3), .val (.int p4), .val (.int p5), .unset, .unset, .unset] [(.ref b34)])) t → Steps p.tables e below (s₁.setTop (entryFrame m #[(.int p1), (.int p2), (.int p3), (.int p4), (.int p5)] maxLocals)) t := fun t k => C35 t (st36.trans k)
  have Z2 : n0 ≤ T36.heap.size := Nat.le_trans Z1 s36
  have C37 : ∀ t, Steps p.tables e below (T36.setTop (mkF m 13 #[.val (.int p1), .val (.int p2), .val (.int p3), .val (.int p4), .val (.int p5), .val (.ref b34), .unset, .unset] [(.ref b34)])) t → Steps p.tables e below (s₁.setTop (entryFrame m #[(.int p1), (.int p2), (.int p3), (.int p4), (.int p5)] maxLocals)) t := by
    intro t k
    refine C36 t ?_
    show Steps p.tables e below (T36.setTop (mkF m 9 #[.val (.int p1), .val (.int p2), .val (.int p3), .val (.int p4), .val (.int p5), .unset, .unset, .unset] [(.ref b34)])) _
    refine XS.astore X36.here hx rfl (hb hby at_9) rfl rfl (l' := #[.val (.int p1), .val (.int p2), .val (.int p3), .val (.int p4), .val (.int p5), .val (.ref b34), .unset, .unset]) rfl ?_
    show Steps p.tables e below (T36.setTop (mkF m 11 #[.val (.int p1), .val (.int p2), .val (.int p3), .val (.int p4), .val (.int p5), .val (.ref b34), .unset, .unset] [])) _
    refine XS.aload X36.here hx rfl (hb hby at_11) rfl rfl ?_
    exact k
  obtain ⟨cq38, kq38, q38a, q38b, q38c⟩ := isOf hZ rfl E36x
  obtain ⟨_, _, ⟨T38, L38, k38, n38⟩, -, X38, ⟨Lc38, hQ38, l38, y38, z38⟩, st38⟩ := X36.virtualBack hx (y := (⟨"com/example/stairsim/stairsim/simulation/CueMark", "isPassed", "()Z"⟩ : MethodName)) (z := (⟨"com/example/stairsim/stairsim/simulation/CueMark", "isPassed", "()Z"⟩ : MethodName)) hown (mvT hZ (hw _ (List.mem_of_getElem? (i := 40) rfl))) (mvT hZ (hw _ (List.mem_of_getElem? (i := 41) rfl))) (notFace_of_selects (args := #[]) (mvT hZ (hw _ (List.mem_of_getElem? (i := 43) rfl)))) (mvT hZ (hw _ (List.mem_of_getElem? (i := 43) rfl))) (mvT hZ (hw _ (List.mem_of_getElem? (i := 42) rfl))) (by decide) (backOf (W := 0) (rm6 l Z a0 hw [] b34 9218868437227405312 0 T36.heap n0 Z2 F36x (Or.inr ⟨own_not_passed, rfl⟩)) hZ (hw _ (List.mem_of_getElem? (i := 44) rfl)) (hw _ (List.mem_of_getElem? (i := 2) rfl)) (by decide) (by decide)) q38a q38c (g := (mkF m 13 #[.val (.int p1), .val (.int p2), .val (.int p3), .val (.int p4), .val (.int p5), .val (.ref b34), .unset, .unset] [(.ref b34)])) rfl (by rw [hml]; rfl) (Steps.refl _) (argsL := []) (rest := []) (lenOf pd3 rfl) rfl (by show 2 * 0 + _ ≤ _; exact Nat.le_of_eq rfl) (hb hby at_13) (fun _ _ => ⟨rfl, rfl, (by decide : 2 + 0 ≤ _), (by decide : 6 + 0 ≤ _)⟩)
  dsimp only [Pt.U, Pt.locs, Pt.cells, Pt.slots] at X38 l38 y38 z38 st38 hQ38
  subst l38 y38 z38
  obtain ⟨rfl, N38q, q38⟩ := hQ38
  have N38 := Fr.app N36 N38q
  have C38 : ∀ t, Steps p.tables e below (T38.setTop (mkF m 16 #[.val (.int p1), .val (.int p2), .val (.int p3), .val (.int p4), .val (.int p5), .val (.ref b34), .unset, .unset] [(.int (0 : Int32))])) t → Steps p.tables e below (s₁.setTop (entryFrame m #[(.int p1), (.int p2), (.int p3), (.int p4), (.int p5)] maxLocals)) t := fun t k => C37 t (st38.trans k)
  have C39 : ∀ t, Steps p.tables e below (T38.setTop (mkF m 31 #[.val (.int p1), .val (.int p2), .val (.int p3), .val (.int p4), .val (.int p5), .val (.ref b34), .val (.int (1 : Int32)), .val (.int (p2 &&& (3 : Int32)))] [])) t → Steps p.tables e below (s₁.setTop (entryFrame m #[(.int p1), (.int p2), (.int p3), (.int p4), (.int p5)] maxLocals)) t := by
    intro t k
    refine C38 t ?_
    show Steps p.tables e below (T38.setTop (mkF m 16 #[.val (.int p1), .val (.int p2), .val (.int p3), .val (.int p4), .val (.int p5), .val (.ref b34), .unset, .unset] [(.int (0 : Int32))])) _
    refine XS.ifNo X38.here hx rfl (hb hby at_16) rfl (XT.i0_ne_f rfl) ?_
    show Steps p.tables e below (T38.setTop (mkF m 19 #[.val (.int p1), .val (.int p2), .val (.int p3), .val (.int p4), .val (.int p5), .val (.ref b34), .unset, .unset] [])) _
    refine XS.iconst X38.here hx rfl (hb hby at_19) ?_
    show Steps p.tables e below (T38.setTop (mkF m 20 #[.val (.int p1), .val (.int p2), .val (.int p3), .val (.int p4), .val (.int p5), .val (.ref b34), .unset, .unset] [(.int (1 : Int32))])) _
    refine XS.goto X38.here hx rfl (pc0 := 20) (pc' := 24) rfl (hb hby at_20) (by decide) (by decide) ?_
    show Steps p.tables e below (T38.setTop (mkF m 24 #[.val (.int p1), .val (.int p2), .val (.int p3), .val (.int p4), .val (.int p5), .val (.ref b34), .unset, .unset] [(.int (1 : Int32))])) _
    refine XS.istore X38.here hx rfl (hb hby at_24) rfl (l' := #[.val (.int p1), .val (.int p2), .val (.int p3), .val (.int p4), .val (.int p5), .val (.ref b34), .val (.int (1 : Int32)), .unset]) rfl ?_
    show Steps p.tables e below (T38.setTop (mkF m 26 #[.val (.int p1), .val (.int p2), .val (.int p3), .val (.int p4), .val (.int p5), .val (.ref b34), .val (.int (1 : Int32)), .unset] [])) _
    refine XS.iloadN X38.here hx rfl (hb hby at_26) rfl ?_
    show Steps p.tables e below (T38.setTop (mkF m 27 #[.val (.int p1), .val (.int p2), .val (.int p3), .val (.int p4), .val (.int p5), .val (.ref b34), .val (.int (1 : Int32)), .unset] [(.int p2)])) _
    refine XS.iconst X38.here hx rfl (hb hby at_27) ?_
    show Steps p.tables e below (T38.setTop (mkF m 28 #[.val (.int p1), .val (.int p2), .val (.int p3), .val (.int p4), .val (.int p5), .val (.ref b34), .val (.int (1 : Int32)), .unset] [(.int (3 : Int32)), (.int p2)])) _
    refine XS.iand X38.here hx rfl (hb hby at_28) rfl ?_
    show Steps p.tables e below (T38.setTop (mkF m 29 #[.val (.int p1), .val (.int p2), .val (.int p3), .val (.int p4), .val (.int p5), .val (.ref b34), .val (.int (1 : Int32)), .unset] [(.int (p2 &&& (3 : Int32)))])) _
    refine XS.istore X38.here hx rfl (hb hby at_29) rfl (l' := #[.val (.int p1), .val (.int p2), .val (.int p3), .val (.int p4), .val (.int p5), .val (.ref b34), .val (.int (1 : Int32)), .val (.int (p2 &&& (3 : Int32)))]) rfl ?_
    exact k
  obtain ⟨kk, h_kk⟩ : ∃ z : Int32, z = (p2 &&& (3 : Int32)) := ⟨_, rfl⟩
  rw [← h_kk] at C39
  have hkk : kk = (0 : Int32) := by rw [h_kk]; exact hk
  have C40 : ∀ t, Steps p.tables e below (T38.setTop (mkF m 138 #[.val (.int p1), .val (.int p2), .val (.int p3), .val (.int p4), .val (.int p5), .val (.ref b34), .val (.int (1 : Int32)), .val (.int kk)] [(.ref b34)])) t → Steps p.tables e below (s₁.setTop (entryFrame m #[(.int p1), (.int p2), (.int p3), (.int p4), (.int p5)] maxLocals)) t := by
    intro t k
    refine C39 t ?_
    show Steps p.tables e below (T38.setTop (mkF m 31 #[.val (.int p1), .val (.int p2), .val (.int p3), .val (.int p4), .val (.int p5), .val (.ref b34), .val (.int (1 : Int32)), .val (.int kk)] [])) _
    refine XS.iload X38.here hx rfl (hb hby at_31) rfl ?_
    show Steps p.tables e below (T38.setTop (mkF m 33 #[.val (.int p1), .val (.int p2), .val (.int p3), .val (.int p4), .val (.int p5), .val (.ref b34), .val (.int (1 : Int32)), .val (.int kk)] [(.int kk)])) _
    refine XS.iconst X38.here hx rfl (hb hby at_33) ?_
    show Steps p.tables e below (T38.setTop (mkF m 34 #[.val (.int p1), .val (.int p2), .val (.int p3), .val (.int p4), .val (.int p5), .val (.ref b34), .val (.int (1 : Int32)), .val (.int kk)] [(.int (1 : Int32)), (.int kk)])) _
    refine XS.icmpYes X38.here hx rfl (pc0 := 34) (pc' := 64) rfl (hb hby at_34) rfl (XT.ii_lt_t (by rw [hkk]; decide)) (by decide) (by decide) ?_
    show Steps p.tables e below (T38.setTop (mkF m 64 #[.val (.int p1), .val (.int p2), .val (.int p3), .val (.int p4), .val (.int p5), .val (.ref b34), .val (.int (1 : Int32)), .val (.int kk)] [])) _
    refine XS.iload X38.here hx rfl (hb hby at_64) rfl ?_
    show Steps p.tables e below (T38.setTop (mkF m 66 #[.val (.int p1), .val (.int p2), .val (.int p3), .val (.int p4), .val (.int p5), .val (.ref b34), .val (.int (1 : Int32)), .val (.int kk)] [(.int kk)])) _
    refine XS.iconst X38.here hx rfl (hb hby at_66) ?_
    show Steps p.tables e below (T38.setTop (mkF m 67 #[.val (.int p1), .val (.int p2), .val (.int p3), .val (.int p4), .val (.int p5), .val (.ref b34), .val (.int (1 : Int32)), .val (.int kk)] [(.int (2 : Int32)), (.int kk)])) _
    refine XS.icmpYes X38.here hx rfl (pc0 := 67) (pc' := 97) rfl (hb hby at_67) rfl (XT.ii_lt_t (by rw [hkk]; decide)) (by decide) (by decide) ?_
    show Steps p.tables e below (T38.setTop (mkF m 97 #[.val (.int p1), .val (.int p2), .val (.int p3), .val (.int p4), .val (.int p5), .val (.ref b34), .val (.int (1 : Int32)), .val (.int kk)] [])) _
    refine XS.iload X38.here hx rfl (hb hby at_97) rfl ?_
    show Steps p.tables e below (T38.setTop (mkF m 99 #[.val (.int p1), .val (.int p2), .val (.int p3), .val (.int p4), .val (.int p5), .val (.ref b34), .val (.int (1 : Int32)), .val (.int kk)] [(.int kk)])) _
    refine XS.iconst X38.here hx rfl (hb hby at_99) ?_
    show Steps p.tables e below (T38.setTop (mkF m 100 #[.val (.int p1), .val (.int p2), .val (.int p3), .val (.int p4), .val (.int p5), .val (.ref b34), .val (.int (1 : Int32)), .val (.int kk)] [(.int (3 : Int32)), (.int kk)])) _
    refine XS.icmpYes X38.here hx rfl (pc0 := 100) (pc' := 131) rfl (hb hby at_100) rfl (XT.ii_lt_t (by rw [hkk]; decide)) (by decide) (by decide) ?_
    show Steps p.tables e below (T38.setTop (mkF m 131 #[.val (.int p1), .val (.int p2), .val (.int p3), .val (.int p4), .val (.int p5), .val (.ref b34), .val (.int (1 : Int32)), .val (.int kk)] [])) _
    refine XS.iload X38.here hx rfl (hb hby at_131) rfl ?_
    show Steps p.tables e below (T38.setTop (mkF m 133 #[.val (.int p1), .val (.int p2), .val (.int p3), .val (.int p4), .val (.int p5), .val (.ref b34), .val (.int (1 : Int32)), .val (.int kk)] [(.int (1 : Int32))])) _
    refine XS.ifNo X38.here hx rfl (hb hby at_133) rfl (XT.i0_eq_f (by decide)) ?_
    show Steps p.tables e below (T38.setTop (mkF m 136 #[.val (.int p1), .val (.int p2), .val (.int p3), .val (.int p4), .val (.int p5), .val (.ref b34), .val (.int (1 : Int32)), .val (.int kk)] [])) _
    refine XS.aload X38.here hx rfl (hb hby at_136) rfl rfl ?_
    exact k
  obtain ⟨cq41, kq41, q41a, q41b, q41c⟩ := isOf hZ q38 E36x
  obtain ⟨_, _, ⟨T41, L41, k41, n41⟩, -, X41, ⟨Lc41, hQ41, l41, y41, z41⟩, st41⟩ := X38.virtualBack hx (y := (⟨"com/example/stairsim/stairsim/simulation/CueMark", "isPassed", "()Z"⟩ : MethodName)) (z := (⟨"com/example/stairsim/stairsim/simulation/CueMark", "isPassed", "()Z"⟩ : MethodName)) hown (mvT hZ (hw _ (List.mem_of_getElem? (i := 40) rfl))) (mvT hZ (hw _ (List.mem_of_getElem? (i := 41) rfl))) (notFace_of_selects (args := #[]) (mvT hZ (hw _ (List.mem_of_getElem? (i := 43) rfl)))) (mvT hZ (hw _ (List.mem_of_getElem? (i := 43) rfl))) (mvT hZ (hw _ (List.mem_of_getElem? (i := 42) rfl))) (by decide) (backOf (W := 0) (rm6 l Z a0 hw [] b34 9218868437227405312 0 T36.heap n0 Z2 F36x (Or.inr ⟨own_not_passed, rfl⟩)) hZ (hw _ (List.mem_of_getElem? (i := 44) rfl)) (hw _ (List.mem_of_getElem? (i := 2) rfl)) (by decide) (by decide)) q41a q41c (g := (mkF m 138 #[.val (.int p1), .val (.int p2), .val (.int p3), .val (.int p4), .val (.int p5), .val (.ref b34), .val (.int (1 : Int32)), .val (.int kk)] [(.ref b34)])) rfl (by rw [hml]; rfl) (Steps.refl _) (argsL := []) (rest := []) (lenOf pd3 rfl) rfl (by show 2 * 0 + _ ≤ _; exact Nat.le_of_eq rfl) (hb hby at_138) (fun _ _ => ⟨rfl, q38, (by decide : 2 + 0 ≤ _), (by decide : 6 + 0 ≤ _)⟩)
  dsimp only [Pt.U, Pt.locs, Pt.cells, Pt.slots] at X41 l41 y41 z41 st41 hQ41
  subst l41 y41 z41
  obtain ⟨rfl, N41q, q41⟩ := hQ41
  have N41 := Fr.app N38 N41q
  have C41 : ∀ t, Steps p.tables e below (T41.setTop (mkF m 141 #[.val (.int p1), .val (.int p2), .val (.int p3), .val (.int p4), .val (.int p5), .val (.ref b34), .val (.int (1 : Int32)), .val (.int kk)] [(.int (0 : Int32))])) t → Steps p.tables e below (s₁.setTop (entryFrame m #[(.int p1), (.int p2), (.int p3), (.int p4), (.int p5)] maxLocals)) t := fun t k => C40 t (st41.trans k)
  have C42 : ∀ t, Steps p.tables e below (T41.setTop (mkF m 160 #[.val (.int p1), .val (.int p2), .val (.int p3), .val (.int p4), .val (.int p5), .val (.ref b34), .val (.int (1 : Int32)), .val (.int kk)] [(.int (1 : Int32))])) t → Steps p.tables e below (s₁.setTop (entryFrame m #[(.int p1), (.int p2), (.int p3), (.int p4), (.int p5)] maxLocals)) t := by
    intro t k
    refine C41 t ?_
    show Steps p.tables e below (T41.setTop (mkF m 141 #[.val (.int p1), .val (.int p2), .val (.int p3), .val (.int p4), .val (.int p5), .val (.ref b34), .val (.int (1 : Int32)), .val (.int kk)] [(.int (0 : Int32))])) _
    refine XS.iload X41.here hx rfl (hb hby at_141) rfl ?_
    show Steps p.tables e below (T41.setTop (mkF m 143 #[.val (.int p1), .val (.int p2), .val (.int p3), .val (.int p4), .val (.int p5), .val (.ref b34), .val (.int (1 : Int32)), .val (.int kk)] [(.int kk), (.int (0 : Int32))])) _
    refine XS.iconst X41.here hx rfl (hb hby at_143) ?_
    show Steps p.tables e below (T41.setTop (mkF m 144 #[.val (.int p1), .val (.int p2), .val (.int p3), .val (.int p4), .val (.int p5), .val (.ref b34), .val (.int (1 : Int32)), .val (.int kk)] [(.int (1 : Int32)), (.int kk), (.int (0 : Int32))])) _
    refine XS.icmpYes X41.here hx rfl (pc0 := 144) (pc' := 151) rfl (hb hby at_144) rfl (XT.ii_lt_t (by rw [hkk]; decide)) (by decide) (by decide) ?_
    show Steps p.tables e below (T41.setTop (mkF m 151 #[.val (.int p1), .val (.int p2), .val (.int p3), .val (.int p4), .val (.int p5), .val (.ref b34), .val (.int (1 : Int32)), .val (.int kk)] [(.int (0 : Int32))])) _
    refine XS.iconst X41.here hx rfl (hb hby at_151) ?_
    show Steps p.tables e below (T41.setTop (mkF m 152 #[.val (.int p1), .val (.int p2), .val (.int p3), .val (.int p4), .val (.int p5), .val (.ref b34), .val (.int (1 : Int32)), .val (.int kk)] [(.int (0 : Int32)), (.int (0 : Int32))])) _
    refine XS.icmpNo X41.here hx rfl (hb hby at_152) rfl (XT.ii_ne_f rfl) ?_
    show Steps p.tables e below (T41.setTop (mkF m 155 #[.val (.int p1), .val (.int p2), .val (.int p3), .val (.int p4), .val (.int p5), .val (.ref b34), .val (.int (1 : Int32)), .val (.int kk)] [])) _
    refine XS.iconst X41.here hx rfl (hb hby at_155) ?_
    show Steps p.tables e below (T41.setTop (mkF m 156 #[.val (.int p1), .val (.int p2), .val (.int p3), .val (.int p4), .val (.int p5), .val (.ref b34), .val (.int (1 : Int32)), .val (.int kk)] [(.int (1 : Int32))])) _
    refine XS.goto X41.here hx rfl (pc0 := 156) (pc' := 160) rfl (hb hby at_156) (by decide) (by decide) ?_
    exact k
  obtain ⟨fs, hr, hrun, hended, hW, hsame⟩ := X41.leave (v := some (.int (1 : Int32))) (fun h => by rw [Bd.returns] at h; cases h)
  refine ⟨_, _, C42 _ ?_, hrun, hended, _, _, rfl, ?_, ⟨_, rfl⟩, hW, hsame.mono (by decide) (by decide)⟩
  · show Steps p.tables e below (T41.setTop (mkF m 160 #[.val (.int p1), .val (.int p2), .val (.int p3), .val (.int p4), .val (.int p5), .val (.ref b34), .val (.int (1 : Int32)), .val (.int kk)] [(.int (1 : Int32))])) _
    exact retN X41 hx (t := .boolean) Bd.returns (by simp) (hb hby at_160) hr
  · show Q0 Z p1 p2 p3 p4 p5 h0 n0 _ T41.heap _
    rw [q41]
    exact ⟨rfl, N41⟩
set_option maxRecDepth 65536 in
set_option maxHeartbeats 40000000 in
theorem rm0_1 (l : Launch) (Z : State) (a0 : Array Value) (hw : ∀ d ∈ tables_1, d.before a0 Z = true) (ws : List Jvm.Cond) (p1 p2 p3 p4 p5 : Int32) (ad : Addr) (h0 : Heap) (n0 : Nat) (Z0 : n0 ≤ h0.size) (S1 : Sta Z h0 "java/util/ArrayList" "DEFAULTCAPACITY_EMPTY_ELEMENTDATA" "[Ljava/lang/Object;" (.ref ad)) (hk : (p2 &&& (3 : Int32)) = (1 : Int32)) :
    MetFree l x (head1 (Jvm.Cond.code x code maxLocals ret :: ws) room_1) (fun a U => a = #[(.int p1), (.int p2), (.int p3), (.int p4), (.int p5)] ∧ Z.Warmed39 U.vm ∧ U.heap = h0) (fun _ _ _ _ _ => True) (fun _ U o U' => ∃ v L, o = .returned v ∧ Q0 Z p1 p2 p3 p4 p5 h0 n0 v U'.heap L ∧ FrameEnd U o U' L room_1.cells room_1.slots) := by
  refine MetFree.of_bodySF (plainFor_of_name pn4) hisR ?_
  intro p e s m args below meth c s₁ Bd hml0 hP hK
  obtain ⟨rfl, hZ, hh⟩ := hP
  have hx := Bd.exec
  have hby := Bd.bytes
  have hml : c.maxLocals = 8 := hml0
  have hown : s.vm.findClass "com/example/stairsim/stairsim/simulation/CueMarkIsPassedPinLaw" = some m.cls := findClass_of_methodNamed Bd.named
  have hnm := (name_of_methodNamed Bd.named Bd.method).1
  have X0 : Stand p l e room_1 s m #[(.int p1), (.int p2), (.int p3), (.int p4), (.int p5)] below meth c s₁ [] 0 0 := Stand.of_body Bd
  have e0 : s₁.heap = h0 := by rw [← hh, Bd.state]; rfl
  have N0 := Fr.nil n0
  have pre0 : ∀ t, Steps p.tables e below (s₁.setTop (mkF m 0 #[.val (.int p1), .val (.int p2), .val (.int p3), .val (.int p4), .val (.int p5), .unset, .unset, .unset] [])) t → Steps p.tables e below (s₁.setTop (entryFrame m #[(.int p1), (.int p2), (.int p3), (.int p4), (.int p5)] maxLocals)) t := fun t k => castTop (ef0 m p1 p2 p3 p4 p5) k
  obtain ⟨T43, h43, X43, e43, E43, A43, D43, -, st43⟩ := newO X0 hx hZ hown (hw _ (List.mem_of_getElem? (i := 0) rfl)) (hw _ (List.mem_of_getElem? (i := 1) rfl)) (hw _ (List.mem_of_getElem? (i := 2) rfl)) e0 (g := (mkF m 0 #[.val (.int p1), .val (.int p2), .val (.int p3), .val (.int p4), .val (.int p5), .unset, .unset, .unset] [])) rfl (hb hby at_0) (by decide) (by decide)
  obtain ⟨b43, g43⟩ : ∃ z, z = h0.size := ⟨_, rfl⟩
  rw [← g43] at A43 D43 st43
  have C43 : ∀ t, Steps p.tables e below (T43.setTop (mkF m 3 #[.val (.int p1), .val (.int p2), .val (.int p3), .val (.int p4), .val (.int p5), .unset, .unset, .unset] [(.ref b43)])) t → Steps p.tables e below (s₁.setTop (entryFrame m #[(.int p1), (.int p2), (.int p3), (.int p4), (.int p5)] maxLocals)) t := fun t k => pre0 t (st43 t k)
  have F1 : Fld Z h43 b43 "com/example/stairsim/stairsim/simulation/CueMark" "held" "Ljava/util/List;" .null := D43 (Or.inr (hw _ (List.mem_of_getElem? (i := 34) rfl))) (ty := (.object "java/util/List")) (by decide)
  have F2 : Fld Z h43 b43 "com/example/stairsim/stairsim/simulation/CueMark" "passedS" "D" (.double 0) := D43 (Or.inl (hw _ (List.mem_of_getElem? (i := 37) rfl))) (ty := .double) (by decide)
  have F3 : Fld Z h43 b43 "com/example/stairsim/stairsim/simulation/CueMark" "positionM" "D" (.double 0) := D43 (Or.inr (hw _ (List.mem_of_getElem? (i := 39) rfl))) (ty := .double) (by decide)
  have Z1 : n0 ≤ h43.size := Nat.le_trans Z0 E43.1
  have g1 : n0 ≤ b43 := Nat.le_trans Z0 (Nat.le_of_eq g43.symm)
  have C44 : ∀ t, Steps p.tables e below (T43.setTop (mkF m 6 #[.val (.int p1), .val (.int p2), .val (.int p3), .val (.int p4), .val (.int p5), .unset, .unset, .unset] [(.double (FP.i2d p1)), (.ref b43), (.ref b43)])) t → Steps p.tables e below (s₁.setTop (entryFrame m #[(.int p1), (.int p2), (.int p3), (.int p4), (.int p5)] maxLocals)) t := by
    intro t k
    refine C43 t ?_
    show Steps p.tables e below (T43.setTop (mkF m 3 #[.val (.int p1), .val (.int p2), .val (.int p3), .val (.int p4), .val (.int p5), .unset, .unset, .unset] [(.ref b43)])) _
    refine XS.dup X43.here hx rfl (hb hby at_3) rfl rfl ?_
    show Steps p.tables e below (T43.setTop (mkF m 4 #[.val (.int p1), .val (.int p2), .val (.int p3), .val (.int p4), .val (.int p5), .unset, .unset, .unset] [(.ref b43), (.ref b43)])) _
    refine XS.iloadN X43.here hx rfl (hb hby at_4) rfl ?_
    show Steps p.tables e below (T43.setTop (mkF m 5 #[.val (.int p1), .val (.int p2), .val (.int p3), .val (.int p4), .val (.int p5), .unset, .unset, .unset] [(.int p1), (.ref b43), (.ref b43)])) _
    refine XS.i2dS X43.here hx rfl (hb hby at_5) rfl rfl ?_
    exact k
  obtain ⟨_, _, ⟨T45, L45, k45, n45⟩, -, X45, ⟨Lc45, hQ45, l45, y45, z45⟩, st45⟩ := X43.specialBack hx (y := (⟨"com/example/stairsim/stairsim/simulation/CueMark", "<init>", "(D)V"⟩ : MethodName)) rfl hown (mvT hZ (hw _ (List.mem_of_getElem? (i := 3) rfl))) (mvT hZ (hw _ (List.mem_of_getElem? (i := 4) rfl))) (mvT hZ (hw _ (List.mem_of_getElem? (i := 5) rfl))) (by decide) (backOf (W := 1) (rm1 l Z a0 hw [] b43 (FP.i2d p1) ad h43 n0 Z1 F1 F2 F3 A43 g1 (S1.ext E43)) hZ (hw _ (List.mem_of_getElem? (i := 5) rfl)) (hw _ (List.mem_of_getElem? (i := 2) rfl)) (by decide) (by decide)) (g := (mkF m 6 #[.val (.int p1), .val (.int p2), .val (.int p3), .val (.int p4), .val (.int p5), .unset, .unset, .unset] [(.double (FP.i2d p1)), (.ref b43), (.ref b43)])) rfl (by rw [hml]; rfl) (Steps.refl _) (a := b43) (argsL := [(.double (FP.i2d p1))]) (rest := [(.ref b43)]) (lenOf pd2 rfl) rfl (by show 2 * 0 + _ ≤ _; exact Nat.le_of_eq rfl) (hb hby at_6) (fun _ _ => ⟨rfl, e43, (by decide : 1 + 1 ≤ _), (by decide : 3 + 3 ≤ _)⟩)
  dsimp only [Pt.U, Pt.locs, Pt.cells, Pt.slots] at X45 l45 y45 z45 st45 hQ45
  subst l45 y45 z45
  obtain ⟨rfl, N45q, E45x, F45x, s45⟩ := hQ45
  have N45 := Fr.app N0 N45q
  have C45 : ∀ t, Steps p.tables e below (T45.setTop (mkF m 9 #[.val (.int p1), .val (.int p2), .val (.int p3), .val (.int p4), .val (.int p5), .unset, .unset, .unset] [(.ref b43)])) t → Steps p.tables e below (s₁.setTop (entryFrame m #[(.int p1), (.int p2), (.int p3), (.int p4), (.int p5)] maxLocals)) t := fun t k => C44 t (st45.trans k)
  have Z2 : n0 ≤ T45.heap.size := Nat.le_trans Z1 s45
  have C46 : ∀ t, Steps p.tables e below (T45.setTop (mkF m 13 #[.val (.int p1), .val (.int p2), .val (.int p3), .val (.int p4), .val (.int p5), .val (.ref b43), .unset, .unset] [(.ref b43)])) t → Steps p.tables e below (s₁.setTop (entryFrame m #[(.int p1), (.int p2), (.int p3), (.int p4), (.int p5)] maxLocals)) t := by
    intro t k
    refine C45 t ?_
    show Steps p.tables e below (T45.setTop (mkF m 9 #[.val (.int p1), .val (.int p2), .val (.int p3), .val (.int p4), .val (.int p5), .unset, .unset, .unset] [(.ref b43)])) _
    refine XS.astore X45.here hx rfl (hb hby at_9) rfl rfl (l' := #[.val (.int p1), .val (.int p2), .val (.int p3), .val (.int p4), .val (.int p5), .val (.ref b43), .unset, .unset]) rfl ?_
    show Steps p.tables e below (T45.setTop (mkF m 11 #[.val (.int p1), .val (.int p2), .val (.int p3), .val (.int p4), .val (.int p5), .val (.ref b43), .unset, .unset] [])) _
    refine XS.aload X45.here hx rfl (hb hby at_11) rfl rfl ?_
    exact k
  obtain ⟨cq47, kq47, q47a, q47b, q47c⟩ := isOf hZ rfl E45x
  obtain ⟨_, _, ⟨T47, L47, k47, n47⟩, -, X47, ⟨Lc47, hQ47, l47, y47, z47⟩, st47⟩ := X45.virtualBack hx (y := (⟨"com/example/stairsim/stairsim/simulation/CueMark", "isPassed", "()Z"⟩ : MethodName)) (z := (⟨"com/example/stairsim/stairsim/simulation/CueMark", "isPassed", "()Z"⟩ : MethodName)) hown (mvT hZ (hw _ (List.mem_of_getElem? (i := 40) rfl))) (mvT hZ (hw _ (List.mem_of_getElem? (i := 41) rfl))) (notFace_of_selects (args := #[]) (mvT hZ (hw _ (List.mem_of_getElem? (i := 43) rfl)))) (mvT hZ (hw _ (List.mem_of_getElem? (i := 43) rfl))) (mvT hZ (hw _ (List.mem_of_getElem? (i := 42) rfl))) (by decide) (backOf (W := 0) (rm6 l Z a0 hw [] b43 9218868437227405312 0 T45.heap n0 Z2 F45x (Or.inr ⟨own_not_passed, rfl⟩)) hZ (hw _ (List.mem_of_getElem? (i := 44) rfl)) (hw _ (List.mem_of_getElem? (i := 2) rfl)) (by decide) (by decide)) q47a q47c (g := (mkF m 13 #[.val (.int p1), .val (.int p2), .val (.int p3), .val (.int p4), .val (.int p5), .val (.ref b43), .unset, .unset] [(.ref b43)])) rfl (by rw [hml]; rfl) (Steps.refl _) (argsL := []) (rest := []) (lenOf pd3 rfl) rfl (by show 2 * 0 + _ ≤ _; exact Nat.le_of_eq rfl) (hb hby at_13) (fun _ _ => ⟨rfl, rfl, (by decide : 2 + 0 ≤ _), (by decide : 6 + 0 ≤ _)⟩)
  dsimp only [Pt.U, Pt.locs, Pt.cells, Pt.slots] at X47 l47 y47 z47 st47 hQ47
  subst l47 y47 z47
  obtain ⟨rfl, N47q, q47⟩ := hQ47
  have N47 := Fr.app N45 N47q
  have C47 : ∀ t, Steps p.tables e below (T47.setTop (mkF m 16 #[.val (.int p1), .val (.int p2), .val (.int p3), .val (.int p4), .val (.int p5), .val (.ref b43), .unset, .unset] [(.int (0 : Int32))])) t → Steps p.tables e below (s₁.setTop (entryFrame m #[(.int p1), (.int p2), (.int p3), (.int p4), (.int p5)] maxLocals)) t := fun t k => C46 t (st47.trans k)
  have C48 : ∀ t, Steps p.tables e below (T47.setTop (mkF m 31 #[.val (.int p1), .val (.int p2), .val (.int p3), .val (.int p4), .val (.int p5), .val (.ref b43), .val (.int (1 : Int32)), .val (.int (p2 &&& (3 : Int32)))] [])) t → Steps p.tables e below (s₁.setTop (entryFrame m #[(.int p1), (.int p2), (.int p3), (.int p4), (.int p5)] maxLocals)) t := by
    intro t k
    refine C47 t ?_
    show Steps p.tables e below (T47.setTop (mkF m 16 #[.val (.int p1), .val (.int p2), .val (.int p3), .val (.int p4), .val (.int p5), .val (.ref b43), .unset, .unset] [(.int (0 : Int32))])) _
    refine XS.ifNo X47.here hx rfl (hb hby at_16) rfl (XT.i0_ne_f rfl) ?_
    show Steps p.tables e below (T47.setTop (mkF m 19 #[.val (.int p1), .val (.int p2), .val (.int p3), .val (.int p4), .val (.int p5), .val (.ref b43), .unset, .unset] [])) _
    refine XS.iconst X47.here hx rfl (hb hby at_19) ?_
    show Steps p.tables e below (T47.setTop (mkF m 20 #[.val (.int p1), .val (.int p2), .val (.int p3), .val (.int p4), .val (.int p5), .val (.ref b43), .unset, .unset] [(.int (1 : Int32))])) _
    refine XS.goto X47.here hx rfl (pc0 := 20) (pc' := 24) rfl (hb hby at_20) (by decide) (by decide) ?_
    show Steps p.tables e below (T47.setTop (mkF m 24 #[.val (.int p1), .val (.int p2), .val (.int p3), .val (.int p4), .val (.int p5), .val (.ref b43), .unset, .unset] [(.int (1 : Int32))])) _
    refine XS.istore X47.here hx rfl (hb hby at_24) rfl (l' := #[.val (.int p1), .val (.int p2), .val (.int p3), .val (.int p4), .val (.int p5), .val (.ref b43), .val (.int (1 : Int32)), .unset]) rfl ?_
    show Steps p.tables e below (T47.setTop (mkF m 26 #[.val (.int p1), .val (.int p2), .val (.int p3), .val (.int p4), .val (.int p5), .val (.ref b43), .val (.int (1 : Int32)), .unset] [])) _
    refine XS.iloadN X47.here hx rfl (hb hby at_26) rfl ?_
    show Steps p.tables e below (T47.setTop (mkF m 27 #[.val (.int p1), .val (.int p2), .val (.int p3), .val (.int p4), .val (.int p5), .val (.ref b43), .val (.int (1 : Int32)), .unset] [(.int p2)])) _
    refine XS.iconst X47.here hx rfl (hb hby at_27) ?_
    show Steps p.tables e below (T47.setTop (mkF m 28 #[.val (.int p1), .val (.int p2), .val (.int p3), .val (.int p4), .val (.int p5), .val (.ref b43), .val (.int (1 : Int32)), .unset] [(.int (3 : Int32)), (.int p2)])) _
    refine XS.iand X47.here hx rfl (hb hby at_28) rfl ?_
    show Steps p.tables e below (T47.setTop (mkF m 29 #[.val (.int p1), .val (.int p2), .val (.int p3), .val (.int p4), .val (.int p5), .val (.ref b43), .val (.int (1 : Int32)), .unset] [(.int (p2 &&& (3 : Int32)))])) _
    refine XS.istore X47.here hx rfl (hb hby at_29) rfl (l' := #[.val (.int p1), .val (.int p2), .val (.int p3), .val (.int p4), .val (.int p5), .val (.ref b43), .val (.int (1 : Int32)), .val (.int (p2 &&& (3 : Int32)))]) rfl ?_
    exact k
  obtain ⟨kk, h_kk⟩ : ∃ z : Int32, z = (p2 &&& (3 : Int32)) := ⟨_, rfl⟩
  rw [← h_kk] at C48
  have hkk : kk = (1 : Int32) := by rw [h_kk]; exact hk
  have fin1 : Jvm.Free.Fl.Fin64 (Jvm.Native.java_lang_Math.nans.pick64 false 9218868437227405312 (FP.i2d p3)) := own_min_fin (Or.inl rfl) (own_i2d_fin p3)
  have C49 : ∀ t, Steps p.tables e below (T47.setTop (mkF m 41 #[.val (.int p1), .val (.int p2), .val (.int p3), .val (.int p4), .val (.int p5), .val (.ref b43), .val (.int (1 : Int32)), .val (.int kk)] [(.double (FP.i2d p3)), (.ref b43)])) t → Steps p.tables e below (s₁.setTop (entryFrame m #[(.int p1), (.int p2), (.int p3), (.int p4), (.int p5)] maxLocals)) t := by
    intro t k
    refine C48 t ?_
    show Steps p.tables e below (T47.setTop (mkF m 31 #[.val (.int p1), .val (.int p2), .val (.int p3), .val (.int p4), .val (.int p5), .val (.ref b43), .val (.int (1 : Int32)), .val (.int kk)] [])) _
    refine XS.iload X47.here hx rfl (hb hby at_31) rfl ?_
    show Steps p.tables e below (T47.setTop (mkF m 33 #[.val (.int p1), .val (.int p2), .val (.int p3), .val (.int p4), .val (.int p5), .val (.ref b43), .val (.int (1 : Int32)), .val (.int kk)] [(.int kk)])) _
    refine XS.iconst X47.here hx rfl (hb hby at_33) ?_
    show Steps p.tables e below (T47.setTop (mkF m 34 #[.val (.int p1), .val (.int p2), .val (.int p3), .val (.int p4), .val (.int p5), .val (.ref b43), .val (.int (1 : Int32)), .val (.int kk)] [(.int (1 : Int32)), (.int kk)])) _
    refine XS.icmpNo X47.here hx rfl (hb hby at_34) rfl (XT.ii_lt_f (by rw [hkk]; decide)) ?_
    show Steps p.tables e below (T47.setTop (mkF m 37 #[.val (.int p1), .val (.int p2), .val (.int p3), .val (.int p4), .val (.int p5), .val (.ref b43), .val (.int (1 : Int32)), .val (.int kk)] [])) _
    refine XS.aload X47.here hx rfl (hb hby at_37) rfl rfl ?_
    show Steps p.tables e below (T47.setTop (mkF m 39 #[.val (.int p1), .val (.int p2), .val (.int p3), .val (.int p4), .val (.int p5), .val (.ref b43), .val (.int (1 : Int32)), .val (.int kk)] [(.ref b43)])) _
    refine XS.iloadN X47.here hx rfl (hb hby at_39) rfl ?_
    show Steps p.tables e below (T47.setTop (mkF m 40 #[.val (.int p1), .val (.int p2), .val (.int p3), .val (.int p4), .val (.int p5), .val (.ref b43), .val (.int (1 : Int32)), .val (.int kk)] [(.int p3), (.ref b43)])) _
    refine XS.i2dS X47.here hx rfl (hb hby at_40) rfl rfl ?_
    exact k
  obtain ⟨cq50, kq50, q50a, q50b, q50c⟩ := isOf hZ q47 E45x
  obtain ⟨_, _, ⟨T50, L50, k50, n50⟩, -, X50, ⟨Lc50, hQ50, l50, y50, z50⟩, st50⟩ := X47.virtualBack hx (y := (⟨"com/example/stairsim/stairsim/simulation/CueMark", "pass", "(D)V"⟩ : MethodName)) (z := (⟨"com/example/stairsim/stairsim/simulation/CueMark", "pass", "(D)V"⟩ : MethodName)) hown (mvT hZ (hw _ (List.mem_of_getElem? (i := 45) rfl))) (mvT hZ (hw _ (List.mem_of_getElem? (i := 46) rfl))) (notFace_of_selects (args := #[]) (mvT hZ (hw _ (List.mem_of_getElem? (i := 48) rfl)))) (mvT hZ (hw _ (List.mem_of_getElem? (i := 48) rfl))) (mvT hZ (hw _ (List.mem_of_getElem? (i := 47) rfl))) (by decide) (backOf (W := 0) (rm7 l Z a0 hw [] b43 (FP.i2d p3) 9218868437227405312 T45.heap n0 Z2 F45x E45x g1 own_inf_nn (own_i2d_fin p3).noNaN) hZ (hw _ (List.mem_of_getElem? (i := 49) rfl)) (hw _ (List.mem_of_getElem? (i := 2) rfl)) (by decide) (by decide)) q50a q50c (g := (mkF m 41 #[.val (.int p1), .val (.int p2), .val (.int p3), .val (.int p4), .val (.int p5), .val (.ref b43), .val (.int (1 : Int32)), .val (.int kk)] [(.double (FP.i2d p3)), (.ref b43)])) rfl (by rw [hml]; rfl) (Steps.refl _) (argsL := [(.double (FP.i2d p3))]) (rest := []) (lenOf pd2 rfl) rfl (by show 2 * 0 + _ ≤ _; exact Nat.le_of_eq rfl) (hb hby at_41) (fun _ _ => ⟨rfl, q47, (by decide : 2 + 0 ≤ _), (by decide : 6 + 0 ≤ _)⟩)
  dsimp only [Pt.U, Pt.locs, Pt.cells, Pt.slots] at X50 l50 y50 z50 st50 hQ50
  subst l50 y50 z50
  obtain ⟨rfl, N50q, E50x, F50x, s50⟩ := hQ50
  have N50 := Fr.app N47 N50q
  have C50 : ∀ t, Steps p.tables e below (T50.setTop (mkF m 44 #[.val (.int p1), .val (.int p2), .val (.int p3), .val (.int p4), .val (.int p5), .val (.ref b43), .val (.int (1 : Int32)), .val (.int kk)] [])) t → Steps p.tables e below (s₁.setTop (entryFrame m #[(.int p1), (.int p2), (.int p3), (.int p4), (.int p5)] maxLocals)) t := fun t k => C49 t (st50.trans k)
  have ZZ50 : n0 ≤ T50.heap.size := Nat.le_trans Z2 s50
  obtain ⟨y1, hy1⟩ : ∃ z : UInt64, z = (Jvm.Native.java_lang_Math.nans.pick64 false 9218868437227405312 (FP.i2d p3)) := ⟨_, rfl⟩
  rw [← hy1] at F50x fin1
  have C51 : ∀ t, Steps p.tables e below (T50.setTop (mkF m 51 #[.val (.int p1), .val (.int p2), .val (.int p3), .val (.int p4), .val (.int p5), .val (.ref b43), .val (.int (1 : Int32)), .val (.int kk)] [(.ref b43)])) t → Steps p.tables e below (s₁.setTop (entryFrame m #[(.int p1), (.int p2), (.int p3), (.int p4), (.int p5)] maxLocals)) t := by
    intro t k
    refine C50 t ?_
    show Steps p.tables e below (T50.setTop (mkF m 44 #[.val (.int p1), .val (.int p2), .val (.int p3), .val (.int p4), .val (.int p5), .val (.ref b43), .val (.int (1 : Int32)), .val (.int kk)] [])) _
    refine XS.iload X50.here hx rfl (hb hby at_44) rfl ?_
    show Steps p.tables e below (T50.setTop (mkF m 46 #[.val (.int p1), .val (.int p2), .val (.int p3), .val (.int p4), .val (.int p5), .val (.ref b43), .val (.int (1 : Int32)), .val (.int kk)] [(.int (1 : Int32))])) _
    refine XS.ifNo X50.here hx rfl (hb hby at_46) rfl (XT.i0_eq_f (by decide)) ?_
    show Steps p.tables e below (T50.setTop (mkF m 49 #[.val (.int p1), .val (.int p2), .val (.int p3), .val (.int p4), .val (.int p5), .val (.ref b43), .val (.int (1 : Int32)), .val (.int kk)] [])) _
    refine XS.aload X50.here hx rfl (hb hby at_49) rfl rfl ?_
    exact k
  obtain ⟨cq52, kq52, q52a, q52b, q52c⟩ := isOf hZ rfl E50x
  obtain ⟨_, _, ⟨T52, L52, k52, n52⟩, -, X52, ⟨Lc52, hQ52, l52, y52, z52⟩, st52⟩ := X50.virtualBack hx (y := (⟨"com/example/stairsim/stairsim/simulation/CueMark", "isPassed", "()Z"⟩ : MethodName)) (z := (⟨"com/example/stairsim/stairsim/simulation/CueMark", "isPassed", "()Z"⟩ : MethodName)) hown (mvT hZ (hw _ (List.mem_of_getElem? (i := 40) rfl))) (mvT hZ (hw _ (List.mem_of_getElem? (i := 41) rfl))) (notFace_of_selects (args := #[]) (mvT hZ (hw _ (List.mem_of_getElem? (i := 43) rfl)))) (mvT hZ (hw _ (List.mem_of_getElem? (i := 43) rfl))) (mvT hZ (hw _ (List.mem_of_getElem? (i := 42) rfl))) (by decide) (backOf (W := 0) (rm6 l Z a0 hw [] b43 y1 1 T50.heap n0 ZZ50 F50x (Or.inl ⟨own_passed fin1, rfl⟩)) hZ (hw _ (List.mem_of_getElem? (i := 44) rfl)) (hw _ (List.mem_of_getElem? (i := 2) rfl)) (by decide) (by decide)) q52a q52c (g := (mkF m 51 #[.val (.int p1), .val (.int p2), .val (.int p3), .val (.int p4), .val (.int p5), .val (.ref b43), .val (.int (1 : Int32)), .val (.int kk)] [(.ref b43)])) rfl (by rw [hml]; rfl) (Steps.refl _) (argsL := []) (rest := []) (lenOf pd3 rfl) rfl (by show 2 * 0 + _ ≤ _; exact Nat.le_of_eq rfl) (hb hby at_51) (fun _ _ => ⟨rfl, rfl, (by decide : 2 + 0 ≤ _), (by decide : 6 + 0 ≤ _)⟩)
  dsimp only [Pt.U, Pt.locs, Pt.cells, Pt.slots] at X52 l52 y52 z52 st52 hQ52
  subst l52 y52 z52
  obtain ⟨rfl, N52q, q52⟩ := hQ52
  have N52 := Fr.app N50 N52q
  have C52 : ∀ t, Steps p.tables e below (T52.setTop (mkF m 54 #[.val (.int p1), .val (.int p2), .val (.int p3), .val (.int p4), .val (.int p5), .val (.ref b43), .val (.int (1 : Int32)), .val (.int kk)] [(.int (1 : Int32))])) t → Steps p.tables e below (s₁.setTop (entryFrame m #[(.int p1), (.int p2), (.int p3), (.int p4), (.int p5)] maxLocals)) t := fun t k => C51 t (st52.trans k)
  have C53 : ∀ t, Steps p.tables e below (T52.setTop (mkF m 138 #[.val (.int p1), .val (.int p2), .val (.int p3), .val (.int p4), .val (.int p5), .val (.ref b43), .val (.int (1 : Int32)), .val (.int kk)] [(.ref b43)])) t → Steps p.tables e below (s₁.setTop (entryFrame m #[(.int p1), (.int p2), (.int p3), (.int p4), (.int p5)] maxLocals)) t := by
    intro t k
    refine C52 t ?_
    show Steps p.tables e below (T52.setTop (mkF m 54 #[.val (.int p1), .val (.int p2), .val (.int p3), .val (.int p4), .val (.int p5), .val (.ref b43), .val (.int (1 : Int32)), .val (.int kk)] [(.int (1 : Int32))])) _
    refine XS.ifNo X52.here hx rfl (hb hby at_54) rfl (XT.i0_eq_f (by decide)) ?_
    show Steps p.tables e below (T52.setTop (mkF m 57 #[.val (.int p1), .val (.int p2), .val (.int p3), .val (.int p4), .val (.int p5), .val (.ref b43), .val (.int (1 : Int32)), .val (.int kk)] [])) _
    refine XS.iconst X52.here hx rfl (hb hby at_57) ?_
    show Steps p.tables e below (T52.setTop (mkF m 58 #[.val (.int p1), .val (.int p2), .val (.int p3), .val (.int p4), .val (.int p5), .val (.ref b43), .val (.int (1 : Int32)), .val (.int kk)] [(.int (1 : Int32))])) _
    refine XS.goto X52.here hx rfl (pc0 := 58) (pc' := 62) rfl (hb hby at_58) (by decide) (by decide) ?_
    show Steps p.tables e below (T52.setTop (mkF m 62 #[.val (.int p1), .val (.int p2), .val (.int p3), .val (.int p4), .val (.int p5), .val (.ref b43), .val (.int (1 : Int32)), .val (.int kk)] [(.int (1 : Int32))])) _
    refine XS.istore X52.here hx rfl (hb hby at_62) rfl (l' := #[.val (.int p1), .val (.int p2), .val (.int p3), .val (.int p4), .val (.int p5), .val (.ref b43), .val (.int (1 : Int32)), .val (.int kk)]) rfl ?_
    show Steps p.tables e below (T52.setTop (mkF m 64 #[.val (.int p1), .val (.int p2), .val (.int p3), .val (.int p4), .val (.int p5), .val (.ref b43), .val (.int (1 : Int32)), .val (.int kk)] [])) _
    refine XS.iload X52.here hx rfl (hb hby at_64) rfl ?_
    show Steps p.tables e below (T52.setTop (mkF m 66 #[.val (.int p1), .val (.int p2), .val (.int p3), .val (.int p4), .val (.int p5), .val (.ref b43), .val (.int (1 : Int32)), .val (.int kk)] [(.int kk)])) _
    refine XS.iconst X52.here hx rfl (hb hby at_66) ?_
    show Steps p.tables e below (T52.setTop (mkF m 67 #[.val (.int p1), .val (.int p2), .val (.int p3), .val (.int p4), .val (.int p5), .val (.ref b43), .val (.int (1 : Int32)), .val (.int kk)] [(.int (2 : Int32)), (.int kk)])) _
    refine XS.icmpYes X52.here hx rfl (pc0 := 67) (pc' := 97) rfl (hb hby at_67) rfl (XT.ii_lt_t (by rw [hkk]; decide)) (by decide) (by decide) ?_
    show Steps p.tables e below (T52.setTop (mkF m 97 #[.val (.int p1), .val (.int p2), .val (.int p3), .val (.int p4), .val (.int p5), .val (.ref b43), .val (.int (1 : Int32)), .val (.int kk)] [])) _
    refine XS.iload X52.here hx rfl (hb hby at_97) rfl ?_
    show Steps p.tables e below (T52.setTop (mkF m 99 #[.val (.int p1), .val (.int p2), .val (.int p3), .val (.int p4), .val (.int p5), .val (.ref b43), .val (.int (1 : Int32)), .val (.int kk)] [(.int kk)])) _
    refine XS.iconst X52.here hx rfl (hb hby at_99) ?_
    show Steps p.tables e below (T52.setTop (mkF m 100 #[.val (.int p1), .val (.int p2), .val (.int p3), .val (.int p4), .val (.int p5), .val (.ref b43), .val (.int (1 : Int32)), .val (.int kk)] [(.int (3 : Int32)), (.int kk)])) _
    refine XS.icmpYes X52.here hx rfl (pc0 := 100) (pc' := 131) rfl (hb hby at_100) rfl (XT.ii_lt_t (by rw [hkk]; decide)) (by decide) (by decide) ?_
    show Steps p.tables e below (T52.setTop (mkF m 131 #[.val (.int p1), .val (.int p2), .val (.int p3), .val (.int p4), .val (.int p5), .val (.ref b43), .val (.int (1 : Int32)), .val (.int kk)] [])) _
    refine XS.iload X52.here hx rfl (hb hby at_131) rfl ?_
    show Steps p.tables e below (T52.setTop (mkF m 133 #[.val (.int p1), .val (.int p2), .val (.int p3), .val (.int p4), .val (.int p5), .val (.ref b43), .val (.int (1 : Int32)), .val (.int kk)] [(.int (1 : Int32))])) _
    refine XS.ifNo X52.here hx rfl (hb hby at_133) rfl (XT.i0_eq_f (by decide)) ?_
    show Steps p.tables e below (T52.setTop (mkF m 136 #[.val (.int p1), .val (.int p2), .val (.int p3), .val (.int p4), .val (.int p5), .val (.ref b43), .val (.int (1 : Int32)), .val (.int kk)] [])) _
    refine XS.aload X52.here hx rfl (hb hby at_136) rfl rfl ?_
    exact k
  obtain ⟨cq54, kq54, q54a, q54b, q54c⟩ := isOf hZ q52 E50x
  obtain ⟨_, _, ⟨T54, L54, k54, n54⟩, -, X54, ⟨Lc54, hQ54, l54, y54, z54⟩, st54⟩ := X52.virtualBack hx (y := (⟨"com/example/stairsim/stairsim/simulation/CueMark", "isPassed", "()Z"⟩ : MethodName)) (z := (⟨"com/example/stairsim/stairsim/simulation/CueMark", "isPassed", "()Z"⟩ : MethodName)) hown (mvT hZ (hw _ (List.mem_of_getElem? (i := 40) rfl))) (mvT hZ (hw _ (List.mem_of_getElem? (i := 41) rfl))) (notFace_of_selects (args := #[]) (mvT hZ (hw _ (List.mem_of_getElem? (i := 43) rfl)))) (mvT hZ (hw _ (List.mem_of_getElem? (i := 43) rfl))) (mvT hZ (hw _ (List.mem_of_getElem? (i := 42) rfl))) (by decide) (backOf (W := 0) (rm6 l Z a0 hw [] b43 y1 1 T50.heap n0 ZZ50 F50x (Or.inl ⟨own_passed fin1, rfl⟩)) hZ (hw _ (List.mem_of_getElem? (i := 44) rfl)) (hw _ (List.mem_of_getElem? (i := 2) rfl)) (by decide) (by decide)) q54a q54c (g := (mkF m 138 #[.val (.int p1), .val (.int p2), .val (.int p3), .val (.int p4), .val (.int p5), .val (.ref b43), .val (.int (1 : Int32)), .val (.int kk)] [(.ref b43)])) rfl (by rw [hml]; rfl) (Steps.refl _) (argsL := []) (rest := []) (lenOf pd3 rfl) rfl (by show 2 * 0 + _ ≤ _; exact Nat.le_of_eq rfl) (hb hby at_138) (fun _ _ => ⟨rfl, q52, (by decide : 2 + 0 ≤ _), (by decide : 6 + 0 ≤ _)⟩)
  dsimp only [Pt.U, Pt.locs, Pt.cells, Pt.slots] at X54 l54 y54 z54 st54 hQ54
  subst l54 y54 z54
  obtain ⟨rfl, N54q, q54⟩ := hQ54
  have N54 := Fr.app N52 N54q
  have C54 : ∀ t, Steps p.tables e below (T54.setTop (mkF m 141 #[.val (.int p1), .val (.int p2), .val (.int p3), .val (.int p4), .val (.int p5), .val (.ref b43), .val (.int (1 : Int32)), .val (.int kk)] [(.int (1 : Int32))])) t → Steps p.tables e below (s₁.setTop (entryFrame m #[(.int p1), (.int p2), (.int p3), (.int p4), (.int p5)] maxLocals)) t := fun t k => C53 t (st54.trans k)
  have C55 : ∀ t, Steps p.tables e below (T54.setTop (mkF m 160 #[.val (.int p1), .val (.int p2), .val (.int p3), .val (.int p4), .val (.int p5), .val (.ref b43), .val (.int (1 : Int32)), .val (.int kk)] [(.int (1 : Int32))])) t → Steps p.tables e below (s₁.setTop (entryFrame m #[(.int p1), (.int p2), (.int p3), (.int p4), (.int p5)] maxLocals)) t := by
    intro t k
    refine C54 t ?_
    show Steps p.tables e below (T54.setTop (mkF m 141 #[.val (.int p1), .val (.int p2), .val (.int p3), .val (.int p4), .val (.int p5), .val (.ref b43), .val (.int (1 : Int32)), .val (.int kk)] [(.int (1 : Int32))])) _
    refine XS.iload X54.here hx rfl (hb hby at_141) rfl ?_
    show Steps p.tables e below (T54.setTop (mkF m 143 #[.val (.int p1), .val (.int p2), .val (.int p3), .val (.int p4), .val (.int p5), .val (.ref b43), .val (.int (1 : Int32)), .val (.int kk)] [(.int kk), (.int (1 : Int32))])) _
    refine XS.iconst X54.here hx rfl (hb hby at_143) ?_
    show Steps p.tables e below (T54.setTop (mkF m 144 #[.val (.int p1), .val (.int p2), .val (.int p3), .val (.int p4), .val (.int p5), .val (.ref b43), .val (.int (1 : Int32)), .val (.int kk)] [(.int (1 : Int32)), (.int kk), (.int (1 : Int32))])) _
    refine XS.icmpNo X54.here hx rfl (hb hby at_144) rfl (XT.ii_lt_f (by rw [hkk]; decide)) ?_
    show Steps p.tables e below (T54.setTop (mkF m 147 #[.val (.int p1), .val (.int p2), .val (.int p3), .val (.int p4), .val (.int p5), .val (.ref b43), .val (.int (1 : Int32)), .val (.int kk)] [(.int (1 : Int32))])) _
    refine XS.iconst X54.here hx rfl (hb hby at_147) ?_
    show Steps p.tables e below (T54.setTop (mkF m 148 #[.val (.int p1), .val (.int p2), .val (.int p3), .val (.int p4), .val (.int p5), .val (.ref b43), .val (.int (1 : Int32)), .val (.int kk)] [(.int (1 : Int32)), (.int (1 : Int32))])) _
    refine XS.goto X54.here hx rfl (pc0 := 148) (pc' := 152) rfl (hb hby at_148) (by decide) (by decide) ?_
    show Steps p.tables e below (T54.setTop (mkF m 152 #[.val (.int p1), .val (.int p2), .val (.int p3), .val (.int p4), .val (.int p5), .val (.ref b43), .val (.int (1 : Int32)), .val (.int kk)] [(.int (1 : Int32)), (.int (1 : Int32))])) _
    refine XS.icmpNo X54.here hx rfl (hb hby at_152) rfl (XT.ii_ne_f rfl) ?_
    show Steps p.tables e below (T54.setTop (mkF m 155 #[.val (.int p1), .val (.int p2), .val (.int p3), .val (.int p4), .val (.int p5), .val (.ref b43), .val (.int (1 : Int32)), .val (.int kk)] [])) _
    refine XS.iconst X54.here hx rfl (hb hby at_155) ?_
    show Steps p.tables e below (T54.setTop (mkF m 156 #[.val (.int p1), .val (.int p2), .val (.int p3), .val (.int p4), .val (.int p5), .val (.ref b43), .val (.int (1 : Int32)), .val (.int kk)] [(.int (1 : Int32))])) _
    refine XS.goto X54.here hx rfl (pc0 := 156) (pc' := 160) rfl (hb hby at_156) (by decide) (by decide) ?_
    exact k
  obtain ⟨fs, hr, hrun, hended, hW, hsame⟩ := X54.leave (v := some (.int (1 : Int32))) (fun h => by rw [Bd.returns] at h; cases h)
  refine ⟨_, _, C55 _ ?_, hrun, hended, _, _, rfl, ?_, ⟨_, rfl⟩, hW, hsame.mono (by decide) (by decide)⟩
  · show Steps p.tables e below (T54.setTop (mkF m 160 #[.val (.int p1), .val (.int p2), .val (.int p3), .val (.int p4), .val (.int p5), .val (.ref b43), .val (.int (1 : Int32)), .val (.int kk)] [(.int (1 : Int32))])) _
    exact retN X54 hx (t := .boolean) Bd.returns (by simp) (hb hby at_160) hr
  · show Q0 Z p1 p2 p3 p4 p5 h0 n0 _ T54.heap _
    rw [q54]
    exact ⟨rfl, N54⟩
set_option maxRecDepth 65536 in
set_option maxHeartbeats 40000000 in
theorem rm0_2 (l : Launch) (Z : State) (a0 : Array Value) (hw : ∀ d ∈ tables_1, d.before a0 Z = true) (ws : List Jvm.Cond) (p1 p2 p3 p4 p5 : Int32) (ad : Addr) (h0 : Heap) (n0 : Nat) (Z0 : n0 ≤ h0.size) (S1 : Sta Z h0 "java/util/ArrayList" "DEFAULTCAPACITY_EMPTY_ELEMENTDATA" "[Ljava/lang/Object;" (.ref ad)) (hk : (p2 &&& (3 : Int32)) = (2 : Int32)) :
    MetFree l x (head1 (Jvm.Cond.code x code maxLocals ret :: ws) room_1) (fun a U => a = #[(.int p1), (.int p2), (.int p3), (.int p4), (.int p5)] ∧ Z.Warmed39 U.vm ∧ U.heap = h0) (fun _ _ _ _ _ => True) (fun _ U o U' => ∃ v L, o = .returned v ∧ Q0 Z p1 p2 p3 p4 p5 h0 n0 v U'.heap L ∧ FrameEnd U o U' L room_1.cells room_1.slots) := by
  refine MetFree.of_bodySF (plainFor_of_name pn4) hisR ?_
  intro p e s m args below meth c s₁ Bd hml0 hP hK
  obtain ⟨rfl, hZ, hh⟩ := hP
  have hx := Bd.exec
  have hby := Bd.bytes
  have hml : c.maxLocals = 8 := hml0
  have hown : s.vm.findClass "com/example/stairsim/stairsim/simulation/CueMarkIsPassedPinLaw" = some m.cls := findClass_of_methodNamed Bd.named
  have hnm := (name_of_methodNamed Bd.named Bd.method).1
  have X0 : Stand p l e room_1 s m #[(.int p1), (.int p2), (.int p3), (.int p4), (.int p5)] below meth c s₁ [] 0 0 := Stand.of_body Bd
  have e0 : s₁.heap = h0 := by rw [← hh, Bd.state]; rfl
  have N0 := Fr.nil n0
  have pre0 : ∀ t, Steps p.tables e below (s₁.setTop (mkF m 0 #[.val (.int p1), .val (.int p2), .val (.int p3), .val (.int p4), .val (.int p5), .unset, .unset, .unset] [])) t → Steps p.tables e below (s₁.setTop (entryFrame m #[(.int p1), (.int p2), (.int p3), (.int p4), (.int p5)] maxLocals)) t := fun t k => castTop (ef0 m p1 p2 p3 p4 p5) k
  obtain ⟨T56, h56, X56, e56, E56, A56, D56, -, st56⟩ := newO X0 hx hZ hown (hw _ (List.mem_of_getElem? (i := 0) rfl)) (hw _ (List.mem_of_getElem? (i := 1) rfl)) (hw _ (List.mem_of_getElem? (i := 2) rfl)) e0 (g := (mkF m 0 #[.val (.int p1), .val (.int p2), .val (.int p3), .val (.int p4), .val (.int p5), .unset, .unset, .unset] [])) rfl (hb hby at_0) (by decide) (by decide)
  obtain ⟨b56, g56⟩ : ∃ z, z = h0.size := ⟨_, rfl⟩
  rw [← g56] at A56 D56 st56
  have C56 : ∀ t, Steps p.tables e below (T56.setTop (mkF m 3 #[.val (.int p1), .val (.int p2), .val (.int p3), .val (.int p4), .val (.int p5), .unset, .unset, .unset] [(.ref b56)])) t → Steps p.tables e below (s₁.setTop (entryFrame m #[(.int p1), (.int p2), (.int p3), (.int p4), (.int p5)] maxLocals)) t := fun t k => pre0 t (st56 t k)
  have F1 : Fld Z h56 b56 "com/example/stairsim/stairsim/simulation/CueMark" "held" "Ljava/util/List;" .null := D56 (Or.inr (hw _ (List.mem_of_getElem? (i := 34) rfl))) (ty := (.object "java/util/List")) (by decide)
  have F2 : Fld Z h56 b56 "com/example/stairsim/stairsim/simulation/CueMark" "passedS" "D" (.double 0) := D56 (Or.inl (hw _ (List.mem_of_getElem? (i := 37) rfl))) (ty := .double) (by decide)
  have F3 : Fld Z h56 b56 "com/example/stairsim/stairsim/simulation/CueMark" "positionM" "D" (.double 0) := D56 (Or.inr (hw _ (List.mem_of_getElem? (i := 39) rfl))) (ty := .double) (by decide)
  have Z1 : n0 ≤ h56.size := Nat.le_trans Z0 E56.1
  have g1 : n0 ≤ b56 := Nat.le_trans Z0 (Nat.le_of_eq g56.symm)
  have C57 : ∀ t, Steps p.tables e below (T56.setTop (mkF m 6 #[.val (.int p1), .val (.int p2), .val (.int p3), .val (.int p4), .val (.int p5), .unset, .unset, .unset] [(.double (FP.i2d p1)), (.ref b56), (.ref b56)])) t → Steps p.tables e below (s₁.setTop (entryFrame m #[(.int p1), (.int p2), (.int p3), (.int p4), (.int p5)] maxLocals)) t := by
    intro t k
    refine C56 t ?_
    show Steps p.tables e below (T56.setTop (mkF m 3 #[.val (.int p1), .val (.int p2), .val (.int p3), .val (.int p4), .val (.int p5), .unset, .unset, .unset] [(.ref b56)])) _
    refine XS.dup X56.here hx rfl (hb hby at_3) rfl rfl ?_
    show Steps p.tables e below (T56.setTop (mkF m 4 #[.val (.int p1), .val (.int p2), .val (.int p3), .val (.int p4), .val (.int p5), .unset, .unset, .unset] [(.ref b56), (.ref b56)])) _
    refine XS.iloadN X56.here hx rfl (hb hby at_4) rfl ?_
    show Steps p.tables e below (T56.setTop (mkF m 5 #[.val (.int p1), .val (.int p2), .val (.int p3), .val (.int p4), .val (.int p5), .unset, .unset, .unset] [(.int p1), (.ref b56), (.ref b56)])) _
    refine XS.i2dS X56.here hx rfl (hb hby at_5) rfl rfl ?_
    exact k
  obtain ⟨_, _, ⟨T58, L58, k58, n58⟩, -, X58, ⟨Lc58, hQ58, l58, y58, z58⟩, st58⟩ := X56.specialBack hx (y := (⟨"com/example/stairsim/stairsim/simulation/CueMark", "<init>", "(D)V"⟩ : MethodName)) rfl hown (mvT hZ (hw _ (List.mem_of_getElem? (i := 3) rfl))) (mvT hZ (hw _ (List.mem_of_getElem? (i := 4) rfl))) (mvT hZ (hw _ (List.mem_of_getElem? (i := 5) rfl))) (by decide) (backOf (W := 1) (rm1 l Z a0 hw [] b56 (FP.i2d p1) ad h56 n0 Z1 F1 F2 F3 A56 g1 (S1.ext E56)) hZ (hw _ (List.mem_of_getElem? (i := 5) rfl)) (hw _ (List.mem_of_getElem? (i := 2) rfl)) (by decide) (by decide)) (g := (mkF m 6 #[.val (.int p1), .val (.int p2), .val (.int p3), .val (.int p4), .val (.int p5), .unset, .unset, .unset] [(.double (FP.i2d p1)), (.ref b56), (.ref b56)])) rfl (by rw [hml]; rfl) (Steps.refl _) (a := b56) (argsL := [(.double (FP.i2d p1))]) (rest := [(.ref b56)]) (lenOf pd2 rfl) rfl (by show 2 * 0 + _ ≤ _; exact Nat.le_of_eq rfl) (hb hby at_6) (fun _ _ => ⟨rfl, e56, (by decide : 1 + 1 ≤ _), (by decide : 3 + 3 ≤ _)⟩)
  dsimp only [Pt.U, Pt.locs, Pt.cells, Pt.slots] at X58 l58 y58 z58 st58 hQ58
  subst l58 y58 z58
  obtain ⟨rfl, N58q, E58x, F58x, s58⟩ := hQ58
  have N58 := Fr.app N0 N58q
  have C58 : ∀ t, Steps p.tables e below (T58.setTop (mkF m 9 #[.val (.int p1), .val (.int p2), .val (.int p3), .val (.int p4), .val (.int p5), .unset, .unset, .unset] [(.ref b56)])) t → Steps p.tables e below (s₁.setTop (entryFrame m #[(.int p1), (.int p2), (.int p3), (.int p4), (.int p5)] maxLocals)) t := fun t k => C57 t (st58.trans k)
  have Z2 : n0 ≤ T58.heap.size := Nat.le_trans Z1 s58
  have C59 : ∀ t, Steps p.tables e below (T58.setTop (mkF m 13 #[.val (.int p1), .val (.int p2), .val (.int p3), .val (.int p4), .val (.int p5), .val (.ref b56), .unset, .unset] [(.ref b56)])) t → Steps p.tables e below (s₁.setTop (entryFrame m #[(.int p1), (.int p2), (.int p3), (.int p4), (.int p5)] maxLocals)) t := by
    intro t k
    refine C58 t ?_
    show Steps p.tables e below (T58.setTop (mkF m 9 #[.val (.int p1), .val (.int p2), .val (.int p3), .val (.int p4), .val (.int p5), .unset, .unset, .unset] [(.ref b56)])) _
    refine XS.astore X58.here hx rfl (hb hby at_9) rfl rfl (l' := #[.val (.int p1), .val (.int p2), .val (.int p3), .val (.int p4), .val (.int p5), .val (.ref b56), .unset, .unset]) rfl ?_
    show Steps p.tables e below (T58.setTop (mkF m 11 #[.val (.int p1), .val (.int p2), .val (.int p3), .val (.int p4), .val (.int p5), .val (.ref b56), .unset, .unset] [])) _
    refine XS.aload X58.here hx rfl (hb hby at_11) rfl rfl ?_
    exact k
  obtain ⟨cq60, kq60, q60a, q60b, q60c⟩ := isOf hZ rfl E58x
  obtain ⟨_, _, ⟨T60, L60, k60, n60⟩, -, X60, ⟨Lc60, hQ60, l60, y60, z60⟩, st60⟩ := X58.virtualBack hx (y := (⟨"com/example/stairsim/stairsim/simulation/CueMark", "isPassed", "()Z"⟩ : MethodName)) (z := (⟨"com/example/stairsim/stairsim/simulation/CueMark", "isPassed", "()Z"⟩ : MethodName)) hown (mvT hZ (hw _ (List.mem_of_getElem? (i := 40) rfl))) (mvT hZ (hw _ (List.mem_of_getElem? (i := 41) rfl))) (notFace_of_selects (args := #[]) (mvT hZ (hw _ (List.mem_of_getElem? (i := 43) rfl)))) (mvT hZ (hw _ (List.mem_of_getElem? (i := 43) rfl))) (mvT hZ (hw _ (List.mem_of_getElem? (i := 42) rfl))) (by decide) (backOf (W := 0) (rm6 l Z a0 hw [] b56 9218868437227405312 0 T58.heap n0 Z2 F58x (Or.inr ⟨own_not_passed, rfl⟩)) hZ (hw _ (List.mem_of_getElem? (i := 44) rfl)) (hw _ (List.mem_of_getElem? (i := 2) rfl)) (by decide) (by decide)) q60a q60c (g := (mkF m 13 #[.val (.int p1), .val (.int p2), .val (.int p3), .val (.int p4), .val (.int p5), .val (.ref b56), .unset, .unset] [(.ref b56)])) rfl (by rw [hml]; rfl) (Steps.refl _) (argsL := []) (rest := []) (lenOf pd3 rfl) rfl (by show 2 * 0 + _ ≤ _; exact Nat.le_of_eq rfl) (hb hby at_13) (fun _ _ => ⟨rfl, rfl, (by decide : 2 + 0 ≤ _), (by decide : 6 + 0 ≤ _)⟩)
  dsimp only [Pt.U, Pt.locs, Pt.cells, Pt.slots] at X60 l60 y60 z60 st60 hQ60
  subst l60 y60 z60
  obtain ⟨rfl, N60q, q60⟩ := hQ60
  have N60 := Fr.app N58 N60q
  have C60 : ∀ t, Steps p.tables e below (T60.setTop (mkF m 16 #[.val (.int p1), .val (.int p2), .val (.int p3), .val (.int p4), .val (.int p5), .val (.ref b56), .unset, .unset] [(.int (0 : Int32))])) t → Steps p.tables e below (s₁.setTop (entryFrame m #[(.int p1), (.int p2), (.int p3), (.int p4), (.int p5)] maxLocals)) t := fun t k => C59 t (st60.trans k)
  have C61 : ∀ t, Steps p.tables e below (T60.setTop (mkF m 31 #[.val (.int p1), .val (.int p2), .val (.int p3), .val (.int p4), .val (.int p5), .val (.ref b56), .val (.int (1 : Int32)), .val (.int (p2 &&& (3 : Int32)))] [])) t → Steps p.tables e below (s₁.setTop (entryFrame m #[(.int p1), (.int p2), (.int p3), (.int p4), (.int p5)] maxLocals)) t := by
    intro t k
    refine C60 t ?_
    show Steps p.tables e below (T60.setTop (mkF m 16 #[.val (.int p1), .val (.int p2), .val (.int p3), .val (.int p4), .val (.int p5), .val (.ref b56), .unset, .unset] [(.int (0 : Int32))])) _
    refine XS.ifNo X60.here hx rfl (hb hby at_16) rfl (XT.i0_ne_f rfl) ?_
    show Steps p.tables e below (T60.setTop (mkF m 19 #[.val (.int p1), .val (.int p2), .val (.int p3), .val (.int p4), .val (.int p5), .val (.ref b56), .unset, .unset] [])) _
    refine XS.iconst X60.here hx rfl (hb hby at_19) ?_
    show Steps p.tables e below (T60.setTop (mkF m 20 #[.val (.int p1), .val (.int p2), .val (.int p3), .val (.int p4), .val (.int p5), .val (.ref b56), .unset, .unset] [(.int (1 : Int32))])) _
    refine XS.goto X60.here hx rfl (pc0 := 20) (pc' := 24) rfl (hb hby at_20) (by decide) (by decide) ?_
    show Steps p.tables e below (T60.setTop (mkF m 24 #[.val (.int p1), .val (.int p2), .val (.int p3), .val (.int p4), .val (.int p5), .val (.ref b56), .unset, .unset] [(.int (1 : Int32))])) _
    refine XS.istore X60.here hx rfl (hb hby at_24) rfl (l' := #[.val (.int p1), .val (.int p2), .val (.int p3), .val (.int p4), .val (.int p5), .val (.ref b56), .val (.int (1 : Int32)), .unset]) rfl ?_
    show Steps p.tables e below (T60.setTop (mkF m 26 #[.val (.int p1), .val (.int p2), .val (.int p3), .val (.int p4), .val (.int p5), .val (.ref b56), .val (.int (1 : Int32)), .unset] [])) _
    refine XS.iloadN X60.here hx rfl (hb hby at_26) rfl ?_
    show Steps p.tables e below (T60.setTop (mkF m 27 #[.val (.int p1), .val (.int p2), .val (.int p3), .val (.int p4), .val (.int p5), .val (.ref b56), .val (.int (1 : Int32)), .unset] [(.int p2)])) _
    refine XS.iconst X60.here hx rfl (hb hby at_27) ?_
    show Steps p.tables e below (T60.setTop (mkF m 28 #[.val (.int p1), .val (.int p2), .val (.int p3), .val (.int p4), .val (.int p5), .val (.ref b56), .val (.int (1 : Int32)), .unset] [(.int (3 : Int32)), (.int p2)])) _
    refine XS.iand X60.here hx rfl (hb hby at_28) rfl ?_
    show Steps p.tables e below (T60.setTop (mkF m 29 #[.val (.int p1), .val (.int p2), .val (.int p3), .val (.int p4), .val (.int p5), .val (.ref b56), .val (.int (1 : Int32)), .unset] [(.int (p2 &&& (3 : Int32)))])) _
    refine XS.istore X60.here hx rfl (hb hby at_29) rfl (l' := #[.val (.int p1), .val (.int p2), .val (.int p3), .val (.int p4), .val (.int p5), .val (.ref b56), .val (.int (1 : Int32)), .val (.int (p2 &&& (3 : Int32)))]) rfl ?_
    exact k
  obtain ⟨kk, h_kk⟩ : ∃ z : Int32, z = (p2 &&& (3 : Int32)) := ⟨_, rfl⟩
  rw [← h_kk] at C61
  have hkk : kk = (2 : Int32) := by rw [h_kk]; exact hk
  have fin1 : Jvm.Free.Fl.Fin64 (Jvm.Native.java_lang_Math.nans.pick64 false 9218868437227405312 (FP.i2d p3)) := own_min_fin (Or.inl rfl) (own_i2d_fin p3)
  have C62 : ∀ t, Steps p.tables e below (T60.setTop (mkF m 41 #[.val (.int p1), .val (.int p2), .val (.int p3), .val (.int p4), .val (.int p5), .val (.ref b56), .val (.int (1 : Int32)), .val (.int kk)] [(.double (FP.i2d p3)), (.ref b56)])) t → Steps p.tables e below (s₁.setTop (entryFrame m #[(.int p1), (.int p2), (.int p3), (.int p4), (.int p5)] maxLocals)) t := by
    intro t k
    refine C61 t ?_
    show Steps p.tables e below (T60.setTop (mkF m 31 #[.val (.int p1), .val (.int p2), .val (.int p3), .val (.int p4), .val (.int p5), .val (.ref b56), .val (.int (1 : Int32)), .val (.int kk)] [])) _
    refine XS.iload X60.here hx rfl (hb hby at_31) rfl ?_
    show Steps p.tables e below (T60.setTop (mkF m 33 #[.val (.int p1), .val (.int p2), .val (.int p3), .val (.int p4), .val (.int p5), .val (.ref b56), .val (.int (1 : Int32)), .val (.int kk)] [(.int kk)])) _
    refine XS.iconst X60.here hx rfl (hb hby at_33) ?_
    show Steps p.tables e below (T60.setTop (mkF m 34 #[.val (.int p1), .val (.int p2), .val (.int p3), .val (.int p4), .val (.int p5), .val (.ref b56), .val (.int (1 : Int32)), .val (.int kk)] [(.int (1 : Int32)), (.int kk)])) _
    refine XS.icmpNo X60.here hx rfl (hb hby at_34) rfl (XT.ii_lt_f (by rw [hkk]; decide)) ?_
    show Steps p.tables e below (T60.setTop (mkF m 37 #[.val (.int p1), .val (.int p2), .val (.int p3), .val (.int p4), .val (.int p5), .val (.ref b56), .val (.int (1 : Int32)), .val (.int kk)] [])) _
    refine XS.aload X60.here hx rfl (hb hby at_37) rfl rfl ?_
    show Steps p.tables e below (T60.setTop (mkF m 39 #[.val (.int p1), .val (.int p2), .val (.int p3), .val (.int p4), .val (.int p5), .val (.ref b56), .val (.int (1 : Int32)), .val (.int kk)] [(.ref b56)])) _
    refine XS.iloadN X60.here hx rfl (hb hby at_39) rfl ?_
    show Steps p.tables e below (T60.setTop (mkF m 40 #[.val (.int p1), .val (.int p2), .val (.int p3), .val (.int p4), .val (.int p5), .val (.ref b56), .val (.int (1 : Int32)), .val (.int kk)] [(.int p3), (.ref b56)])) _
    refine XS.i2dS X60.here hx rfl (hb hby at_40) rfl rfl ?_
    exact k
  obtain ⟨cq63, kq63, q63a, q63b, q63c⟩ := isOf hZ q60 E58x
  obtain ⟨_, _, ⟨T63, L63, k63, n63⟩, -, X63, ⟨Lc63, hQ63, l63, y63, z63⟩, st63⟩ := X60.virtualBack hx (y := (⟨"com/example/stairsim/stairsim/simulation/CueMark", "pass", "(D)V"⟩ : MethodName)) (z := (⟨"com/example/stairsim/stairsim/simulation/CueMark", "pass", "(D)V"⟩ : MethodName)) hown (mvT hZ (hw _ (List.mem_of_getElem? (i := 45) rfl))) (mvT hZ (hw _ (List.mem_of_getElem? (i := 46) rfl))) (notFace_of_selects (args := #[]) (mvT hZ (hw _ (List.mem_of_getElem? (i := 48) rfl)))) (mvT hZ (hw _ (List.mem_of_getElem? (i := 48) rfl))) (mvT hZ (hw _ (List.mem_of_getElem? (i := 47) rfl))) (by decide) (backOf (W := 0) (rm7 l Z a0 hw [] b56 (FP.i2d p3) 9218868437227405312 T58.heap n0 Z2 F58x E58x g1 own_inf_nn (own_i2d_fin p3).noNaN) hZ (hw _ (List.mem_of_getElem? (i := 49) rfl)) (hw _ (List.mem_of_getElem? (i := 2) rfl)) (by decide) (by decide)) q63a q63c (g := (mkF m 41 #[.val (.int p1), .val (.int p2), .val (.int p3), .val (.int p4), .val (.int p5), .val (.ref b56), .val (.int (1 : Int32)), .val (.int kk)] [(.double (FP.i2d p3)), (.ref b56)])) rfl (by rw [hml]; rfl) (Steps.refl _) (argsL := [(.double (FP.i2d p3))]) (rest := []) (lenOf pd2 rfl) rfl (by show 2 * 0 + _ ≤ _; exact Nat.le_of_eq rfl) (hb hby at_41) (fun _ _ => ⟨rfl, q60, (by decide : 2 + 0 ≤ _), (by decide : 6 + 0 ≤ _)⟩)
  dsimp only [Pt.U, Pt.locs, Pt.cells, Pt.slots] at X63 l63 y63 z63 st63 hQ63
  subst l63 y63 z63
  obtain ⟨rfl, N63q, E63x, F63x, s63⟩ := hQ63
  have N63 := Fr.app N60 N63q
  have C63 : ∀ t, Steps p.tables e below (T63.setTop (mkF m 44 #[.val (.int p1), .val (.int p2), .val (.int p3), .val (.int p4), .val (.int p5), .val (.ref b56), .val (.int (1 : Int32)), .val (.int kk)] [])) t → Steps p.tables e below (s₁.setTop (entryFrame m #[(.int p1), (.int p2), (.int p3), (.int p4), (.int p5)] maxLocals)) t := fun t k => C62 t (st63.trans k)
  have ZZ63 : n0 ≤ T63.heap.size := Nat.le_trans Z2 s63
  obtain ⟨y1, hy1⟩ : ∃ z : UInt64, z = (Jvm.Native.java_lang_Math.nans.pick64 false 9218868437227405312 (FP.i2d p3)) := ⟨_, rfl⟩
  rw [← hy1] at F63x fin1
  have C64 : ∀ t, Steps p.tables e below (T63.setTop (mkF m 51 #[.val (.int p1), .val (.int p2), .val (.int p3), .val (.int p4), .val (.int p5), .val (.ref b56), .val (.int (1 : Int32)), .val (.int kk)] [(.ref b56)])) t → Steps p.tables e below (s₁.setTop (entryFrame m #[(.int p1), (.int p2), (.int p3), (.int p4), (.int p5)] maxLocals)) t := by
    intro t k
    refine C63 t ?_
    show Steps p.tables e below (T63.setTop (mkF m 44 #[.val (.int p1), .val (.int p2), .val (.int p3), .val (.int p4), .val (.int p5), .val (.ref b56), .val (.int (1 : Int32)), .val (.int kk)] [])) _
    refine XS.iload X63.here hx rfl (hb hby at_44) rfl ?_
    show Steps p.tables e below (T63.setTop (mkF m 46 #[.val (.int p1), .val (.int p2), .val (.int p3), .val (.int p4), .val (.int p5), .val (.ref b56), .val (.int (1 : Int32)), .val (.int kk)] [(.int (1 : Int32))])) _
    refine XS.ifNo X63.here hx rfl (hb hby at_46) rfl (XT.i0_eq_f (by decide)) ?_
    show Steps p.tables e below (T63.setTop (mkF m 49 #[.val (.int p1), .val (.int p2), .val (.int p3), .val (.int p4), .val (.int p5), .val (.ref b56), .val (.int (1 : Int32)), .val (.int kk)] [])) _
    refine XS.aload X63.here hx rfl (hb hby at_49) rfl rfl ?_
    exact k
  obtain ⟨cq65, kq65, q65a, q65b, q65c⟩ := isOf hZ rfl E63x
  obtain ⟨_, _, ⟨T65, L65, k65, n65⟩, -, X65, ⟨Lc65, hQ65, l65, y65, z65⟩, st65⟩ := X63.virtualBack hx (y := (⟨"com/example/stairsim/stairsim/simulation/CueMark", "isPassed", "()Z"⟩ : MethodName)) (z := (⟨"com/example/stairsim/stairsim/simulation/CueMark", "isPassed", "()Z"⟩ : MethodName)) hown (mvT hZ (hw _ (List.mem_of_getElem? (i := 40) rfl))) (mvT hZ (hw _ (List.mem_of_getElem? (i := 41) rfl))) (notFace_of_selects (args := #[]) (mvT hZ (hw _ (List.mem_of_getElem? (i := 43) rfl)))) (mvT hZ (hw _ (List.mem_of_getElem? (i := 43) rfl))) (mvT hZ (hw _ (List.mem_of_getElem? (i := 42) rfl))) (by decide) (backOf (W := 0) (rm6 l Z a0 hw [] b56 y1 1 T63.heap n0 ZZ63 F63x (Or.inl ⟨own_passed fin1, rfl⟩)) hZ (hw _ (List.mem_of_getElem? (i := 44) rfl)) (hw _ (List.mem_of_getElem? (i := 2) rfl)) (by decide) (by decide)) q65a q65c (g := (mkF m 51 #[.val (.int p1), .val (.int p2), .val (.int p3), .val (.int p4), .val (.int p5), .val (.ref b56), .val (.int (1 : Int32)), .val (.int kk)] [(.ref b56)])) rfl (by rw [hml]; rfl) (Steps.refl _) (argsL := []) (rest := []) (lenOf pd3 rfl) rfl (by show 2 * 0 + _ ≤ _; exact Nat.le_of_eq rfl) (hb hby at_51) (fun _ _ => ⟨rfl, rfl, (by decide : 2 + 0 ≤ _), (by decide : 6 + 0 ≤ _)⟩)
  dsimp only [Pt.U, Pt.locs, Pt.cells, Pt.slots] at X65 l65 y65 z65 st65 hQ65
  subst l65 y65 z65
  obtain ⟨rfl, N65q, q65⟩ := hQ65
  have N65 := Fr.app N63 N65q
  have C65 : ∀ t, Steps p.tables e below (T65.setTop (mkF m 54 #[.val (.int p1), .val (.int p2), .val (.int p3), .val (.int p4), .val (.int p5), .val (.ref b56), .val (.int (1 : Int32)), .val (.int kk)] [(.int (1 : Int32))])) t → Steps p.tables e below (s₁.setTop (entryFrame m #[(.int p1), (.int p2), (.int p3), (.int p4), (.int p5)] maxLocals)) t := fun t k => C64 t (st65.trans k)
  have fin2 : Jvm.Free.Fl.Fin64 (Jvm.Native.java_lang_Math.nans.pick64 false y1 (FP.i2d p4)) := own_min_fin (Or.inr fin1) (own_i2d_fin p4)
  have C66 : ∀ t, Steps p.tables e below (T65.setTop (mkF m 74 #[.val (.int p1), .val (.int p2), .val (.int p3), .val (.int p4), .val (.int p5), .val (.ref b56), .val (.int (1 : Int32)), .val (.int kk)] [(.double (FP.i2d p4)), (.ref b56)])) t → Steps p.tables e below (s₁.setTop (entryFrame m #[(.int p1), (.int p2), (.int p3), (.int p4), (.int p5)] maxLocals)) t := by
    intro t k
    refine C65 t ?_
    show Steps p.tables e below (T65.setTop (mkF m 54 #[.val (.int p1), .val (.int p2), .val (.int p3), .val (.int p4), .val (.int p5), .val (.ref b56), .val (.int (1 : Int32)), .val (.int kk)] [(.int (1 : Int32))])) _
    refine XS.ifNo X65.here hx rfl (hb hby at_54) rfl (XT.i0_eq_f (by decide)) ?_
    show Steps p.tables e below (T65.setTop (mkF m 57 #[.val (.int p1), .val (.int p2), .val (.int p3), .val (.int p4), .val (.int p5), .val (.ref b56), .val (.int (1 : Int32)), .val (.int kk)] [])) _
    refine XS.iconst X65.here hx rfl (hb hby at_57) ?_
    show Steps p.tables e below (T65.setTop (mkF m 58 #[.val (.int p1), .val (.int p2), .val (.int p3), .val (.int p4), .val (.int p5), .val (.ref b56), .val (.int (1 : Int32)), .val (.int kk)] [(.int (1 : Int32))])) _
    refine XS.goto X65.here hx rfl (pc0 := 58) (pc' := 62) rfl (hb hby at_58) (by decide) (by decide) ?_
    show Steps p.tables e below (T65.setTop (mkF m 62 #[.val (.int p1), .val (.int p2), .val (.int p3), .val (.int p4), .val (.int p5), .val (.ref b56), .val (.int (1 : Int32)), .val (.int kk)] [(.int (1 : Int32))])) _
    refine XS.istore X65.here hx rfl (hb hby at_62) rfl (l' := #[.val (.int p1), .val (.int p2), .val (.int p3), .val (.int p4), .val (.int p5), .val (.ref b56), .val (.int (1 : Int32)), .val (.int kk)]) rfl ?_
    show Steps p.tables e below (T65.setTop (mkF m 64 #[.val (.int p1), .val (.int p2), .val (.int p3), .val (.int p4), .val (.int p5), .val (.ref b56), .val (.int (1 : Int32)), .val (.int kk)] [])) _
    refine XS.iload X65.here hx rfl (hb hby at_64) rfl ?_
    show Steps p.tables e below (T65.setTop (mkF m 66 #[.val (.int p1), .val (.int p2), .val (.int p3), .val (.int p4), .val (.int p5), .val (.ref b56), .val (.int (1 : Int32)), .val (.int kk)] [(.int kk)])) _
    refine XS.iconst X65.here hx rfl (hb hby at_66) ?_
    show Steps p.tables e below (T65.setTop (mkF m 67 #[.val (.int p1), .val (.int p2), .val (.int p3), .val (.int p4), .val (.int p5), .val (.ref b56), .val (.int (1 : Int32)), .val (.int kk)] [(.int (2 : Int32)), (.int kk)])) _
    refine XS.icmpNo X65.here hx rfl (hb hby at_67) rfl (XT.ii_lt_f (by rw [hkk]; decide)) ?_
    show Steps p.tables e below (T65.setTop (mkF m 70 #[.val (.int p1), .val (.int p2), .val (.int p3), .val (.int p4), .val (.int p5), .val (.ref b56), .val (.int (1 : Int32)), .val (.int kk)] [])) _
    refine XS.aload X65.here hx rfl (hb hby at_70) rfl rfl ?_
    show Steps p.tables e below (T65.setTop (mkF m 72 #[.val (.int p1), .val (.int p2), .val (.int p3), .val (.int p4), .val (.int p5), .val (.ref b56), .val (.int (1 : Int32)), .val (.int kk)] [(.ref b56)])) _
    refine XS.iloadN X65.here hx rfl (hb hby at_72) rfl ?_
    show Steps p.tables e below (T65.setTop (mkF m 73 #[.val (.int p1), .val (.int p2), .val (.int p3), .val (.int p4), .val (.int p5), .val (.ref b56), .val (.int (1 : Int32)), .val (.int kk)] [(.int p4), (.ref b56)])) _
    refine XS.i2dS X65.here hx rfl (hb hby at_73) rfl rfl ?_
    exact k
  obtain ⟨cq67, kq67, q67a, q67b, q67c⟩ := isOf hZ q65 E63x
  obtain ⟨_, _, ⟨T67, L67, k67, n67⟩, -, X67, ⟨Lc67, hQ67, l67, y67, z67⟩, st67⟩ := X65.virtualBack hx (y := (⟨"com/example/stairsim/stairsim/simulation/CueMark", "pass", "(D)V"⟩ : MethodName)) (z := (⟨"com/example/stairsim/stairsim/simulation/CueMark", "pass", "(D)V"⟩ : MethodName)) hown (mvT hZ (hw _ (List.mem_of_getElem? (i := 45) rfl))) (mvT hZ (hw _ (List.mem_of_getElem? (i := 46) rfl))) (notFace_of_selects (args := #[]) (mvT hZ (hw _ (List.mem_of_getElem? (i := 48) rfl)))) (mvT hZ (hw _ (List.mem_of_getElem? (i := 48) rfl))) (mvT hZ (hw _ (List.mem_of_getElem? (i := 47) rfl))) (by decide) (backOf (W := 0) (rm7 l Z a0 hw [] b56 (FP.i2d p4) y1 T63.heap n0 ZZ63 F63x E63x g1 fin1.noNaN (own_i2d_fin p4).noNaN) hZ (hw _ (List.mem_of_getElem? (i := 49) rfl)) (hw _ (List.mem_of_getElem? (i := 2) rfl)) (by decide) (by decide)) q67a q67c (g := (mkF m 74 #[.val (.int p1), .val (.int p2), .val (.int p3), .val (.int p4), .val (.int p5), .val (.ref b56), .val (.int (1 : Int32)), .val (.int kk)] [(.double (FP.i2d p4)), (.ref b56)])) rfl (by rw [hml]; rfl) (Steps.refl _) (argsL := [(.double (FP.i2d p4))]) (rest := []) (lenOf pd2 rfl) rfl (by show 2 * 0 + _ ≤ _; exact Nat.le_of_eq rfl) (hb hby at_74) (fun _ _ => ⟨rfl, q65, (by decide : 2 + 0 ≤ _), (by decide : 6 + 0 ≤ _)⟩)
  dsimp only [Pt.U, Pt.locs, Pt.cells, Pt.slots] at X67 l67 y67 z67 st67 hQ67
  subst l67 y67 z67
  obtain ⟨rfl, N67q, E67x, F67x, s67⟩ := hQ67
  have N67 := Fr.app N65 N67q
  have C67 : ∀ t, Steps p.tables e below (T67.setTop (mkF m 77 #[.val (.int p1), .val (.int p2), .val (.int p3), .val (.int p4), .val (.int p5), .val (.ref b56), .val (.int (1 : Int32)), .val (.int kk)] [])) t → Steps p.tables e below (s₁.setTop (entryFrame m #[(.int p1), (.int p2), (.int p3), (.int p4), (.int p5)] maxLocals)) t := fun t k => C66 t (st67.trans k)
  have ZZ67 : n0 ≤ T67.heap.size := Nat.le_trans ZZ63 s67
  obtain ⟨y2, hy2⟩ : ∃ z : UInt64, z = (Jvm.Native.java_lang_Math.nans.pick64 false y1 (FP.i2d p4)) := ⟨_, rfl⟩
  rw [← hy2] at F67x fin2
  have C68 : ∀ t, Steps p.tables e below (T67.setTop (mkF m 84 #[.val (.int p1), .val (.int p2), .val (.int p3), .val (.int p4), .val (.int p5), .val (.ref b56), .val (.int (1 : Int32)), .val (.int kk)] [(.ref b56)])) t → Steps p.tables e below (s₁.setTop (entryFrame m #[(.int p1), (.int p2), (.int p3), (.int p4), (.int p5)] maxLocals)) t := by
    intro t k
    refine C67 t ?_
    show Steps p.tables e below (T67.setTop (mkF m 77 #[.val (.int p1), .val (.int p2), .val (.int p3), .val (.int p4), .val (.int p5), .val (.ref b56), .val (.int (1 : Int32)), .val (.int kk)] [])) _
    refine XS.iload X67.here hx rfl (hb hby at_77) rfl ?_
    show Steps p.tables e below (T67.setTop (mkF m 79 #[.val (.int p1), .val (.int p2), .val (.int p3), .val (.int p4), .val (.int p5), .val (.ref b56), .val (.int (1 : Int32)), .val (.int kk)] [(.int (1 : Int32))])) _
    refine XS.ifNo X67.here hx rfl (hb hby at_79) rfl (XT.i0_eq_f (by decide)) ?_
    show Steps p.tables e below (T67.setTop (mkF m 82 #[.val (.int p1), .val (.int p2), .val (.int p3), .val (.int p4), .val (.int p5), .val (.ref b56), .val (.int (1 : Int32)), .val (.int kk)] [])) _
    refine XS.aload X67.here hx rfl (hb hby at_82) rfl rfl ?_
    exact k
  obtain ⟨cq69, kq69, q69a, q69b, q69c⟩ := isOf hZ rfl E67x
  obtain ⟨_, _, ⟨T69, L69, k69, n69⟩, -, X69, ⟨Lc69, hQ69, l69, y69, z69⟩, st69⟩ := X67.virtualBack hx (y := (⟨"com/example/stairsim/stairsim/simulation/CueMark", "isPassed", "()Z"⟩ : MethodName)) (z := (⟨"com/example/stairsim/stairsim/simulation/CueMark", "isPassed", "()Z"⟩ : MethodName)) hown (mvT hZ (hw _ (List.mem_of_getElem? (i := 40) rfl))) (mvT hZ (hw _ (List.mem_of_getElem? (i := 41) rfl))) (notFace_of_selects (args := #[]) (mvT hZ (hw _ (List.mem_of_getElem? (i := 43) rfl)))) (mvT hZ (hw _ (List.mem_of_getElem? (i := 43) rfl))) (mvT hZ (hw _ (List.mem_of_getElem? (i := 42) rfl))) (by decide) (backOf (W := 0) (rm6 l Z a0 hw [] b56 y2 1 T67.heap n0 ZZ67 F67x (Or.inl ⟨own_passed fin2, rfl⟩)) hZ (hw _ (List.mem_of_getElem? (i := 44) rfl)) (hw _ (List.mem_of_getElem? (i := 2) rfl)) (by decide) (by decide)) q69a q69c (g := (mkF m 84 #[.val (.int p1), .val (.int p2), .val (.int p3), .val (.int p4), .val (.int p5), .val (.ref b56), .val (.int (1 : Int32)), .val (.int kk)] [(.ref b56)])) rfl (by rw [hml]; rfl) (Steps.refl _) (argsL := []) (rest := []) (lenOf pd3 rfl) rfl (by show 2 * 0 + _ ≤ _; exact Nat.le_of_eq rfl) (hb hby at_84) (fun _ _ => ⟨rfl, rfl, (by decide : 2 + 0 ≤ _), (by decide : 6 + 0 ≤ _)⟩)
  dsimp only [Pt.U, Pt.locs, Pt.cells, Pt.slots] at X69 l69 y69 z69 st69 hQ69
  subst l69 y69 z69
  obtain ⟨rfl, N69q, q69⟩ := hQ69
  have N69 := Fr.app N67 N69q
  have C69 : ∀ t, Steps p.tables e below (T69.setTop (mkF m 87 #[.val (.int p1), .val (.int p2), .val (.int p3), .val (.int p4), .val (.int p5), .val (.ref b56), .val (.int (1 : Int32)), .val (.int kk)] [(.int (1 : Int32))])) t → Steps p.tables e below (s₁.setTop (entryFrame m #[(.int p1), (.int p2), (.int p3), (.int p4), (.int p5)] maxLocals)) t := fun t k => C68 t (st69.trans k)
  have C70 : ∀ t, Steps p.tables e below (T69.setTop (mkF m 138 #[.val (.int p1), .val (.int p2), .val (.int p3), .val (.int p4), .val (.int p5), .val (.ref b56), .val (.int (1 : Int32)), .val (.int kk)] [(.ref b56)])) t → Steps p.tables e below (s₁.setTop (entryFrame m #[(.int p1), (.int p2), (.int p3), (.int p4), (.int p5)] maxLocals)) t := by
    intro t k
    refine C69 t ?_
    show Steps p.tables e below (T69.setTop (mkF m 87 #[.val (.int p1), .val (.int p2), .val (.int p3), .val (.int p4), .val (.int p5), .val (.ref b56), .val (.int (1 : Int32)), .val (.int kk)] [(.int (1 : Int32))])) _
    refine XS.ifNo X69.here hx rfl (hb hby at_87) rfl (XT.i0_eq_f (by decide)) ?_
    show Steps p.tables e below (T69.setTop (mkF m 90 #[.val (.int p1), .val (.int p2), .val (.int p3), .val (.int p4), .val (.int p5), .val (.ref b56), .val (.int (1 : Int32)), .val (.int kk)] [])) _
    refine XS.iconst X69.here hx rfl (hb hby at_90) ?_
    show Steps p.tables e below (T69.setTop (mkF m 91 #[.val (.int p1), .val (.int p2), .val (.int p3), .val (.int p4), .val (.int p5), .val (.ref b56), .val (.int (1 : Int32)), .val (.int kk)] [(.int (1 : Int32))])) _
    refine XS.goto X69.here hx rfl (pc0 := 91) (pc' := 95) rfl (hb hby at_91) (by decide) (by decide) ?_
    show Steps p.tables e below (T69.setTop (mkF m 95 #[.val (.int p1), .val (.int p2), .val (.int p3), .val (.int p4), .val (.int p5), .val (.ref b56), .val (.int (1 : Int32)), .val (.int kk)] [(.int (1 : Int32))])) _
    refine XS.istore X69.here hx rfl (hb hby at_95) rfl (l' := #[.val (.int p1), .val (.int p2), .val (.int p3), .val (.int p4), .val (.int p5), .val (.ref b56), .val (.int (1 : Int32)), .val (.int kk)]) rfl ?_
    show Steps p.tables e below (T69.setTop (mkF m 97 #[.val (.int p1), .val (.int p2), .val (.int p3), .val (.int p4), .val (.int p5), .val (.ref b56), .val (.int (1 : Int32)), .val (.int kk)] [])) _
    refine XS.iload X69.here hx rfl (hb hby at_97) rfl ?_
    show Steps p.tables e below (T69.setTop (mkF m 99 #[.val (.int p1), .val (.int p2), .val (.int p3), .val (.int p4), .val (.int p5), .val (.ref b56), .val (.int (1 : Int32)), .val (.int kk)] [(.int kk)])) _
    refine XS.iconst X69.here hx rfl (hb hby at_99) ?_
    show Steps p.tables e below (T69.setTop (mkF m 100 #[.val (.int p1), .val (.int p2), .val (.int p3), .val (.int p4), .val (.int p5), .val (.ref b56), .val (.int (1 : Int32)), .val (.int kk)] [(.int (3 : Int32)), (.int kk)])) _
    refine XS.icmpYes X69.here hx rfl (pc0 := 100) (pc' := 131) rfl (hb hby at_100) rfl (XT.ii_lt_t (by rw [hkk]; decide)) (by decide) (by decide) ?_
    show Steps p.tables e below (T69.setTop (mkF m 131 #[.val (.int p1), .val (.int p2), .val (.int p3), .val (.int p4), .val (.int p5), .val (.ref b56), .val (.int (1 : Int32)), .val (.int kk)] [])) _
    refine XS.iload X69.here hx rfl (hb hby at_131) rfl ?_
    show Steps p.tables e below (T69.setTop (mkF m 133 #[.val (.int p1), .val (.int p2), .val (.int p3), .val (.int p4), .val (.int p5), .val (.ref b56), .val (.int (1 : Int32)), .val (.int kk)] [(.int (1 : Int32))])) _
    refine XS.ifNo X69.here hx rfl (hb hby at_133) rfl (XT.i0_eq_f (by decide)) ?_
    show Steps p.tables e below (T69.setTop (mkF m 136 #[.val (.int p1), .val (.int p2), .val (.int p3), .val (.int p4), .val (.int p5), .val (.ref b56), .val (.int (1 : Int32)), .val (.int kk)] [])) _
    refine XS.aload X69.here hx rfl (hb hby at_136) rfl rfl ?_
    exact k
  obtain ⟨cq71, kq71, q71a, q71b, q71c⟩ := isOf hZ q69 E67x
  obtain ⟨_, _, ⟨T71, L71, k71, n71⟩, -, X71, ⟨Lc71, hQ71, l71, y71, z71⟩, st71⟩ := X69.virtualBack hx (y := (⟨"com/example/stairsim/stairsim/simulation/CueMark", "isPassed", "()Z"⟩ : MethodName)) (z := (⟨"com/example/stairsim/stairsim/simulation/CueMark", "isPassed", "()Z"⟩ : MethodName)) hown (mvT hZ (hw _ (List.mem_of_getElem? (i := 40) rfl))) (mvT hZ (hw _ (List.mem_of_getElem? (i := 41) rfl))) (notFace_of_selects (args := #[]) (mvT hZ (hw _ (List.mem_of_getElem? (i := 43) rfl)))) (mvT hZ (hw _ (List.mem_of_getElem? (i := 43) rfl))) (mvT hZ (hw _ (List.mem_of_getElem? (i := 42) rfl))) (by decide) (backOf (W := 0) (rm6 l Z a0 hw [] b56 y2 1 T67.heap n0 ZZ67 F67x (Or.inl ⟨own_passed fin2, rfl⟩)) hZ (hw _ (List.mem_of_getElem? (i := 44) rfl)) (hw _ (List.mem_of_getElem? (i := 2) rfl)) (by decide) (by decide)) q71a q71c (g := (mkF m 138 #[.val (.int p1), .val (.int p2), .val (.int p3), .val (.int p4), .val (.int p5), .val (.ref b56), .val (.int (1 : Int32)), .val (.int kk)] [(.ref b56)])) rfl (by rw [hml]; rfl) (Steps.refl _) (argsL := []) (rest := []) (lenOf pd3 rfl) rfl (by show 2 * 0 + _ ≤ _; exact Nat.le_of_eq rfl) (hb hby at_138) (fun _ _ => ⟨rfl, q69, (by decide : 2 + 0 ≤ _), (by decide : 6 + 0 ≤ _)⟩)
  dsimp only [Pt.U, Pt.locs, Pt.cells, Pt.slots] at X71 l71 y71 z71 st71 hQ71
  subst l71 y71 z71
  obtain ⟨rfl, N71q, q71⟩ := hQ71
  have N71 := Fr.app N69 N71q
  have C71 : ∀ t, Steps p.tables e below (T71.setTop (mkF m 141 #[.val (.int p1), .val (.int p2), .val (.int p3), .val (.int p4), .val (.int p5), .val (.ref b56), .val (.int (1 : Int32)), .val (.int kk)] [(.int (1 : Int32))])) t → Steps p.tables e below (s₁.setTop (entryFrame m #[(.int p1), (.int p2), (.int p3), (.int p4), (.int p5)] maxLocals)) t := fun t k => C70 t (st71.trans k)
  have C72 : ∀ t, Steps p.tables e below (T71.setTop (mkF m 160 #[.val (.int p1), .val (.int p2), .val (.int p3), .val (.int p4), .val (.int p5), .val (.ref b56), .val (.int (1 : Int32)), .val (.int kk)] [(.int (1 : Int32))])) t → Steps p.tables e below (s₁.setTop (entryFrame m #[(.int p1), (.int p2), (.int p3), (.int p4), (.int p5)] maxLocals)) t := by
    intro t k
    refine C71 t ?_
    show Steps p.tables e below (T71.setTop (mkF m 141 #[.val (.int p1), .val (.int p2), .val (.int p3), .val (.int p4), .val (.int p5), .val (.ref b56), .val (.int (1 : Int32)), .val (.int kk)] [(.int (1 : Int32))])) _
    refine XS.iload X71.here hx rfl (hb hby at_141) rfl ?_
    show Steps p.tables e below (T71.setTop (mkF m 143 #[.val (.int p1), .val (.int p2), .val (.int p3), .val (.int p4), .val (.int p5), .val (.ref b56), .val (.int (1 : Int32)), .val (.int kk)] [(.int kk), (.int (1 : Int32))])) _
    refine XS.iconst X71.here hx rfl (hb hby at_143) ?_
    show Steps p.tables e below (T71.setTop (mkF m 144 #[.val (.int p1), .val (.int p2), .val (.int p3), .val (.int p4), .val (.int p5), .val (.ref b56), .val (.int (1 : Int32)), .val (.int kk)] [(.int (1 : Int32)), (.int kk), (.int (1 : Int32))])) _
    refine XS.icmpNo X71.here hx rfl (hb hby at_144) rfl (XT.ii_lt_f (by rw [hkk]; decide)) ?_
    show Steps p.tables e below (T71.setTop (mkF m 147 #[.val (.int p1), .val (.int p2), .val (.int p3), .val (.int p4), .val (.int p5), .val (.ref b56), .val (.int (1 : Int32)), .val (.int kk)] [(.int (1 : Int32))])) _
    refine XS.iconst X71.here hx rfl (hb hby at_147) ?_
    show Steps p.tables e below (T71.setTop (mkF m 148 #[.val (.int p1), .val (.int p2), .val (.int p3), .val (.int p4), .val (.int p5), .val (.ref b56), .val (.int (1 : Int32)), .val (.int kk)] [(.int (1 : Int32)), (.int (1 : Int32))])) _
    refine XS.goto X71.here hx rfl (pc0 := 148) (pc' := 152) rfl (hb hby at_148) (by decide) (by decide) ?_
    show Steps p.tables e below (T71.setTop (mkF m 152 #[.val (.int p1), .val (.int p2), .val (.int p3), .val (.int p4), .val (.int p5), .val (.ref b56), .val (.int (1 : Int32)), .val (.int kk)] [(.int (1 : Int32)), (.int (1 : Int32))])) _
    refine XS.icmpNo X71.here hx rfl (hb hby at_152) rfl (XT.ii_ne_f rfl) ?_
    show Steps p.tables e below (T71.setTop (mkF m 155 #[.val (.int p1), .val (.int p2), .val (.int p3), .val (.int p4), .val (.int p5), .val (.ref b56), .val (.int (1 : Int32)), .val (.int kk)] [])) _
    refine XS.iconst X71.here hx rfl (hb hby at_155) ?_
    show Steps p.tables e below (T71.setTop (mkF m 156 #[.val (.int p1), .val (.int p2), .val (.int p3), .val (.int p4), .val (.int p5), .val (.ref b56), .val (.int (1 : Int32)), .val (.int kk)] [(.int (1 : Int32))])) _
    refine XS.goto X71.here hx rfl (pc0 := 156) (pc' := 160) rfl (hb hby at_156) (by decide) (by decide) ?_
    exact k
  obtain ⟨fs, hr, hrun, hended, hW, hsame⟩ := X71.leave (v := some (.int (1 : Int32))) (fun h => by rw [Bd.returns] at h; cases h)
  refine ⟨_, _, C72 _ ?_, hrun, hended, _, _, rfl, ?_, ⟨_, rfl⟩, hW, hsame.mono (by decide) (by decide)⟩
  · show Steps p.tables e below (T71.setTop (mkF m 160 #[.val (.int p1), .val (.int p2), .val (.int p3), .val (.int p4), .val (.int p5), .val (.ref b56), .val (.int (1 : Int32)), .val (.int kk)] [(.int (1 : Int32))])) _
    exact retN X71 hx (t := .boolean) Bd.returns (by simp) (hb hby at_160) hr
  · show Q0 Z p1 p2 p3 p4 p5 h0 n0 _ T71.heap _
    rw [q71]
    exact ⟨rfl, N71⟩
set_option maxRecDepth 65536 in
set_option maxHeartbeats 40000000 in
theorem rm0_3 (l : Launch) (Z : State) (a0 : Array Value) (hw : ∀ d ∈ tables_1, d.before a0 Z = true) (ws : List Jvm.Cond) (p1 p2 p3 p4 p5 : Int32) (ad : Addr) (h0 : Heap) (n0 : Nat) (Z0 : n0 ≤ h0.size) (S1 : Sta Z h0 "java/util/ArrayList" "DEFAULTCAPACITY_EMPTY_ELEMENTDATA" "[Ljava/lang/Object;" (.ref ad)) (hk : (p2 &&& (3 : Int32)) = (3 : Int32)) :
    MetFree l x (head1 (Jvm.Cond.code x code maxLocals ret :: ws) room_1) (fun a U => a = #[(.int p1), (.int p2), (.int p3), (.int p4), (.int p5)] ∧ Z.Warmed39 U.vm ∧ U.heap = h0) (fun _ _ _ _ _ => True) (fun _ U o U' => ∃ v L, o = .returned v ∧ Q0 Z p1 p2 p3 p4 p5 h0 n0 v U'.heap L ∧ FrameEnd U o U' L room_1.cells room_1.slots) := by
  refine MetFree.of_bodySF (plainFor_of_name pn4) hisR ?_
  intro p e s m args below meth c s₁ Bd hml0 hP hK
  obtain ⟨rfl, hZ, hh⟩ := hP
  have hx := Bd.exec
  have hby := Bd.bytes
  have hml : c.maxLocals = 8 := hml0
  have hown : s.vm.findClass "com/example/stairsim/stairsim/simulation/CueMarkIsPassedPinLaw" = some m.cls := findClass_of_methodNamed Bd.named
  have hnm := (name_of_methodNamed Bd.named Bd.method).1
  have X0 : Stand p l e room_1 s m #[(.int p1), (.int p2), (.int p3), (.int p4), (.int p5)] below meth c s₁ [] 0 0 := Stand.of_body Bd
  have e0 : s₁.heap = h0 := by rw [← hh, Bd.state]; rfl
  have N0 := Fr.nil n0
  have pre0 : ∀ t, Steps p.tables e below (s₁.setTop (mkF m 0 #[.val (.int p1), .val (.int p2), .val (.int p3), .val (.int p4), .val (.int p5), .unset, .unset, .unset] [])) t → Steps p.tables e below (s₁.setTop (entryFrame m #[(.int p1), (.int p2), (.int p3), (.int p4), (.int p5)] maxLocals)) t := fun t k => castTop (ef0 m p1 p2 p3 p4 p5) k
  obtain ⟨T73, h73, X73, e73, E73, A73, D73, -, st73⟩ := newO X0 hx hZ hown (hw _ (List.mem_of_getElem? (i := 0) rfl)) (hw _ (List.mem_of_getElem? (i := 1) rfl)) (hw _ (List.mem_of_getElem? (i := 2) rfl)) e0 (g := (mkF m 0 #[.val (.int p1), .val (.int p2), .val (.int p3), .val (.int p4), .val (.int p5), .unset, .unset, .unset] [])) rfl (hb hby at_0) (by decide) (by decide)
  obtain ⟨b73, g73⟩ : ∃ z, z = h0.size := ⟨_, rfl⟩
  rw [← g73] at A73 D73 st73
  have C73 : ∀ t, Steps p.tables e below (T73.setTop (mkF m 3 #[.val (.int p1), .val (.int p2), .val (.int p3), .val (.int p4), .val (.int p5), .unset, .unset, .unset] [(.ref b73)])) t → Steps p.tables e below (s₁.setTop (entryFrame m #[(.int p1), (.int p2), (.int p3), (.int p4), (.int p5)] maxLocals)) t := fun t k => pre0 t (st73 t k)
  have F1 : Fld Z h73 b73 "com/example/stairsim/stairsim/simulation/CueMark" "held" "Ljava/util/List;" .null := D73 (Or.inr (hw _ (List.mem_of_getElem? (i := 34) rfl))) (ty := (.object "java/util/List")) (by decide)
  have F2 : Fld Z h73 b73 "com/example/stairsim/stairsim/simulation/CueMark" "passedS" "D" (.double 0) := D73 (Or.inl (hw _ (List.mem_of_getElem? (i := 37) rfl))) (ty := .double) (by decide)
  have F3 : Fld Z h73 b73 "com/example/stairsim/stairsim/simulation/CueMark" "positionM" "D" (.double 0) := D73 (Or.inr (hw _ (List.mem_of_getElem? (i := 39) rfl))) (ty := .double) (by decide)
  have Z1 : n0 ≤ h73.size := Nat.le_trans Z0 E73.1
  have g1 : n0 ≤ b73 := Nat.le_trans Z0 (Nat.le_of_eq g73.symm)
  have C74 : ∀ t, Steps p.tables e below (T73.setTop (mkF m 6 #[.val (.int p1), .val (.int p2), .val (.int p3), .val (.int p4), .val (.int p5), .unset, .unset, .unset] [(.double (FP.i2d p1)), (.ref b73), (.ref b73)])) t → Steps p.tables e below (s₁.setTop (entryFrame m #[(.int p1), (.int p2), (.int p3), (.int p4), (.int p5)] maxLocals)) t := by
    intro t k
    refine C73 t ?_
    show Steps p.tables e below (T73.setTop (mkF m 3 #[.val (.int p1), .val (.int p2), .val (.int p3), .val (.int p4), .val (.int p5), .unset, .unset, .unset] [(.ref b73)])) _
    refine XS.dup X73.here hx rfl (hb hby at_3) rfl rfl ?_
    show Steps p.tables e below (T73.setTop (mkF m 4 #[.val (.int p1), .val (.int p2), .val (.int p3), .val (.int p4), .val (.int p5), .unset, .unset, .unset] [(.ref b73), (.ref b73)])) _
    refine XS.iloadN X73.here hx rfl (hb hby at_4) rfl ?_
    show Steps p.tables e below (T73.setTop (mkF m 5 #[.val (.int p1), .val (.int p2), .val (.int p3), .val (.int p4), .val (.int p5), .unset, .unset, .unset] [(.int p1), (.ref b73), (.ref b73)])) _
    refine XS.i2dS X73.here hx rfl (hb hby at_5) rfl rfl ?_
    exact k
  obtain ⟨_, _, ⟨T75, L75, k75, n75⟩, -, X75, ⟨Lc75, hQ75, l75, y75, z75⟩, st75⟩ := X73.specialBack hx (y := (⟨"com/example/stairsim/stairsim/simulation/CueMark", "<init>", "(D)V"⟩ : MethodName)) rfl hown (mvT hZ (hw _ (List.mem_of_getElem? (i := 3) rfl))) (mvT hZ (hw _ (List.mem_of_getElem? (i := 4) rfl))) (mvT hZ (hw _ (List.mem_of_getElem? (i := 5) rfl))) (by decide) (backOf (W := 1) (rm1 l Z a0 hw [] b73 (FP.i2d p1) ad h73 n0 Z1 F1 F2 F3 A73 g1 (S1.ext E73)) hZ (hw _ (List.mem_of_getElem? (i := 5) rfl)) (hw _ (List.mem_of_getElem? (i := 2) rfl)) (by decide) (by decide)) (g := (mkF m 6 #[.val (.int p1), .val (.int p2), .val (.int p3), .val (.int p4), .val (.int p5), .unset, .unset, .unset] [(.double (FP.i2d p1)), (.ref b73), (.ref b73)])) rfl (by rw [hml]; rfl) (Steps.refl _) (a := b73) (argsL := [(.double (FP.i2d p1))]) (rest := [(.ref b73)]) (lenOf pd2 rfl) rfl (by show 2 * 0 + _ ≤ _; exact Nat.le_of_eq rfl) (hb hby at_6) (fun _ _ => ⟨rfl, e73, (by decide : 1 + 1 ≤ _), (by decide : 3 + 3 ≤ _)⟩)
  dsimp only [Pt.U, Pt.locs, Pt.cells, Pt.slots] at X75 l75 y75 z75 st75 hQ75
  subst l75 y75 z75
  obtain ⟨rfl, N75q, E75x, F75x, s75⟩ := hQ75
  have N75 := Fr.app N0 N75q
  have C75 : ∀ t, Steps p.tables e below (T75.setTop (mkF m 9 #[.val (.int p1), .val (.int p2), .val (.int p3), .val (.int p4), .val (.int p5), .unset, .unset, .unset] [(.ref b73)])) t → Steps p.tables e below (s₁.setTop (entryFrame m #[(.int p1), (.int p2), (.int p3), (.int p4), (.int p5)] maxLocals)) t := fun t k => C74 t (st75.trans k)
  have Z2 : n0 ≤ T75.heap.size := Nat.le_trans Z1 s75
  have C76 : ∀ t, Steps p.tables e below (T75.setTop (mkF m 13 #[.val (.int p1), .val (.int p2), .val (.int p3), .val (.int p4), .val (.int p5), .val (.ref b73), .unset, .unset] [(.ref b73)])) t → Steps p.tables e below (s₁.setTop (entryFrame m #[(.int p1), (.int p2), (.int p3), (.int p4), (.int p5)] maxLocals)) t := by
    intro t k
    refine C75 t ?_
    show Steps p.tables e below (T75.setTop (mkF m 9 #[.val (.int p1), .val (.int p2), .val (.int p3), .val (.int p4), .val (.int p5), .unset, .unset, .unset] [(.ref b73)])) _
    refine XS.astore X75.here hx rfl (hb hby at_9) rfl rfl (l' := #[.val (.int p1), .val (.int p2), .val (.int p3), .val (.int p4), .val (.int p5), .val (.ref b73), .unset, .unset]) rfl ?_
    show Steps p.tables e below (T75.setTop (mkF m 11 #[.val (.int p1), .val (.int p2), .val (.int p3), .val (.int p4), .val (.int p5), .val (.ref b73), .unset, .unset] [])) _
    refine XS.aload X75.here hx rfl (hb hby at_11) rfl rfl ?_
    exact k
  obtain ⟨cq77, kq77, q77a, q77b, q77c⟩ := isOf hZ rfl E75x
  obtain ⟨_, _, ⟨T77, L77, k77, n77⟩, -, X77, ⟨Lc77, hQ77, l77, y77, z77⟩, st77⟩ := X75.virtualBack hx (y := (⟨"com/example/stairsim/stairsim/simulation/CueMark", "isPassed", "()Z"⟩ : MethodName)) (z := (⟨"com/example/stairsim/stairsim/simulation/CueMark", "isPassed", "()Z"⟩ : MethodName)) hown (mvT hZ (hw _ (List.mem_of_getElem? (i := 40) rfl))) (mvT hZ (hw _ (List.mem_of_getElem? (i := 41) rfl))) (notFace_of_selects (args := #[]) (mvT hZ (hw _ (List.mem_of_getElem? (i := 43) rfl)))) (mvT hZ (hw _ (List.mem_of_getElem? (i := 43) rfl))) (mvT hZ (hw _ (List.mem_of_getElem? (i := 42) rfl))) (by decide) (backOf (W := 0) (rm6 l Z a0 hw [] b73 9218868437227405312 0 T75.heap n0 Z2 F75x (Or.inr ⟨own_not_passed, rfl⟩)) hZ (hw _ (List.mem_of_getElem? (i := 44) rfl)) (hw _ (List.mem_of_getElem? (i := 2) rfl)) (by decide) (by decide)) q77a q77c (g := (mkF m 13 #[.val (.int p1), .val (.int p2), .val (.int p3), .val (.int p4), .val (.int p5), .val (.ref b73), .unset, .unset] [(.ref b73)])) rfl (by rw [hml]; rfl) (Steps.refl _) (argsL := []) (rest := []) (lenOf pd3 rfl) rfl (by show 2 * 0 + _ ≤ _; exact Nat.le_of_eq rfl) (hb hby at_13) (fun _ _ => ⟨rfl, rfl, (by decide : 2 + 0 ≤ _), (by decide : 6 + 0 ≤ _)⟩)
  dsimp only [Pt.U, Pt.locs, Pt.cells, Pt.slots] at X77 l77 y77 z77 st77 hQ77
  subst l77 y77 z77
  obtain ⟨rfl, N77q, q77⟩ := hQ77
  have N77 := Fr.app N75 N77q
  have C77 : ∀ t, Steps p.tables e below (T77.setTop (mkF m 16 #[.val (.int p1), .val (.int p2), .val (.int p3), .val (.int p4), .val (.int p5), .val (.ref b73), .unset, .unset] [(.int (0 : Int32))])) t → Steps p.tables e below (s₁.setTop (entryFrame m #[(.int p1), (.int p2), (.int p3), (.int p4), (.int p5)] maxLocals)) t := fun t k => C76 t (st77.trans k)
  have C78 : ∀ t, Steps p.tables e below (T77.setTop (mkF m 31 #[.val (.int p1), .val (.int p2), .val (.int p3), .val (.int p4), .val (.int p5), .val (.ref b73), .val (.int (1 : Int32)), .val (.int (p2 &&& (3 : Int32)))] [])) t → Steps p.tables e below (s₁.setTop (entryFrame m #[(.int p1), (.int p2), (.int p3), (.int p4), (.int p5)] maxLocals)) t := by
    intro t k
    refine C77 t ?_
    show Steps p.tables e below (T77.setTop (mkF m 16 #[.val (.int p1), .val (.int p2), .val (.int p3), .val (.int p4), .val (.int p5), .val (.ref b73), .unset, .unset] [(.int (0 : Int32))])) _
    refine XS.ifNo X77.here hx rfl (hb hby at_16) rfl (XT.i0_ne_f rfl) ?_
    show Steps p.tables e below (T77.setTop (mkF m 19 #[.val (.int p1), .val (.int p2), .val (.int p3), .val (.int p4), .val (.int p5), .val (.ref b73), .unset, .unset] [])) _
    refine XS.iconst X77.here hx rfl (hb hby at_19) ?_
    show Steps p.tables e below (T77.setTop (mkF m 20 #[.val (.int p1), .val (.int p2), .val (.int p3), .val (.int p4), .val (.int p5), .val (.ref b73), .unset, .unset] [(.int (1 : Int32))])) _
    refine XS.goto X77.here hx rfl (pc0 := 20) (pc' := 24) rfl (hb hby at_20) (by decide) (by decide) ?_
    show Steps p.tables e below (T77.setTop (mkF m 24 #[.val (.int p1), .val (.int p2), .val (.int p3), .val (.int p4), .val (.int p5), .val (.ref b73), .unset, .unset] [(.int (1 : Int32))])) _
    refine XS.istore X77.here hx rfl (hb hby at_24) rfl (l' := #[.val (.int p1), .val (.int p2), .val (.int p3), .val (.int p4), .val (.int p5), .val (.ref b73), .val (.int (1 : Int32)), .unset]) rfl ?_
    show Steps p.tables e below (T77.setTop (mkF m 26 #[.val (.int p1), .val (.int p2), .val (.int p3), .val (.int p4), .val (.int p5), .val (.ref b73), .val (.int (1 : Int32)), .unset] [])) _
    refine XS.iloadN X77.here hx rfl (hb hby at_26) rfl ?_
    show Steps p.tables e below (T77.setTop (mkF m 27 #[.val (.int p1), .val (.int p2), .val (.int p3), .val (.int p4), .val (.int p5), .val (.ref b73), .val (.int (1 : Int32)), .unset] [(.int p2)])) _
    refine XS.iconst X77.here hx rfl (hb hby at_27) ?_
    show Steps p.tables e below (T77.setTop (mkF m 28 #[.val (.int p1), .val (.int p2), .val (.int p3), .val (.int p4), .val (.int p5), .val (.ref b73), .val (.int (1 : Int32)), .unset] [(.int (3 : Int32)), (.int p2)])) _
    refine XS.iand X77.here hx rfl (hb hby at_28) rfl ?_
    show Steps p.tables e below (T77.setTop (mkF m 29 #[.val (.int p1), .val (.int p2), .val (.int p3), .val (.int p4), .val (.int p5), .val (.ref b73), .val (.int (1 : Int32)), .unset] [(.int (p2 &&& (3 : Int32)))])) _
    refine XS.istore X77.here hx rfl (hb hby at_29) rfl (l' := #[.val (.int p1), .val (.int p2), .val (.int p3), .val (.int p4), .val (.int p5), .val (.ref b73), .val (.int (1 : Int32)), .val (.int (p2 &&& (3 : Int32)))]) rfl ?_
    exact k
  obtain ⟨kk, h_kk⟩ : ∃ z : Int32, z = (p2 &&& (3 : Int32)) := ⟨_, rfl⟩
  rw [← h_kk] at C78
  have hkk : kk = (3 : Int32) := by rw [h_kk]; exact hk
  have fin1 : Jvm.Free.Fl.Fin64 (Jvm.Native.java_lang_Math.nans.pick64 false 9218868437227405312 (FP.i2d p3)) := own_min_fin (Or.inl rfl) (own_i2d_fin p3)
  have C79 : ∀ t, Steps p.tables e below (T77.setTop (mkF m 41 #[.val (.int p1), .val (.int p2), .val (.int p3), .val (.int p4), .val (.int p5), .val (.ref b73), .val (.int (1 : Int32)), .val (.int kk)] [(.double (FP.i2d p3)), (.ref b73)])) t → Steps p.tables e below (s₁.setTop (entryFrame m #[(.int p1), (.int p2), (.int p3), (.int p4), (.int p5)] maxLocals)) t := by
    intro t k
    refine C78 t ?_
    show Steps p.tables e below (T77.setTop (mkF m 31 #[.val (.int p1), .val (.int p2), .val (.int p3), .val (.int p4), .val (.int p5), .val (.ref b73), .val (.int (1 : Int32)), .val (.int kk)] [])) _
    refine XS.iload X77.here hx rfl (hb hby at_31) rfl ?_
    show Steps p.tables e below (T77.setTop (mkF m 33 #[.val (.int p1), .val (.int p2), .val (.int p3), .val (.int p4), .val (.int p5), .val (.ref b73), .val (.int (1 : Int32)), .val (.int kk)] [(.int kk)])) _
    refine XS.iconst X77.here hx rfl (hb hby at_33) ?_
    show Steps p.tables e below (T77.setTop (mkF m 34 #[.val (.int p1), .val (.int p2), .val (.int p3), .val (.int p4), .val (.int p5), .val (.ref b73), .val (.int (1 : Int32)), .val (.int kk)] [(.int (1 : Int32)), (.int kk)])) _
    refine XS.icmpNo X77.here hx rfl (hb hby at_34) rfl (XT.ii_lt_f (by rw [hkk]; decide)) ?_
    show Steps p.tables e below (T77.setTop (mkF m 37 #[.val (.int p1), .val (.int p2), .val (.int p3), .val (.int p4), .val (.int p5), .val (.ref b73), .val (.int (1 : Int32)), .val (.int kk)] [])) _
    refine XS.aload X77.here hx rfl (hb hby at_37) rfl rfl ?_
    show Steps p.tables e below (T77.setTop (mkF m 39 #[.val (.int p1), .val (.int p2), .val (.int p3), .val (.int p4), .val (.int p5), .val (.ref b73), .val (.int (1 : Int32)), .val (.int kk)] [(.ref b73)])) _
    refine XS.iloadN X77.here hx rfl (hb hby at_39) rfl ?_
    show Steps p.tables e below (T77.setTop (mkF m 40 #[.val (.int p1), .val (.int p2), .val (.int p3), .val (.int p4), .val (.int p5), .val (.ref b73), .val (.int (1 : Int32)), .val (.int kk)] [(.int p3), (.ref b73)])) _
    refine XS.i2dS X77.here hx rfl (hb hby at_40) rfl rfl ?_
    exact k
  obtain ⟨cq80, kq80, q80a, q80b, q80c⟩ := isOf hZ q77 E75x
  obtain ⟨_, _, ⟨T80, L80, k80, n80⟩, -, X80, ⟨Lc80, hQ80, l80, y80, z80⟩, st80⟩ := X77.virtualBack hx (y := (⟨"com/example/stairsim/stairsim/simulation/CueMark", "pass", "(D)V"⟩ : MethodName)) (z := (⟨"com/example/stairsim/stairsim/simulation/CueMark", "pass", "(D)V"⟩ : MethodName)) hown (mvT hZ (hw _ (List.mem_of_getElem? (i := 45) rfl))) (mvT hZ (hw _ (List.mem_of_getElem? (i := 46) rfl))) (notFace_of_selects (args := #[]) (mvT hZ (hw _ (List.mem_of_getElem? (i := 48) rfl)))) (mvT hZ (hw _ (List.mem_of_getElem? (i := 48) rfl))) (mvT hZ (hw _ (List.mem_of_getElem? (i := 47) rfl))) (by decide) (backOf (W := 0) (rm7 l Z a0 hw [] b73 (FP.i2d p3) 9218868437227405312 T75.heap n0 Z2 F75x E75x g1 own_inf_nn (own_i2d_fin p3).noNaN) hZ (hw _ (List.mem_of_getElem? (i := 49) rfl)) (hw _ (List.mem_of_getElem? (i := 2) rfl)) (by decide) (by decide)) q80a q80c (g := (mkF m 41 #[.val (.int p1), .val (.int p2), .val (.int p3), .val (.int p4), .val (.int p5), .val (.ref b73), .val (.int (1 : Int32)), .val (.int kk)] [(.double (FP.i2d p3)), (.ref b73)])) rfl (by rw [hml]; rfl) (Steps.refl _) (argsL := [(.double (FP.i2d p3))]) (rest := []) (lenOf pd2 rfl) rfl (by show 2 * 0 + _ ≤ _; exact Nat.le_of_eq rfl) (hb hby at_41) (fun _ _ => ⟨rfl, q77, (by decide : 2 + 0 ≤ _), (by decide : 6 + 0 ≤ _)⟩)
  dsimp only [Pt.U, Pt.locs, Pt.cells, Pt.slots] at X80 l80 y80 z80 st80 hQ80
  subst l80 y80 z80
  obtain ⟨rfl, N80q, E80x, F80x, s80⟩ := hQ80
  have N80 := Fr.app N77 N80q
  have C80 : ∀ t, Steps p.tables e below (T80.setTop (mkF m 44 #[.val (.int p1), .val (.int p2), .val (.int p3), .val (.int p4), .val (.int p5), .val (.ref b73), .val (.int (1 : Int32)), .val (.int kk)] [])) t → Steps p.tables e below (s₁.setTop (entryFrame m #[(.int p1), (.int p2), (.int p3), (.int p4), (.int p5)] maxLocals)) t := fun t k => C79 t (st80.trans k)
  have ZZ80 : n0 ≤ T80.heap.size := Nat.le_trans Z2 s80
  obtain ⟨y1, hy1⟩ : ∃ z : UInt64, z = (Jvm.Native.java_lang_Math.nans.pick64 false 9218868437227405312 (FP.i2d p3)) := ⟨_, rfl⟩
  rw [← hy1] at F80x fin1
  have C81 : ∀ t, Steps p.tables e below (T80.setTop (mkF m 51 #[.val (.int p1), .val (.int p2), .val (.int p3), .val (.int p4), .val (.int p5), .val (.ref b73), .val (.int (1 : Int32)), .val (.int kk)] [(.ref b73)])) t → Steps p.tables e below (s₁.setTop (entryFrame m #[(.int p1), (.int p2), (.int p3), (.int p4), (.int p5)] maxLocals)) t := by
    intro t k
    refine C80 t ?_
    show Steps p.tables e below (T80.setTop (mkF m 44 #[.val (.int p1), .val (.int p2), .val (.int p3), .val (.int p4), .val (.int p5), .val (.ref b73), .val (.int (1 : Int32)), .val (.int kk)] [])) _
    refine XS.iload X80.here hx rfl (hb hby at_44) rfl ?_
    show Steps p.tables e below (T80.setTop (mkF m 46 #[.val (.int p1), .val (.int p2), .val (.int p3), .val (.int p4), .val (.int p5), .val (.ref b73), .val (.int (1 : Int32)), .val (.int kk)] [(.int (1 : Int32))])) _
    refine XS.ifNo X80.here hx rfl (hb hby at_46) rfl (XT.i0_eq_f (by decide)) ?_
    show Steps p.tables e below (T80.setTop (mkF m 49 #[.val (.int p1), .val (.int p2), .val (.int p3), .val (.int p4), .val (.int p5), .val (.ref b73), .val (.int (1 : Int32)), .val (.int kk)] [])) _
    refine XS.aload X80.here hx rfl (hb hby at_49) rfl rfl ?_
    exact k
  obtain ⟨cq82, kq82, q82a, q82b, q82c⟩ := isOf hZ rfl E80x
  obtain ⟨_, _, ⟨T82, L82, k82, n82⟩, -, X82, ⟨Lc82, hQ82, l82, y82, z82⟩, st82⟩ := X80.virtualBack hx (y := (⟨"com/example/stairsim/stairsim/simulation/CueMark", "isPassed", "()Z"⟩ : MethodName)) (z := (⟨"com/example/stairsim/stairsim/simulation/CueMark", "isPassed", "()Z"⟩ : MethodName)) hown (mvT hZ (hw _ (List.mem_of_getElem? (i := 40) rfl))) (mvT hZ (hw _ (List.mem_of_getElem? (i := 41) rfl))) (notFace_of_selects (args := #[]) (mvT hZ (hw _ (List.mem_of_getElem? (i := 43) rfl)))) (mvT hZ (hw _ (List.mem_of_getElem? (i := 43) rfl))) (mvT hZ (hw _ (List.mem_of_getElem? (i := 42) rfl))) (by decide) (backOf (W := 0) (rm6 l Z a0 hw [] b73 y1 1 T80.heap n0 ZZ80 F80x (Or.inl ⟨own_passed fin1, rfl⟩)) hZ (hw _ (List.mem_of_getElem? (i := 44) rfl)) (hw _ (List.mem_of_getElem? (i := 2) rfl)) (by decide) (by decide)) q82a q82c (g := (mkF m 51 #[.val (.int p1), .val (.int p2), .val (.int p3), .val (.int p4), .val (.int p5), .val (.ref b73), .val (.int (1 : Int32)), .val (.int kk)] [(.ref b73)])) rfl (by rw [hml]; rfl) (Steps.refl _) (argsL := []) (rest := []) (lenOf pd3 rfl) rfl (by show 2 * 0 + _ ≤ _; exact Nat.le_of_eq rfl) (hb hby at_51) (fun _ _ => ⟨rfl, rfl, (by decide : 2 + 0 ≤ _), (by decide : 6 + 0 ≤ _)⟩)
  dsimp only [Pt.U, Pt.locs, Pt.cells, Pt.slots] at X82 l82 y82 z82 st82 hQ82
  subst l82 y82 z82
  obtain ⟨rfl, N82q, q82⟩ := hQ82
  have N82 := Fr.app N80 N82q
  have C82 : ∀ t, Steps p.tables e below (T82.setTop (mkF m 54 #[.val (.int p1), .val (.int p2), .val (.int p3), .val (.int p4), .val (.int p5), .val (.ref b73), .val (.int (1 : Int32)), .val (.int kk)] [(.int (1 : Int32))])) t → Steps p.tables e below (s₁.setTop (entryFrame m #[(.int p1), (.int p2), (.int p3), (.int p4), (.int p5)] maxLocals)) t := fun t k => C81 t (st82.trans k)
  have fin2 : Jvm.Free.Fl.Fin64 (Jvm.Native.java_lang_Math.nans.pick64 false y1 (FP.i2d p4)) := own_min_fin (Or.inr fin1) (own_i2d_fin p4)
  have C83 : ∀ t, Steps p.tables e below (T82.setTop (mkF m 74 #[.val (.int p1), .val (.int p2), .val (.int p3), .val (.int p4), .val (.int p5), .val (.ref b73), .val (.int (1 : Int32)), .val (.int kk)] [(.double (FP.i2d p4)), (.ref b73)])) t → Steps p.tables e below (s₁.setTop (entryFrame m #[(.int p1), (.int p2), (.int p3), (.int p4), (.int p5)] maxLocals)) t := by
    intro t k
    refine C82 t ?_
    show Steps p.tables e below (T82.setTop (mkF m 54 #[.val (.int p1), .val (.int p2), .val (.int p3), .val (.int p4), .val (.int p5), .val (.ref b73), .val (.int (1 : Int32)), .val (.int kk)] [(.int (1 : Int32))])) _
    refine XS.ifNo X82.here hx rfl (hb hby at_54) rfl (XT.i0_eq_f (by decide)) ?_
    show Steps p.tables e below (T82.setTop (mkF m 57 #[.val (.int p1), .val (.int p2), .val (.int p3), .val (.int p4), .val (.int p5), .val (.ref b73), .val (.int (1 : Int32)), .val (.int kk)] [])) _
    refine XS.iconst X82.here hx rfl (hb hby at_57) ?_
    show Steps p.tables e below (T82.setTop (mkF m 58 #[.val (.int p1), .val (.int p2), .val (.int p3), .val (.int p4), .val (.int p5), .val (.ref b73), .val (.int (1 : Int32)), .val (.int kk)] [(.int (1 : Int32))])) _
    refine XS.goto X82.here hx rfl (pc0 := 58) (pc' := 62) rfl (hb hby at_58) (by decide) (by decide) ?_
    show Steps p.tables e below (T82.setTop (mkF m 62 #[.val (.int p1), .val (.int p2), .val (.int p3), .val (.int p4), .val (.int p5), .val (.ref b73), .val (.int (1 : Int32)), .val (.int kk)] [(.int (1 : Int32))])) _
    refine XS.istore X82.here hx rfl (hb hby at_62) rfl (l' := #[.val (.int p1), .val (.int p2), .val (.int p3), .val (.int p4), .val (.int p5), .val (.ref b73), .val (.int (1 : Int32)), .val (.int kk)]) rfl ?_
    show Steps p.tables e below (T82.setTop (mkF m 64 #[.val (.int p1), .val (.int p2), .val (.int p3), .val (.int p4), .val (.int p5), .val (.ref b73), .val (.int (1 : Int32)), .val (.int kk)] [])) _
    refine XS.iload X82.here hx rfl (hb hby at_64) rfl ?_
    show Steps p.tables e below (T82.setTop (mkF m 66 #[.val (.int p1), .val (.int p2), .val (.int p3), .val (.int p4), .val (.int p5), .val (.ref b73), .val (.int (1 : Int32)), .val (.int kk)] [(.int kk)])) _
    refine XS.iconst X82.here hx rfl (hb hby at_66) ?_
    show Steps p.tables e below (T82.setTop (mkF m 67 #[.val (.int p1), .val (.int p2), .val (.int p3), .val (.int p4), .val (.int p5), .val (.ref b73), .val (.int (1 : Int32)), .val (.int kk)] [(.int (2 : Int32)), (.int kk)])) _
    refine XS.icmpNo X82.here hx rfl (hb hby at_67) rfl (XT.ii_lt_f (by rw [hkk]; decide)) ?_
    show Steps p.tables e below (T82.setTop (mkF m 70 #[.val (.int p1), .val (.int p2), .val (.int p3), .val (.int p4), .val (.int p5), .val (.ref b73), .val (.int (1 : Int32)), .val (.int kk)] [])) _
    refine XS.aload X82.here hx rfl (hb hby at_70) rfl rfl ?_
    show Steps p.tables e below (T82.setTop (mkF m 72 #[.val (.int p1), .val (.int p2), .val (.int p3), .val (.int p4), .val (.int p5), .val (.ref b73), .val (.int (1 : Int32)), .val (.int kk)] [(.ref b73)])) _
    refine XS.iloadN X82.here hx rfl (hb hby at_72) rfl ?_
    show Steps p.tables e below (T82.setTop (mkF m 73 #[.val (.int p1), .val (.int p2), .val (.int p3), .val (.int p4), .val (.int p5), .val (.ref b73), .val (.int (1 : Int32)), .val (.int kk)] [(.int p4), (.ref b73)])) _
    refine XS.i2dS X82.here hx rfl (hb hby at_73) rfl rfl ?_
    exact k
  obtain ⟨cq84, kq84, q84a, q84b, q84c⟩ := isOf hZ q82 E80x
  obtain ⟨_, _, ⟨T84, L84, k84, n84⟩, -, X84, ⟨Lc84, hQ84, l84, y84, z84⟩, st84⟩ := X82.virtualBack hx (y := (⟨"com/example/stairsim/stairsim/simulation/CueMark", "pass", "(D)V"⟩ : MethodName)) (z := (⟨"com/example/stairsim/stairsim/simulation/CueMark", "pass", "(D)V"⟩ : MethodName)) hown (mvT hZ (hw _ (List.mem_of_getElem? (i := 45) rfl))) (mvT hZ (hw _ (List.mem_of_getElem? (i := 46) rfl))) (notFace_of_selects (args := #[]) (mvT hZ (hw _ (List.mem_of_getElem? (i := 48) rfl)))) (mvT hZ (hw _ (List.mem_of_getElem? (i := 48) rfl))) (mvT hZ (hw _ (List.mem_of_getElem? (i := 47) rfl))) (by decide) (backOf (W := 0) (rm7 l Z a0 hw [] b73 (FP.i2d p4) y1 T80.heap n0 ZZ80 F80x E80x g1 fin1.noNaN (own_i2d_fin p4).noNaN) hZ (hw _ (List.mem_of_getElem? (i := 49) rfl)) (hw _ (List.mem_of_getElem? (i := 2) rfl)) (by decide) (by decide)) q84a q84c (g := (mkF m 74 #[.val (.int p1), .val (.int p2), .val (.int p3), .val (.int p4), .val (.int p5), .val (.ref b73), .val (.int (1 : Int32)), .val (.int kk)] [(.double (FP.i2d p4)), (.ref b73)])) rfl (by rw [hml]; rfl) (Steps.refl _) (argsL := [(.double (FP.i2d p4))]) (rest := []) (lenOf pd2 rfl) rfl (by show 2 * 0 + _ ≤ _; exact Nat.le_of_eq rfl) (hb hby at_74) (fun _ _ => ⟨rfl, q82, (by decide : 2 + 0 ≤ _), (by decide : 6 + 0 ≤ _)⟩)
  dsimp only [Pt.U, Pt.locs, Pt.cells, Pt.slots] at X84 l84 y84 z84 st84 hQ84
  subst l84 y84 z84
  obtain ⟨rfl, N84q, E84x, F84x, s84⟩ := hQ84
  have N84 := Fr.app N82 N84q
  have C84 : ∀ t, Steps p.tables e below (T84.setTop (mkF m 77 #[.val (.int p1), .val (.int p2), .val (.int p3), .val (.int p4), .val (.int p5), .val (.ref b73), .val (.int (1 : Int32)), .val (.int kk)] [])) t → Steps p.tables e below (s₁.setTop (entryFrame m #[(.int p1), (.int p2), (.int p3), (.int p4), (.int p5)] maxLocals)) t := fun t k => C83 t (st84.trans k)
  have ZZ84 : n0 ≤ T84.heap.size := Nat.le_trans ZZ80 s84
  obtain ⟨y2, hy2⟩ : ∃ z : UInt64, z = (Jvm.Native.java_lang_Math.nans.pick64 false y1 (FP.i2d p4)) := ⟨_, rfl⟩
  rw [← hy2] at F84x fin2
  have C85 : ∀ t, Steps p.tables e below (T84.setTop (mkF m 84 #[.val (.int p1), .val (.int p2), .val (.int p3), .val (.int p4), .val (.int p5), .val (.ref b73), .val (.int (1 : Int32)), .val (.int kk)] [(.ref b73)])) t → Steps p.tables e below (s₁.setTop (entryFrame m #[(.int p1), (.int p2), (.int p3), (.int p4), (.int p5)] maxLocals)) t := by
    intro t k
    refine C84 t ?_
    show Steps p.tables e below (T84.setTop (mkF m 77 #[.val (.int p1), .val (.int p2), .val (.int p3), .val (.int p4), .val (.int p5), .val (.ref b73), .val (.int (1 : Int32)), .val (.int kk)] [])) _
    refine XS.iload X84.here hx rfl (hb hby at_77) rfl ?_
    show Steps p.tables e below (T84.setTop (mkF m 79 #[.val (.int p1), .val (.int p2), .val (.int p3), .val (.int p4), .val (.int p5), .val (.ref b73), .val (.int (1 : Int32)), .val (.int kk)] [(.int (1 : Int32))])) _
    refine XS.ifNo X84.here hx rfl (hb hby at_79) rfl (XT.i0_eq_f (by decide)) ?_
    show Steps p.tables e below (T84.setTop (mkF m 82 #[.val (.int p1), .val (.int p2), .val (.int p3), .val (.int p4), .val (.int p5), .val (.ref b73), .val (.int (1 : Int32)), .val (.int kk)] [])) _
    refine XS.aload X84.here hx rfl (hb hby at_82) rfl rfl ?_
    exact k
  obtain ⟨cq86, kq86, q86a, q86b, q86c⟩ := isOf hZ rfl E84x
  obtain ⟨_, _, ⟨T86, L86, k86, n86⟩, -, X86, ⟨Lc86, hQ86, l86, y86, z86⟩, st86⟩ := X84.virtualBack hx (y := (⟨"com/example/stairsim/stairsim/simulation/CueMark", "isPassed", "()Z"⟩ : MethodName)) (z := (⟨"com/example/stairsim/stairsim/simulation/CueMark", "isPassed", "()Z"⟩ : MethodName)) hown (mvT hZ (hw _ (List.mem_of_getElem? (i := 40) rfl))) (mvT hZ (hw _ (List.mem_of_getElem? (i := 41) rfl))) (notFace_of_selects (args := #[]) (mvT hZ (hw _ (List.mem_of_getElem? (i := 43) rfl)))) (mvT hZ (hw _ (List.mem_of_getElem? (i := 43) rfl))) (mvT hZ (hw _ (List.mem_of_getElem? (i := 42) rfl))) (by decide) (backOf (W := 0) (rm6 l Z a0 hw [] b73 y2 1 T84.heap n0 ZZ84 F84x (Or.inl ⟨own_passed fin2, rfl⟩)) hZ (hw _ (List.mem_of_getElem? (i := 44) rfl)) (hw _ (List.mem_of_getElem? (i := 2) rfl)) (by decide) (by decide)) q86a q86c (g := (mkF m 84 #[.val (.int p1), .val (.int p2), .val (.int p3), .val (.int p4), .val (.int p5), .val (.ref b73), .val (.int (1 : Int32)), .val (.int kk)] [(.ref b73)])) rfl (by rw [hml]; rfl) (Steps.refl _) (argsL := []) (rest := []) (lenOf pd3 rfl) rfl (by show 2 * 0 + _ ≤ _; exact Nat.le_of_eq rfl) (hb hby at_84) (fun _ _ => ⟨rfl, rfl, (by decide : 2 + 0 ≤ _), (by decide : 6 + 0 ≤ _)⟩)
  dsimp only [Pt.U, Pt.locs, Pt.cells, Pt.slots] at X86 l86 y86 z86 st86 hQ86
  subst l86 y86 z86
  obtain ⟨rfl, N86q, q86⟩ := hQ86
  have N86 := Fr.app N84 N86q
  have C86 : ∀ t, Steps p.tables e below (T86.setTop (mkF m 87 #[.val (.int p1), .val (.int p2), .val (.int p3), .val (.int p4), .val (.int p5), .val (.ref b73), .val (.int (1 : Int32)), .val (.int kk)] [(.int (1 : Int32))])) t → Steps p.tables e below (s₁.setTop (entryFrame m #[(.int p1), (.int p2), (.int p3), (.int p4), (.int p5)] maxLocals)) t := fun t k => C85 t (st86.trans k)
  have fin3 : Jvm.Free.Fl.Fin64 (Jvm.Native.java_lang_Math.nans.pick64 false y2 (FP.i2d p5)) := own_min_fin (Or.inr fin2) (own_i2d_fin p5)
  have C87 : ∀ t, Steps p.tables e below (T86.setTop (mkF m 108 #[.val (.int p1), .val (.int p2), .val (.int p3), .val (.int p4), .val (.int p5), .val (.ref b73), .val (.int (1 : Int32)), .val (.int kk)] [(.double (FP.i2d p5)), (.ref b73)])) t → Steps p.tables e below (s₁.setTop (entryFrame m #[(.int p1), (.int p2), (.int p3), (.int p4), (.int p5)] maxLocals)) t := by
    intro t k
    refine C86 t ?_
    show Steps p.tables e below (T86.setTop (mkF m 87 #[.val (.int p1), .val (.int p2), .val (.int p3), .val (.int p4), .val (.int p5), .val (.ref b73), .val (.int (1 : Int32)), .val (.int kk)] [(.int (1 : Int32))])) _
    refine XS.ifNo X86.here hx rfl (hb hby at_87) rfl (XT.i0_eq_f (by decide)) ?_
    show Steps p.tables e below (T86.setTop (mkF m 90 #[.val (.int p1), .val (.int p2), .val (.int p3), .val (.int p4), .val (.int p5), .val (.ref b73), .val (.int (1 : Int32)), .val (.int kk)] [])) _
    refine XS.iconst X86.here hx rfl (hb hby at_90) ?_
    show Steps p.tables e below (T86.setTop (mkF m 91 #[.val (.int p1), .val (.int p2), .val (.int p3), .val (.int p4), .val (.int p5), .val (.ref b73), .val (.int (1 : Int32)), .val (.int kk)] [(.int (1 : Int32))])) _
    refine XS.goto X86.here hx rfl (pc0 := 91) (pc' := 95) rfl (hb hby at_91) (by decide) (by decide) ?_
    show Steps p.tables e below (T86.setTop (mkF m 95 #[.val (.int p1), .val (.int p2), .val (.int p3), .val (.int p4), .val (.int p5), .val (.ref b73), .val (.int (1 : Int32)), .val (.int kk)] [(.int (1 : Int32))])) _
    refine XS.istore X86.here hx rfl (hb hby at_95) rfl (l' := #[.val (.int p1), .val (.int p2), .val (.int p3), .val (.int p4), .val (.int p5), .val (.ref b73), .val (.int (1 : Int32)), .val (.int kk)]) rfl ?_
    show Steps p.tables e below (T86.setTop (mkF m 97 #[.val (.int p1), .val (.int p2), .val (.int p3), .val (.int p4), .val (.int p5), .val (.ref b73), .val (.int (1 : Int32)), .val (.int kk)] [])) _
    refine XS.iload X86.here hx rfl (hb hby at_97) rfl ?_
    show Steps p.tables e below (T86.setTop (mkF m 99 #[.val (.int p1), .val (.int p2), .val (.int p3), .val (.int p4), .val (.int p5), .val (.ref b73), .val (.int (1 : Int32)), .val (.int kk)] [(.int kk)])) _
    refine XS.iconst X86.here hx rfl (hb hby at_99) ?_
    show Steps p.tables e below (T86.setTop (mkF m 100 #[.val (.int p1), .val (.int p2), .val (.int p3), .val (.int p4), .val (.int p5), .val (.ref b73), .val (.int (1 : Int32)), .val (.int kk)] [(.int (3 : Int32)), (.int kk)])) _
    refine XS.icmpNo X86.here hx rfl (hb hby at_100) rfl (XT.ii_lt_f (by rw [hkk]; decide)) ?_
    show Steps p.tables e below (T86.setTop (mkF m 103 #[.val (.int p1), .val (.int p2), .val (.int p3), .val (.int p4), .val (.int p5), .val (.ref b73), .val (.int (1 : Int32)), .val (.int kk)] [])) _
    refine XS.aload X86.here hx rfl (hb hby at_103) rfl rfl ?_
    show Steps p.tables e below (T86.setTop (mkF m 105 #[.val (.int p1), .val (.int p2), .val (.int p3), .val (.int p4), .val (.int p5), .val (.ref b73), .val (.int (1 : Int32)), .val (.int kk)] [(.ref b73)])) _
    refine XS.iload X86.here hx rfl (hb hby at_105) rfl ?_
    show Steps p.tables e below (T86.setTop (mkF m 107 #[.val (.int p1), .val (.int p2), .val (.int p3), .val (.int p4), .val (.int p5), .val (.ref b73), .val (.int (1 : Int32)), .val (.int kk)] [(.int p5), (.ref b73)])) _
    refine XS.i2dS X86.here hx rfl (hb hby at_107) rfl rfl ?_
    exact k
  obtain ⟨cq88, kq88, q88a, q88b, q88c⟩ := isOf hZ q86 E84x
  obtain ⟨_, _, ⟨T88, L88, k88, n88⟩, -, X88, ⟨Lc88, hQ88, l88, y88, z88⟩, st88⟩ := X86.virtualBack hx (y := (⟨"com/example/stairsim/stairsim/simulation/CueMark", "pass", "(D)V"⟩ : MethodName)) (z := (⟨"com/example/stairsim/stairsim/simulation/CueMark", "pass", "(D)V"⟩ : MethodName)) hown (mvT hZ (hw _ (List.mem_of_getElem? (i := 45) rfl))) (mvT hZ (hw _ (List.mem_of_getElem? (i := 46) rfl))) (notFace_of_selects (args := #[]) (mvT hZ (hw _ (List.mem_of_getElem? (i := 48) rfl)))) (mvT hZ (hw _ (List.mem_of_getElem? (i := 48) rfl))) (mvT hZ (hw _ (List.mem_of_getElem? (i := 47) rfl))) (by decide) (backOf (W := 0) (rm7 l Z a0 hw [] b73 (FP.i2d p5) y2 T84.heap n0 ZZ84 F84x E84x g1 fin2.noNaN (own_i2d_fin p5).noNaN) hZ (hw _ (List.mem_of_getElem? (i := 49) rfl)) (hw _ (List.mem_of_getElem? (i := 2) rfl)) (by decide) (by decide)) q88a q88c (g := (mkF m 108 #[.val (.int p1), .val (.int p2), .val (.int p3), .val (.int p4), .val (.int p5), .val (.ref b73), .val (.int (1 : Int32)), .val (.int kk)] [(.double (FP.i2d p5)), (.ref b73)])) rfl (by rw [hml]; rfl) (Steps.refl _) (argsL := [(.double (FP.i2d p5))]) (rest := []) (lenOf pd2 rfl) rfl (by show 2 * 0 + _ ≤ _; exact Nat.le_of_eq rfl) (hb hby at_108) (fun _ _ => ⟨rfl, q86, (by decide : 2 + 0 ≤ _), (by decide : 6 + 0 ≤ _)⟩)
  dsimp only [Pt.U, Pt.locs, Pt.cells, Pt.slots] at X88 l88 y88 z88 st88 hQ88
  subst l88 y88 z88
  obtain ⟨rfl, N88q, E88x, F88x, s88⟩ := hQ88
  have N88 := Fr.app N86 N88q
  have C88 : ∀ t, Steps p.tables e below (T88.setTop (mkF m 111 #[.val (.int p1), .val (.int p2), .val (.int p3), .val (.int p4), .val (.int p5), .val (.ref b73), .val (.int (1 : Int32)), .val (.int kk)] [])) t → Steps p.tables e below (s₁.setTop (entryFrame m #[(.int p1), (.int p2), (.int p3), (.int p4), (.int p5)] maxLocals)) t := fun t k => C87 t (st88.trans k)
  have ZZ88 : n0 ≤ T88.heap.size := Nat.le_trans ZZ84 s88
  obtain ⟨y3, hy3⟩ : ∃ z : UInt64, z = (Jvm.Native.java_lang_Math.nans.pick64 false y2 (FP.i2d p5)) := ⟨_, rfl⟩
  rw [← hy3] at F88x fin3
  have C89 : ∀ t, Steps p.tables e below (T88.setTop (mkF m 118 #[.val (.int p1), .val (.int p2), .val (.int p3), .val (.int p4), .val (.int p5), .val (.ref b73), .val (.int (1 : Int32)), .val (.int kk)] [(.ref b73)])) t → Steps p.tables e below (s₁.setTop (entryFrame m #[(.int p1), (.int p2), (.int p3), (.int p4), (.int p5)] maxLocals)) t := by
    intro t k
    refine C88 t ?_
    show Steps p.tables e below (T88.setTop (mkF m 111 #[.val (.int p1), .val (.int p2), .val (.int p3), .val (.int p4), .val (.int p5), .val (.ref b73), .val (.int (1 : Int32)), .val (.int kk)] [])) _
    refine XS.iload X88.here hx rfl (hb hby at_111) rfl ?_
    show Steps p.tables e below (T88.setTop (mkF m 113 #[.val (.int p1), .val (.int p2), .val (.int p3), .val (.int p4), .val (.int p5), .val (.ref b73), .val (.int (1 : Int32)), .val (.int kk)] [(.int (1 : Int32))])) _
    refine XS.ifNo X88.here hx rfl (hb hby at_113) rfl (XT.i0_eq_f (by decide)) ?_
    show Steps p.tables e below (T88.setTop (mkF m 116 #[.val (.int p1), .val (.int p2), .val (.int p3), .val (.int p4), .val (.int p5), .val (.ref b73), .val (.int (1 : Int32)), .val (.int kk)] [])) _
    refine XS.aload X88.here hx rfl (hb hby at_116) rfl rfl ?_
    exact k
  obtain ⟨cq90, kq90, q90a, q90b, q90c⟩ := isOf hZ rfl E88x
  obtain ⟨_, _, ⟨T90, L90, k90, n90⟩, -, X90, ⟨Lc90, hQ90, l90, y90, z90⟩, st90⟩ := X88.virtualBack hx (y := (⟨"com/example/stairsim/stairsim/simulation/CueMark", "isPassed", "()Z"⟩ : MethodName)) (z := (⟨"com/example/stairsim/stairsim/simulation/CueMark", "isPassed", "()Z"⟩ : MethodName)) hown (mvT hZ (hw _ (List.mem_of_getElem? (i := 40) rfl))) (mvT hZ (hw _ (List.mem_of_getElem? (i := 41) rfl))) (notFace_of_selects (args := #[]) (mvT hZ (hw _ (List.mem_of_getElem? (i := 43) rfl)))) (mvT hZ (hw _ (List.mem_of_getElem? (i := 43) rfl))) (mvT hZ (hw _ (List.mem_of_getElem? (i := 42) rfl))) (by decide) (backOf (W := 0) (rm6 l Z a0 hw [] b73 y3 1 T88.heap n0 ZZ88 F88x (Or.inl ⟨own_passed fin3, rfl⟩)) hZ (hw _ (List.mem_of_getElem? (i := 44) rfl)) (hw _ (List.mem_of_getElem? (i := 2) rfl)) (by decide) (by decide)) q90a q90c (g := (mkF m 118 #[.val (.int p1), .val (.int p2), .val (.int p3), .val (.int p4), .val (.int p5), .val (.ref b73), .val (.int (1 : Int32)), .val (.int kk)] [(.ref b73)])) rfl (by rw [hml]; rfl) (Steps.refl _) (argsL := []) (rest := []) (lenOf pd3 rfl) rfl (by show 2 * 0 + _ ≤ _; exact Nat.le_of_eq rfl) (hb hby at_118) (fun _ _ => ⟨rfl, rfl, (by decide : 2 + 0 ≤ _), (by decide : 6 + 0 ≤ _)⟩)
  dsimp only [Pt.U, Pt.locs, Pt.cells, Pt.slots] at X90 l90 y90 z90 st90 hQ90
  subst l90 y90 z90
  obtain ⟨rfl, N90q, q90⟩ := hQ90
  have N90 := Fr.app N88 N90q
  have C90 : ∀ t, Steps p.tables e below (T90.setTop (mkF m 121 #[.val (.int p1), .val (.int p2), .val (.int p3), .val (.int p4), .val (.int p5), .val (.ref b73), .val (.int (1 : Int32)), .val (.int kk)] [(.int (1 : Int32))])) t → Steps p.tables e below (s₁.setTop (entryFrame m #[(.int p1), (.int p2), (.int p3), (.int p4), (.int p5)] maxLocals)) t := fun t k => C89 t (st90.trans k)
  have C91 : ∀ t, Steps p.tables e below (T90.setTop (mkF m 138 #[.val (.int p1), .val (.int p2), .val (.int p3), .val (.int p4), .val (.int p5), .val (.ref b73), .val (.int (1 : Int32)), .val (.int kk)] [(.ref b73)])) t → Steps p.tables e below (s₁.setTop (entryFrame m #[(.int p1), (.int p2), (.int p3), (.int p4), (.int p5)] maxLocals)) t := by
    intro t k
    refine C90 t ?_
    show Steps p.tables e below (T90.setTop (mkF m 121 #[.val (.int p1), .val (.int p2), .val (.int p3), .val (.int p4), .val (.int p5), .val (.ref b73), .val (.int (1 : Int32)), .val (.int kk)] [(.int (1 : Int32))])) _
    refine XS.ifNo X90.here hx rfl (hb hby at_121) rfl (XT.i0_eq_f (by decide)) ?_
    show Steps p.tables e below (T90.setTop (mkF m 124 #[.val (.int p1), .val (.int p2), .val (.int p3), .val (.int p4), .val (.int p5), .val (.ref b73), .val (.int (1 : Int32)), .val (.int kk)] [])) _
    refine XS.iconst X90.here hx rfl (hb hby at_124) ?_
    show Steps p.tables e below (T90.setTop (mkF m 125 #[.val (.int p1), .val (.int p2), .val (.int p3), .val (.int p4), .val (.int p5), .val (.ref b73), .val (.int (1 : Int32)), .val (.int kk)] [(.int (1 : Int32))])) _
    refine XS.goto X90.here hx rfl (pc0 := 125) (pc' := 129) rfl (hb hby at_125) (by decide) (by decide) ?_
    show Steps p.tables e below (T90.setTop (mkF m 129 #[.val (.int p1), .val (.int p2), .val (.int p3), .val (.int p4), .val (.int p5), .val (.ref b73), .val (.int (1 : Int32)), .val (.int kk)] [(.int (1 : Int32))])) _
    refine XS.istore X90.here hx rfl (hb hby at_129) rfl (l' := #[.val (.int p1), .val (.int p2), .val (.int p3), .val (.int p4), .val (.int p5), .val (.ref b73), .val (.int (1 : Int32)), .val (.int kk)]) rfl ?_
    show Steps p.tables e below (T90.setTop (mkF m 131 #[.val (.int p1), .val (.int p2), .val (.int p3), .val (.int p4), .val (.int p5), .val (.ref b73), .val (.int (1 : Int32)), .val (.int kk)] [])) _
    refine XS.iload X90.here hx rfl (hb hby at_131) rfl ?_
    show Steps p.tables e below (T90.setTop (mkF m 133 #[.val (.int p1), .val (.int p2), .val (.int p3), .val (.int p4), .val (.int p5), .val (.ref b73), .val (.int (1 : Int32)), .val (.int kk)] [(.int (1 : Int32))])) _
    refine XS.ifNo X90.here hx rfl (hb hby at_133) rfl (XT.i0_eq_f (by decide)) ?_
    show Steps p.tables e below (T90.setTop (mkF m 136 #[.val (.int p1), .val (.int p2), .val (.int p3), .val (.int p4), .val (.int p5), .val (.ref b73), .val (.int (1 : Int32)), .val (.int kk)] [])) _
    refine XS.aload X90.here hx rfl (hb hby at_136) rfl rfl ?_
    exact k
  obtain ⟨cq92, kq92, q92a, q92b, q92c⟩ := isOf hZ q90 E88x
  obtain ⟨_, _, ⟨T92, L92, k92, n92⟩, -, X92, ⟨Lc92, hQ92, l92, y92, z92⟩, st92⟩ := X90.virtualBack hx (y := (⟨"com/example/stairsim/stairsim/simulation/CueMark", "isPassed", "()Z"⟩ : MethodName)) (z := (⟨"com/example/stairsim/stairsim/simulation/CueMark", "isPassed", "()Z"⟩ : MethodName)) hown (mvT hZ (hw _ (List.mem_of_getElem? (i := 40) rfl))) (mvT hZ (hw _ (List.mem_of_getElem? (i := 41) rfl))) (notFace_of_selects (args := #[]) (mvT hZ (hw _ (List.mem_of_getElem? (i := 43) rfl)))) (mvT hZ (hw _ (List.mem_of_getElem? (i := 43) rfl))) (mvT hZ (hw _ (List.mem_of_getElem? (i := 42) rfl))) (by decide) (backOf (W := 0) (rm6 l Z a0 hw [] b73 y3 1 T88.heap n0 ZZ88 F88x (Or.inl ⟨own_passed fin3, rfl⟩)) hZ (hw _ (List.mem_of_getElem? (i := 44) rfl)) (hw _ (List.mem_of_getElem? (i := 2) rfl)) (by decide) (by decide)) q92a q92c (g := (mkF m 138 #[.val (.int p1), .val (.int p2), .val (.int p3), .val (.int p4), .val (.int p5), .val (.ref b73), .val (.int (1 : Int32)), .val (.int kk)] [(.ref b73)])) rfl (by rw [hml]; rfl) (Steps.refl _) (argsL := []) (rest := []) (lenOf pd3 rfl) rfl (by show 2 * 0 + _ ≤ _; exact Nat.le_of_eq rfl) (hb hby at_138) (fun _ _ => ⟨rfl, q90, (by decide : 2 + 0 ≤ _), (by decide : 6 + 0 ≤ _)⟩)
  dsimp only [Pt.U, Pt.locs, Pt.cells, Pt.slots] at X92 l92 y92 z92 st92 hQ92
  subst l92 y92 z92
  obtain ⟨rfl, N92q, q92⟩ := hQ92
  have N92 := Fr.app N90 N92q
  have C92 : ∀ t, Steps p.tables e below (T92.setTop (mkF m 141 #[.val (.int p1), .val (.int p2), .val (.int p3), .val (.int p4), .val (.int p5), .val (.ref b73), .val (.int (1 : Int32)), .val (.int kk)] [(.int (1 : Int32))])) t → Steps p.tables e below (s₁.setTop (entryFrame m #[(.int p1), (.int p2), (.int p3), (.int p4), (.int p5)] maxLocals)) t := fun t k => C91 t (st92.trans k)
  have C93 : ∀ t, Steps p.tables e below (T92.setTop (mkF m 160 #[.val (.int p1), .val (.int p2), .val (.int p3), .val (.int p4), .val (.int p5), .val (.ref b73), .val (.int (1 : Int32)), .val (.int kk)] [(.int (1 : Int32))])) t → Steps p.tables e below (s₁.setTop (entryFrame m #[(.int p1), (.int p2), (.int p3), (.int p4), (.int p5)] maxLocals)) t := by
    intro t k
    refine C92 t ?_
    show Steps p.tables e below (T92.setTop (mkF m 141 #[.val (.int p1), .val (.int p2), .val (.int p3), .val (.int p4), .val (.int p5), .val (.ref b73), .val (.int (1 : Int32)), .val (.int kk)] [(.int (1 : Int32))])) _
    refine XS.iload X92.here hx rfl (hb hby at_141) rfl ?_
    show Steps p.tables e below (T92.setTop (mkF m 143 #[.val (.int p1), .val (.int p2), .val (.int p3), .val (.int p4), .val (.int p5), .val (.ref b73), .val (.int (1 : Int32)), .val (.int kk)] [(.int kk), (.int (1 : Int32))])) _
    refine XS.iconst X92.here hx rfl (hb hby at_143) ?_
    show Steps p.tables e below (T92.setTop (mkF m 144 #[.val (.int p1), .val (.int p2), .val (.int p3), .val (.int p4), .val (.int p5), .val (.ref b73), .val (.int (1 : Int32)), .val (.int kk)] [(.int (1 : Int32)), (.int kk), (.int (1 : Int32))])) _
    refine XS.icmpNo X92.here hx rfl (hb hby at_144) rfl (XT.ii_lt_f (by rw [hkk]; decide)) ?_
    show Steps p.tables e below (T92.setTop (mkF m 147 #[.val (.int p1), .val (.int p2), .val (.int p3), .val (.int p4), .val (.int p5), .val (.ref b73), .val (.int (1 : Int32)), .val (.int kk)] [(.int (1 : Int32))])) _
    refine XS.iconst X92.here hx rfl (hb hby at_147) ?_
    show Steps p.tables e below (T92.setTop (mkF m 148 #[.val (.int p1), .val (.int p2), .val (.int p3), .val (.int p4), .val (.int p5), .val (.ref b73), .val (.int (1 : Int32)), .val (.int kk)] [(.int (1 : Int32)), (.int (1 : Int32))])) _
    refine XS.goto X92.here hx rfl (pc0 := 148) (pc' := 152) rfl (hb hby at_148) (by decide) (by decide) ?_
    show Steps p.tables e below (T92.setTop (mkF m 152 #[.val (.int p1), .val (.int p2), .val (.int p3), .val (.int p4), .val (.int p5), .val (.ref b73), .val (.int (1 : Int32)), .val (.int kk)] [(.int (1 : Int32)), (.int (1 : Int32))])) _
    refine XS.icmpNo X92.here hx rfl (hb hby at_152) rfl (XT.ii_ne_f rfl) ?_
    show Steps p.tables e below (T92.setTop (mkF m 155 #[.val (.int p1), .val (.int p2), .val (.int p3), .val (.int p4), .val (.int p5), .val (.ref b73), .val (.int (1 : Int32)), .val (.int kk)] [])) _
    refine XS.iconst X92.here hx rfl (hb hby at_155) ?_
    show Steps p.tables e below (T92.setTop (mkF m 156 #[.val (.int p1), .val (.int p2), .val (.int p3), .val (.int p4), .val (.int p5), .val (.ref b73), .val (.int (1 : Int32)), .val (.int kk)] [(.int (1 : Int32))])) _
    refine XS.goto X92.here hx rfl (pc0 := 156) (pc' := 160) rfl (hb hby at_156) (by decide) (by decide) ?_
    exact k
  obtain ⟨fs, hr, hrun, hended, hW, hsame⟩ := X92.leave (v := some (.int (1 : Int32))) (fun h => by rw [Bd.returns] at h; cases h)
  refine ⟨_, _, C93 _ ?_, hrun, hended, _, _, rfl, ?_, ⟨_, rfl⟩, hW, hsame.mono (by decide) (by decide)⟩
  · show Steps p.tables e below (T92.setTop (mkF m 160 #[.val (.int p1), .val (.int p2), .val (.int p3), .val (.int p4), .val (.int p5), .val (.ref b73), .val (.int (1 : Int32)), .val (.int kk)] [(.int (1 : Int32))])) _
    exact retN X92 hx (t := .boolean) Bd.returns (by simp) (hb hby at_160) hr
  · show Q0 Z p1 p2 p3 p4 p5 h0 n0 _ T92.heap _
    rw [q92]
    exact ⟨rfl, N92⟩
theorem rm0 (l : Launch) (Z : State) (a0 : Array Value) (hw : ∀ d ∈ tables_1, d.before a0 Z = true) (ws : List Jvm.Cond) (p1 p2 p3 p4 p5 : Int32) (h0 : Heap) (n0 : Nat) (Z0 : n0 ≤ h0.size) (ad : Addr) (S1 : Sta Z h0 "java/util/ArrayList" "DEFAULTCAPACITY_EMPTY_ELEMENTDATA" "[Ljava/lang/Object;" (.ref ad)) :
    MetFree l x (head1 (Jvm.Cond.code x code maxLocals ret :: ws) room_1) (fun a U => a = #[(.int p1), (.int p2), (.int p3), (.int p4), (.int p5)] ∧ Z.Warmed39 U.vm ∧ U.heap = h0) (fun _ _ _ _ _ => True) (fun _ U o U' => ∃ v L, o = .returned v ∧ Q0 Z p1 p2 p3 p4 p5 h0 n0 v U'.heap L ∧ FrameEnd U o U' L room_1.cells room_1.slots) := by
  rcases own_four (own_and3 p2) with h | h | h | h
  · exact rm0_0 l Z a0 hw ws p1 p2 p3 p4 p5 ad h0 n0 Z0 S1 h
  · exact rm0_1 l Z a0 hw ws p1 p2 p3 p4 p5 ad h0 n0 Z0 S1 h
  · exact rm0_2 l Z a0 hw ws p1 p2 p3 p4 p5 ad h0 n0 Z0 S1 h
  · exact rm0_3 l Z a0 hw ws p1 p2 p3 p4 p5 ad h0 n0 Z0 S1 h
set_option maxRecDepth 65536 in
set_option maxHeartbeats 40000000 in
theorem comes_1 {Post : Tables → Env → Array Value → State → Outcome → State → Prop} (hpost : ∀ tb e args s v u, (limb_1_1.after args s (.returned v) u = true ∧ limb_1_2.after args s (.returned v) u = true ∧ True) → FrameEnd s (.returned v) u (Jvm.fieldLocs frame_1_writes args s ++ Jvm.arrayLocs frame_1_arrays args s ++ Jvm.staticLocs frame_1_statics s) 16 128 → Post tb e args s (.returned v) u) :
    ArmFor flags0 classFile x code maxLocals ret World_1 tables_1 room_1 Calls_1 rest_1 Pre_1 Post := by
  intro l hfl _ _ p e ha hc hk s m args below hf hA hF happ hP
  obtain ⟨hcalls, hrest, hpre⟩ := hP
  obtain ⟨-, -, -, hnamed, -, -, -, hat⟩ := (Spec.applies_iff hf).mp happ
  obtain ⟨hg, hn⟩ := and_e (Cond.before_iff.mp (show (Jvm.Cond.and given_1 narrow_1).before args s = true from hpre))
  obtain ⟨hcount, r0⟩ := and_e hg
  obtain ⟨q0, r1⟩ := and_e r0
  obtain ⟨q1, r2⟩ := and_e r1
  obtain ⟨q2, r3⟩ := and_e r2
  obtain ⟨q3, r4⟩ := and_e r3
  have q4 := r4
  obtain ⟨w0, w1, w2, w3, w4, rfl⟩ : ∃ w0 w1 w2 w3 w4 : Value, args = #[w0, w1, w2, w3, w4] := by
    have hs : args.size = 5 := by simpa [Cond.value, given_1] using hcount
    obtain ⟨L⟩ := args
    match L, hs with
    | [w0, w1, w2, w3, w4], _ => exact ⟨w0, w1, w2, w3, w4, rfl⟩
  have hw := fun d (hd : d ∈ tables_1) => atoms_spec (ws := Jvm.Cond.code x code maxLocals ret :: tables_1) hat d (List.mem_cons_of_mem _ hd)
  obtain ⟨i0, ei0⟩ := is_v q0
  obtain rfl : w0 = (.int i0) := Option.some.inj ei0
  obtain ⟨i1, ei1⟩ := is_v q1
  obtain rfl : w1 = (.int i1) := Option.some.inj ei1
  obtain ⟨i2, ei2⟩ := is_v q2
  obtain rfl : w2 = (.int i2) := Option.some.inj ei2
  obtain ⟨i3, ei3⟩ := is_v q3
  obtain rfl : w3 = (.int i3) := Option.some.inj ei3
  obtain ⟨i4, ei4⟩ := is_v q4
  obtain rfl : w4 = (.int i4) := Option.some.inj ei4
  obtain ⟨hsets, hown0⟩ := atoms_of _ (rest_1_c_eq ▸ (show rest_1_c.before _ s = true from hrest))
  obtain ⟨ad, -, -, -, ev1, -⟩ := Cond.exactly_spec (hsets _ (List.mem_of_getElem? (i := 7) rfl))
  have S1 : Sta s s.heap "java/util/ArrayList" "DEFAULTCAPACITY_EMPTY_ELEMENTDATA" "[Ljava/lang/Object;" (.ref ad) := Sta.start ev1 (Or.inr ⟨hw _ (List.mem_of_getElem? (i := 11) rfl), hsets _ (List.mem_of_getElem? (i := 2) rfl)⟩)
  obtain ⟨n, o, h1, h2, h3, _, L, rfl, ⟨rfl, N⟩, hq⟩ := rm0 l s _ hw tables_1 i0 i1 i2 i3 i4 s.heap s.heap.size (Nat.le_refl _) ad S1 p e ha hc hk s m _ below hf ((Spec.applies_iff_loose hf).mp happ).1 ⟨rfl, State.Warmed39.refl s, rfl⟩ trivial
  refine ⟨n, _, h1, h2, h3, hpost _ _ _ _ _ _ ⟨Cond.after_iff.mpr rfl, Cond.after_iff.mpr (eq_i res_at (Term.int_eval (1)) rfl), trivial⟩ ⟨hq.1, hq.2.1, (hq.2.2.sift fun y hy => Or.inr (N y hy)).mono (by decide) (by decide)⟩⟩
theorem main_1_1 : Claimed_1_1 := comes_1 fun _ _ _ _ _ _ h hF => ⟨h.1, hF⟩
theorem main_1_2 : Claimed_1_2 := comes_1 fun _ _ _ _ _ _ h hF => ⟨h.2.1, hF⟩
end Jvm.Pilot.@@N@@
namespace Jvm.Pilot.@@N@@
open Jvm Jvm.ClassFile Sem Op Lib Jvm.Free Jvm.Stand Jvm.Pilot.@@N@@.Jvm.D
/-! MADE BY PROGRAM (witnessworld.py) out of the Statement's table words and the real class files: 19 classes; the members and pool entries that the words name. The judged class is class 1, her method 1. -/
namespace start1
open Jvm.ClassFile
def u (s : String) : CpInfo := .utf8 (stringToUtf16 s)
/-- a pool by its gaps: so many unusable entries, then the entry; so many at the end -/
def gap : Nat → List CpInfo → List CpInfo
  | 0, r => r
  | n + 1, r => .unusable :: gap n r
def poolList (es : List (Nat × CpInfo)) (last : Nat) : List CpInfo := es.foldr (fun e r => gap e.1 (e.2 :: r)) (gap last [])
def pool (es : List (Nat × CpInfo)) (last : Nat) : Array CpInfo := ⟨poolList es last⟩
def fileOf (pool : Array CpInfo) (this : Nat) (attrs : Array Attribute := #[]) (ms : Array MethodInfo := #[]) (fl : Nat := 33) (sup : Nat := 0) (ifs : Array Nat := #[]) (fds : Array FieldInfo := #[]) : ClassFile where
  minorVersion := 0
  majorVersion := 65
  constantPool := pool
  accessFlags := fl
  thisClass := this
  superClass := sup
  interfaces := ifs
  fields := fds
  methods := ms
  attributes := attrs
def plain (name : String) (sup : Option ClassId) : Class where
  name := name
  kind := .ordinary
  loader := none
  accessFlags := 33
  super := sup
  interfaces := #[]
  cf := none
  fields := #[]
  methods := #[]
  instanceTypes := #[]
  staticTypes := #[]
  resolved := #[]
  callSites := []
  init := .initialized
  statics := none
  mirror := none

def pool0 : Array CpInfo := pool [(5, u "<init>"), (0, u "()V"), (1, .class_ 10), (1, u "java/lang/Object")] 113

def k0c0 : Code := { maxStack := 0, maxLocals := 1, code := object_method_1_code, exceptionTable := #[], attributes := #[] }
def k0m0 : Method := { name := "<init>", desc := "()V", sig := { parameters := [], returnType := none }, accessFlags := 1, code := some k0c0 }
/-- java/lang/Object -/
def k0 : Class := { plain "java/lang/Object" none with
  accessFlags := 33
  interfaces := #[]
  cf := some (fileOf pool0 8 #[] #[{ accessFlags := 1, nameIndex := 5, descriptorIndex := 6, attributes := #[] }] 33 0 #[] #[])
  fields := #[]
  methods := #[k0m0]
  instanceTypes := #[]
  staticTypes := #[]
  resolved := Array.replicate 124 none
  statics := none }

def pool1 : Array CpInfo := pool [(2, .class_ 4), (1, u "java/lang/Object"), (0, u "<init>"), (0, u "()V"), (0, .class_ 8), (0, u "com/example/stairsim/stairsim/simulation/CueMark"), (0, .methodref 7 10), (0, .nameAndType 5 11), (0, u "(D)V"), (0, .methodref 7 13), (0, .nameAndType 14 15), (0, u "isPassed"), (0, u "()Z"), (0, .methodref 7 17), (0, .nameAndType 18 11), (0, u "pass"), (0, .class_ 20), (0, u "com/example/stairsim/stairsim/simulation/CueMarkIsPassedPinLaw"), (2, u "law"), (0, u "(IIIII)Z")] 3

def k1m0 : Method := { name := "<init>", desc := "()V", sig := { parameters := [], returnType := none }, accessFlags := 2, code := none }
def k1c1 : Code := { maxStack := 4, maxLocals := 8, code := code, exceptionTable := #[], attributes := #[] }
def k1m1 : Method := { name := "law", desc := "(IIIII)Z", sig := { parameters := [.int, .int, .int, .int, .int], returnType := some .boolean }, accessFlags := 9, code := some k1c1 }
/-- com/example/stairsim/stairsim/simulation/CueMarkIsPassedPinLaw -/
def k1 : Class := { plain "com/example/stairsim/stairsim/simulation/CueMarkIsPassedPinLaw" (some 0) with
  accessFlags := 49
  interfaces := #[]
  cf := some (fileOf pool1 19 #[] #[{ accessFlags := 2, nameIndex := 5, descriptorIndex := 6, attributes := #[] }, { accessFlags := 9, nameIndex := 23, descriptorIndex := 24, attributes := #[] }] 49 2 #[] #[])
  fields := #[]
  methods := #[k1m0, k1m1]
  instanceTypes := #[]
  staticTypes := #[]
  resolved := Array.replicate 28 none
  statics := none }

def pool2 : Array CpInfo := pool [(1, .methodref 2 3), (0, .class_ 4), (0, .nameAndType 5 6), (0, u "java/lang/Object"), (0, u "<init>"), (0, u "()V"), (0, .class_ 8), (0, u "java/util/ArrayList"), (0, .methodref 7 3), (0, .fieldref 11 12), (0, .class_ 13), (0, .nameAndType 14 15), (0, u "com/example/stairsim/stairsim/simulation/CueMark"), (0, u "held"), (0, u "Ljava/util/List;"), (2, .double 9218868437227405312), (1, .fieldref 11 21), (0, .nameAndType 22 23), (0, u "passedS"), (0, u "D"), (0, .fieldref 11 25), (0, .nameAndType 26 23), (0, u "positionM"), (6, .methodref 34 35), (0, .class_ 36), (0, .nameAndType 37 38), (0, u "java/lang/Math"), (0, u "min"), (0, u "(DD)D"), (9, u "()Z"), (9, u "(D)V"), (7, u "pass"), (0, u "isPassed")] 6

def k2c0 : Code := { maxStack := 3, maxLocals := 3, code := prog_33_method_1_code, exceptionTable := #[], attributes := #[] }
def k2m0 : Method := { name := "<init>", desc := "(D)V", sig := { parameters := [.double], returnType := none }, accessFlags := 0, code := some k2c0 }
def k2c1 : Code := { maxStack := 5, maxLocals := 3, code := prog_33_method_4_code, exceptionTable := #[], attributes := #[] }
def k2m1 : Method := { name := "pass", desc := "(D)V", sig := { parameters := [.double], returnType := none }, accessFlags := 0, code := some k2c1 }
def k2c2 : Code := { maxStack := 4, maxLocals := 1, code := prog_33_method_5_code, exceptionTable := #[], attributes := #[] }
def k2m2 : Method := { name := "isPassed", desc := "()Z", sig := { parameters := [], returnType := some .boolean }, accessFlags := 0, code := some k2c2 }
/-- com/example/stairsim/stairsim/simulation/CueMark -/
def k2 : Class := { plain "com/example/stairsim/stairsim/simulation/CueMark" (some 0) with
  accessFlags := 32
  interfaces := #[]
  cf := some (fileOf pool2 11 #[] #[{ accessFlags := 0, nameIndex := 5, descriptorIndex := 58, attributes := #[] }, { accessFlags := 0, nameIndex := 66, descriptorIndex := 58, attributes := #[] }, { accessFlags := 0, nameIndex := 67, descriptorIndex := 48, attributes := #[] }] 32 2 #[] #[{ accessFlags := 18, nameIndex := 26, descriptorIndex := 23, attributes := #[] }, { accessFlags := 18, nameIndex := 14, descriptorIndex := 15, attributes := #[] }, { accessFlags := 2, nameIndex := 22, descriptorIndex := 23, attributes := #[] }])
  fields := #[{ name := "positionM", type := .double, accessFlags := 18, slot := 0, constantValue := 0 }, { name := "held", type := (.object "java/util/List"), accessFlags := 18, slot := 1, constantValue := 0 }, { name := "passedS", type := .double, accessFlags := 2, slot := 2, constantValue := 0 }]
  methods := #[k2m0, k2m1, k2m2]
  instanceTypes := #[.double, (.object "java/util/List"), .double]
  staticTypes := #[]
  resolved := Array.replicate 74 none
  statics := none }

def pool3 : Array CpInfo := pool [(8, .class_ 10), (1, u "java/lang/Iterable"), (24, .class_ 36), (0, u "java/lang/Object")] 25

/-- java/lang/Iterable -/
def k3 : Class := { plain "java/lang/Iterable" (some 0) with
  accessFlags := 1537
  interfaces := #[]
  cf := some (fileOf pool3 8 #[] #[] 1537 35 #[] #[])
  fields := #[]
  methods := #[]
  instanceTypes := #[]
  staticTypes := #[]
  resolved := Array.replicate 62 none
  statics := none }

def pool4 : Array CpInfo := pool [(10, .class_ 12), (1, u "java/util/Collection"), (47, .class_ 61), (0, u "java/lang/Object"), (0, .class_ 63), (0, u "java/lang/Iterable")] 51

/-- java/util/Collection -/
def k4 : Class := { plain "java/util/Collection" (some 0) with
  accessFlags := 1537
  interfaces := #[3]
  cf := some (fileOf pool4 10 #[] #[] 1537 60 #[62] #[])
  fields := #[]
  methods := #[]
  instanceTypes := #[]
  staticTypes := #[]
  resolved := Array.replicate 115 none
  statics := none }

def pool5 : Array CpInfo := pool [(1, .methodref 2 3), (0, .class_ 4), (0, .nameAndType 5 6), (0, u "java/lang/Object"), (0, u "<init>"), (0, u "()V"), (1, .class_ 10), (1, u "java/util/AbstractCollection"), (66, .class_ 78), (0, u "java/util/Collection")] 81

def k5c0 : Code := { maxStack := 1, maxLocals := 1, code := jdk_22_method_1_code, exceptionTable := #[], attributes := #[] }
def k5m0 : Method := { name := "<init>", desc := "()V", sig := { parameters := [], returnType := none }, accessFlags := 4, code := some k5c0 }
/-- java/util/AbstractCollection -/
def k5 : Class := { plain "java/util/AbstractCollection" (some 0) with
  accessFlags := 1057
  interfaces := #[4]
  cf := some (fileOf pool5 8 #[] #[{ accessFlags := 4, nameIndex := 5, descriptorIndex := 6, attributes := #[] }] 1057 2 #[77] #[])
  fields := #[]
  methods := #[k5m0]
  instanceTypes := #[]
  staticTypes := #[]
  resolved := Array.replicate 160 none
  statics := none }

def pool6 : Array CpInfo := pool [(8, .class_ 10), (1, u "java/util/SequencedCollection"), (15, .class_ 27), (0, u "java/lang/Object"), (0, .class_ 29), (0, u "java/util/Collection")] 27

/-- java/util/SequencedCollection -/
def k6 : Class := { plain "java/util/SequencedCollection" (some 0) with
  accessFlags := 1537
  interfaces := #[4]
  cf := some (fileOf pool6 8 #[] #[] 1537 26 #[28] #[])
  fields := #[]
  methods := #[]
  instanceTypes := #[]
  staticTypes := #[]
  resolved := Array.replicate 57 none
  statics := none }

def pool7 : Array CpInfo := pool [(8, .class_ 10), (1, u "java/util/List"), (92, .class_ 104), (0, u "java/lang/Object"), (15, .class_ 121), (0, u "java/util/SequencedCollection")] 129

/-- java/util/List -/
def k7 : Class := { plain "java/util/List" (some 0) with
  accessFlags := 1537
  interfaces := #[6]
  cf := some (fileOf pool7 8 #[] #[] 1537 103 #[120] #[])
  fields := #[]
  methods := #[]
  instanceTypes := #[]
  staticTypes := #[]
  resolved := Array.replicate 251 none
  statics := none }

def pool8 : Array CpInfo := pool [(1, .methodref 2 3), (0, .class_ 4), (0, .nameAndType 5 6), (0, u "java/util/AbstractCollection"), (0, u "<init>"), (0, u "()V"), (0, .fieldref 8 9), (0, .class_ 10), (0, .nameAndType 11 12), (0, u "java/util/AbstractList"), (0, u "modCount"), (0, u "I"), (64, .class_ 78), (0, u "java/util/AbstractList$Itr"), (3, .class_ 83), (0, u "java/util/AbstractList$ListItr"), (9, .class_ 94), (0, u "java/util/AbstractList$RandomAccessSubList"), (3, .class_ 99), (0, u "java/util/AbstractList$SubList"), (33, .class_ 134), (0, u "java/util/List"), (73, .class_ 209), (0, u "java/util/AbstractList$SubList$1"), (0, .class_ 211), (0, u "java/util/AbstractList$RandomAccessSpliterator")] 6

def k8c0 : Code := { maxStack := 2, maxLocals := 1, code := jdk_39_method_1_code, exceptionTable := #[], attributes := #[] }
def k8m0 : Method := { name := "<init>", desc := "()V", sig := { parameters := [], returnType := none }, accessFlags := 4, code := some k8c0 }
/-- java/util/AbstractList -/
def k8 : Class := { plain "java/util/AbstractList" (some 5) with
  accessFlags := 1057
  interfaces := #[7]
  cf := some (fileOf pool8 8 #[.nestMembers #[93, 98, 208, 210, 82, 77]] #[{ accessFlags := 4, nameIndex := 5, descriptorIndex := 6, attributes := #[] }] 1057 2 #[133] #[{ accessFlags := 132, nameIndex := 11, descriptorIndex := 12, attributes := #[] }])
  fields := #[{ name := "modCount", type := .int, accessFlags := 132, slot := 0, constantValue := 0 }]
  methods := #[k8m0]
  instanceTypes := #[.int]
  staticTypes := #[]
  resolved := Array.replicate 218 none
  statics := none }

def pool9 : Array CpInfo := pool [(1, .class_ 2), (0, u "java/util/RandomAccess"), (0, .class_ 4), (0, u "java/lang/Object")] 2

/-- java/util/RandomAccess -/
def k9 : Class := { plain "java/util/RandomAccess" (some 0) with
  accessFlags := 1537
  interfaces := #[]
  cf := some (fileOf pool9 1 #[] #[] 1537 3 #[] #[])
  fields := #[]
  methods := #[]
  instanceTypes := #[]
  staticTypes := #[]
  resolved := Array.replicate 7 none
  statics := none }

def pool10 : Array CpInfo := pool [(1, .class_ 2), (0, u "java/lang/Cloneable"), (0, .class_ 4), (0, u "java/lang/Object")] 2

/-- java/lang/Cloneable -/
def k10 : Class := { plain "java/lang/Cloneable" (some 0) with
  accessFlags := 1537
  interfaces := #[]
  cf := some (fileOf pool10 1 #[] #[] 1537 3 #[] #[])
  fields := #[]
  methods := #[]
  instanceTypes := #[]
  staticTypes := #[]
  resolved := Array.replicate 7 none
  statics := none }

def pool11 : Array CpInfo := pool [(1, .class_ 2), (0, u "java/io/Serializable"), (0, .class_ 4), (0, u "java/lang/Object")] 2

/-- java/io/Serializable -/
def k11 : Class := { plain "java/io/Serializable" (some 0) with
  accessFlags := 1537
  interfaces := #[]
  cf := some (fileOf pool11 1 #[] #[] 1537 3 #[] #[])
  fields := #[]
  methods := #[]
  instanceTypes := #[]
  staticTypes := #[]
  resolved := Array.replicate 7 none
  statics := none }

def pool12 : Array CpInfo := pool [(1, .methodref 2 3), (0, .class_ 4), (0, .nameAndType 5 6), (0, u "java/util/AbstractList"), (0, u "<init>"), (0, u "()V"), (2, .fieldref 10 11), (0, .class_ 12), (0, .nameAndType 13 14), (0, u "java/util/ArrayList"), (0, u "elementData"), (0, u "[Ljava/lang/Object;"), (2, u "EMPTY_ELEMENTDATA"), (21, .fieldref 10 40), (0, .nameAndType 41 14), (0, u "DEFAULTCAPACITY_EMPTY_ELEMENTDATA"), (8, u "size"), (0, u "I"), (96, .class_ 149), (0, u "java/util/List"), (112, .class_ 263), (0, u "java/util/ArrayList$ListItr"), (3, .class_ 268), (0, u "java/util/ArrayList$Itr"), (7, .class_ 277), (0, u "java/util/ArrayList$SubList"), (12, .class_ 291), (0, u "java/util/ArrayList$ArrayListSpliterator"), (37, .class_ 330), (0, u "java/util/RandomAccess"), (0, .class_ 332), (0, u "java/lang/Cloneable"), (0, .class_ 334), (0, u "java/io/Serializable"), (0, u "serialVersionUID"), (0, u "J"), (3, u "DEFAULT_CAPACITY"), (159, .class_ 501), (0, u "java/util/ArrayList$SubList$2"), (0, .class_ 503), (0, u "java/util/ArrayList$SubList$1")] 5

def k12c0 : Code := { maxStack := 2, maxLocals := 1, code := jdk_38_method_2_code, exceptionTable := #[], attributes := #[] }
def k12m0 : Method := { name := "<init>", desc := "()V", sig := { parameters := [], returnType := none }, accessFlags := 1, code := some k12c0 }
/-- java/util/ArrayList -/
def k12 : Class := { plain "java/util/ArrayList" (some 8) with
  accessFlags := 33
  interfaces := #[7, 9, 10, 11]
  cf := some (fileOf pool12 10 #[.nestMembers #[290, 276, 500, 502, 262, 267]] #[{ accessFlags := 1, nameIndex := 5, descriptorIndex := 6, attributes := #[] }] 33 2 #[148, 329, 331, 333] #[{ accessFlags := 26, nameIndex := 335, descriptorIndex := 336, attributes := #[] }, { accessFlags := 26, nameIndex := 340, descriptorIndex := 51, attributes := #[] }, { accessFlags := 26, nameIndex := 17, descriptorIndex := 14, attributes := #[] }, { accessFlags := 26, nameIndex := 41, descriptorIndex := 14, attributes := #[] }, { accessFlags := 128, nameIndex := 13, descriptorIndex := 14, attributes := #[] }, { accessFlags := 2, nameIndex := 50, descriptorIndex := 51, attributes := #[] }])
  fields := #[{ name := "serialVersionUID", type := .long, accessFlags := 26, slot := 0, constantValue := 0 }, { name := "DEFAULT_CAPACITY", type := .int, accessFlags := 26, slot := 1, constantValue := 0 }, { name := "EMPTY_ELEMENTDATA", type := (.array (.object "java/lang/Object")), accessFlags := 26, slot := 2, constantValue := 0 }, { name := "DEFAULTCAPACITY_EMPTY_ELEMENTDATA", type := (.array (.object "java/lang/Object")), accessFlags := 26, slot := 3, constantValue := 0 }, { name := "elementData", type := (.array (.object "java/lang/Object")), accessFlags := 128, slot := 1, constantValue := 0 }, { name := "size", type := .int, accessFlags := 2, slot := 2, constantValue := 0 }]
  methods := #[k12m0]
  instanceTypes := #[.int, (.array (.object "java/lang/Object")), .int]
  staticTypes := #[.long, .int, (.array (.object "java/lang/Object")), (.array (.object "java/lang/Object"))]
  resolved := Array.replicate 509 none
  statics := some 0 }

def pool13 : Array CpInfo := pool [(1, .class_ 2), (0, u "java/lang/Math"), (1, .class_ 6), (1, u "java/lang/Object"), (0, u "<init>"), (0, u "()V"), (43, u "(DD)D"), (45, .class_ 100), (1, u "java/lang/Math$RandomNumberGeneratorHolder"), (71, u "negativeZeroFloatBits"), (0, u "J"), (2, u "negativeZeroDoubleBits"), (24, u "min"), (43, u "$assertionsDisabled"), (0, u "Z"), (91, u "twoToTheDoubleScaleDown"), (0, u "D"), (4, u "twoToTheDoubleScaleUp"), (9, u "E"), (3, u "PI"), (2, u "TAU"), (2, u "DEGREES_TO_RADIANS"), (0, u "RADIANS_TO_DEGREES")] 94

def k13m0 : Method := { name := "<init>", desc := "()V", sig := { parameters := [], returnType := none }, accessFlags := 2, code := none }
def k13c1 : Code := { maxStack := 4, maxLocals := 4, code := jdk_29_method_72_code, exceptionTable := #[], attributes := #[] }
def k13m1 : Method := { name := "min", desc := "(DD)D", sig := { parameters := [.double, .double], returnType := some .double }, accessFlags := 9, code := some k13c1 }
/-- java/lang/Math -/
def k13 : Class := { plain "java/lang/Math" (some 0) with
  accessFlags := 49
  interfaces := #[]
  cf := some (fileOf pool13 1 #[.nestMembers #[98]] #[{ accessFlags := 2, nameIndex := 7, descriptorIndex := 8, attributes := #[] }, { accessFlags := 9, nameIndex := 201, descriptorIndex := 52, attributes := #[] }] 49 4 #[] #[{ accessFlags := 25, nameIndex := 354, descriptorIndex := 339, attributes := #[] }, { accessFlags := 25, nameIndex := 358, descriptorIndex := 339, attributes := #[] }, { accessFlags := 25, nameIndex := 361, descriptorIndex := 339, attributes := #[] }, { accessFlags := 26, nameIndex := 364, descriptorIndex := 339, attributes := #[] }, { accessFlags := 26, nameIndex := 365, descriptorIndex := 339, attributes := #[] }, { accessFlags := 26, nameIndex := 172, descriptorIndex := 173, attributes := #[] }, { accessFlags := 26, nameIndex := 176, descriptorIndex := 173, attributes := #[] }, { accessFlags := 8, nameIndex := 344, descriptorIndex := 339, attributes := #[] }, { accessFlags := 8, nameIndex := 338, descriptorIndex := 339, attributes := #[] }, { accessFlags := 4120, nameIndex := 245, descriptorIndex := 246, attributes := #[] }])
  fields := #[{ name := "E", type := .double, accessFlags := 25, slot := 0, constantValue := 0 }, { name := "PI", type := .double, accessFlags := 25, slot := 1, constantValue := 0 }, { name := "TAU", type := .double, accessFlags := 25, slot := 2, constantValue := 0 }, { name := "DEGREES_TO_RADIANS", type := .double, accessFlags := 26, slot := 3, constantValue := 0 }, { name := "RADIANS_TO_DEGREES", type := .double, accessFlags := 26, slot := 4, constantValue := 0 }, { name := "negativeZeroFloatBits", type := .long, accessFlags := 26, slot := 5, constantValue := 0 }, { name := "negativeZeroDoubleBits", type := .long, accessFlags := 26, slot := 6, constantValue := 0 }, { name := "twoToTheDoubleScaleUp", type := .double, accessFlags := 8, slot := 7, constantValue := 0 }, { name := "twoToTheDoubleScaleDown", type := .double, accessFlags := 8, slot := 8, constantValue := 0 }, { name := "$assertionsDisabled", type := .boolean, accessFlags := 4120, slot := 9, constantValue := 0 }]
  methods := #[k13m0, k13m1]
  instanceTypes := #[]
  staticTypes := #[.double, .double, .double, .double, .double, .long, .long, .double, .double, .boolean]
  resolved := Array.replicate 460 none
  statics := none }

/-- the primitive byte -/
def k14 : Class := { plain "byte" none with kind := .primitive 'B', accessFlags := 0x411 }
/-- [B -/
def k15 : Class := { plain "[B" (some 0) with kind := .array 14 .byte, interfaces := #[10, 11], accessFlags := 1041 }

/-- the primitive int -/
def k16 : Class := { plain "int" none with kind := .primitive 'I', accessFlags := 0x411 }
/-- [I -/
def k17 : Class := { plain "[I" (some 0) with kind := .array 16 .int, interfaces := #[10, 11], accessFlags := 1041 }

/-- [Ljava/lang/Object; -/
def k18 : Class := { plain "[Ljava/lang/Object;" (some 0) with kind := .array 0 (.object "java/lang/Object"), interfaces := #[10, 11], accessFlags := 1041 }

def heap : Heap := #[{ cls := 12, slots := #[.long 0, .int 0, .ref 1, .ref 2], vm := .statics 12 },
  { cls := 18, slots := #[], vm := .none },
  { cls := 18, slots := #[], vm := .none }]
def classes : Array Class := #[k0, k1, k2, k3, k4, k5, k6, k7, k8, k9, k10, k11, k12, k13, k14, k15, k16, k17, k18]
def interned : List (Array UInt16 × Addr) := []
def slotsUsed : Nat := 4
def theMethod : MethodId := ⟨1, 1⟩
def args0 : Array Value := #[.int 5, .int 5, .int 5, .int 5, .int 5]
def aboutOver (below : List Frame) : State where
  vm := { classes := classes, interned := interned.toArray }
  heap := heap
  slotsUsed := slotsUsed
  threads := #[{ frames := .invoking theMethod args0 :: below }]
def below0 : List Frame := [.native { method := ⟨0, 0⟩, args := #[] }]
def about1 : State := aboutOver below0
def p0 : Program := .bare "" "" ""
def e0 : Env := launch0.env 0 0 0
theorem w_frames : about1.frames = Frame.invoking theMethod args0 :: below0 := rfl
set_option maxRecDepth 65536 in
theorem w_args : argsFit about1.vm theMethod args0 = true := by decide +kernel
set_option maxRecDepth 65536 in
theorem w_heap : heapFits about1 = true := by decide +kernel
set_option maxRecDepth 65536 in
theorem w_runnable : about1.curStatus? = some .runnable := by decide +kernel
set_option maxRecDepth 65536 in
theorem w_alone : about1.alone = true := by decide +kernel
set_option maxRecDepth 65536 in
theorem w_named : about1.methodNamed? x = some theMethod := by decide +kernel
set_option maxRecDepth 65536 in
theorem w_hears : about1.hears theMethod below0 = true := by decide +kernel
set_option maxRecDepth 65536 in
theorem w_ripe : about1.ripe theMethod args0 below0 = true := by decide +kernel
theorem w_running : about1.status = .running := rfl
set_option maxRecDepth 65536 in
theorem w_room : about1.hasRoom e0.platform room_1 = true :=
  launch0.hasRoom_least _ room_1 (by decide +kernel) (by decide +kernel) (by decide +kernel) (by decide +kernel) (by decide +kernel) (by decide +kernel)
theorem allAtoms_all (ts : List Jvm.Cond) (a : Array Jvm.Value) (st : Jvm.State) : (allAtoms ts).before a st = ts.all (fun c => c.before a st) := by
  induction ts with
  | nil => rfl
  | cons c t ih =>
    show (Jvm.Cond.and c (allAtoms t)).before a st = _
    rw [Jvm.Cond.before_and, ih, List.all_cons]
def words1 : List Jvm.Cond := Jvm.Cond.code x code maxLocals ret :: tables_1
/-- a 'code' word, met by the world's own term for the bytes: nothing is compared byte by byte -/
theorem code_word {y : MethodName} {bytes : ByteArray} {mx : Nat} {rt : Option FieldType} {a : Array Value} {s : State} {m : MethodId} {meth : Method} {c : Code} (h1 : s.methodNamed? y = some m) (h2 : s.vm.method? m = some meth) (h3 : meth.code = some c) (h4 : c.code = bytes)
    (h5 : (c.maxLocals == mx && c.exceptionTable.isEmpty && decide (c.maxStack ≤ mostOperands) && decide (meth.sig.returnType = rt) && !meth.locks && decide (parseMethodDescriptor y.desc = some meth.sig)) = true) : (Jvm.Cond.code y bytes mx rt).before a s = true := by
  simp only [Bool.and_eq_true, beq_iff_eq, Bool.not_eq_true', decide_eq_true_eq] at h5
  obtain ⟨⟨⟨⟨⟨g1, g2⟩, g3⟩, g4⟩, g5⟩, g6⟩ := h5
  simp [Cond.before, Cond.holds, Cond.value, h1, h2, h3, h4, g1, g2, g3, g4, g5, g6]
def isCode : Jvm.Cond → Bool
  | .code _ _ _ _ => true
  | _ => false
theorem all_split {L : List Jvm.Cond} {P : Jvm.Cond → Bool} (h1 : L.all (fun c => isCode c || P c) = true) (h2 : ∀ c ∈ L.filter isCode, P c = true) : L.all P = true := by
  refine List.all_eq_true.mpr fun c hc => ?_
  have h := List.all_eq_true.mp h1 c hc
  rcases Bool.eq_false_or_eq_true (isCode c) with hi | hi
  · exact h2 c (List.mem_filter.mpr ⟨hc, hi⟩)
  · simpa [hi] using h
set_option maxRecDepth 65536 in
theorem w_c0 : (Jvm.Cond.code x code maxLocals ret).before args0 about1 = true := code_word (m := ⟨1, 1⟩) (meth := k1m1) (c := k1c1) (by decide +kernel) rfl rfl rfl (by decide +kernel)
set_option maxRecDepth 65536 in
theorem w_c1 : (Jvm.Cond.code ({ cls := "com/example/stairsim/stairsim/simulation/CueMark", name := "<init>", desc := "(D)V" } : Jvm.MethodName) prog_33_method_1_code (3 : Nat) (Option.none : Option Jvm.ClassFile.FieldType)).before args0 about1 = true := code_word (m := ⟨2, 0⟩) (meth := k2m0) (c := k2c0) (by decide +kernel) rfl rfl rfl (by decide +kernel)
set_option maxRecDepth 65536 in
theorem w_c2 : (Jvm.Cond.code ({ cls := "java/lang/Object", name := "<init>", desc := "()V" } : Jvm.MethodName) object_method_1_code (1 : Nat) (Option.none : Option Jvm.ClassFile.FieldType)).before args0 about1 = true := code_word (m := ⟨0, 0⟩) (meth := k0m0) (c := k0c0) (by decide +kernel) rfl rfl rfl (by decide +kernel)
set_option maxRecDepth 65536 in
theorem w_c3 : (Jvm.Cond.code ({ cls := "java/util/ArrayList", name := "<init>", desc := "()V" } : Jvm.MethodName) jdk_38_method_2_code (1 : Nat) (Option.none : Option Jvm.ClassFile.FieldType)).before args0 about1 = true := code_word (m := ⟨12, 0⟩) (meth := k12m0) (c := k12c0) (by decide +kernel) rfl rfl rfl (by decide +kernel)
set_option maxRecDepth 65536 in
theorem w_c4 : (Jvm.Cond.code ({ cls := "java/util/AbstractList", name := "<init>", desc := "()V" } : Jvm.MethodName) jdk_39_method_1_code (1 : Nat) (Option.none : Option Jvm.ClassFile.FieldType)).before args0 about1 = true := code_word (m := ⟨8, 0⟩) (meth := k8m0) (c := k8c0) (by decide +kernel) rfl rfl rfl (by decide +kernel)
set_option maxRecDepth 65536 in
theorem w_c5 : (Jvm.Cond.code ({ cls := "java/util/AbstractCollection", name := "<init>", desc := "()V" } : Jvm.MethodName) jdk_22_method_1_code (1 : Nat) (Option.none : Option Jvm.ClassFile.FieldType)).before args0 about1 = true := code_word (m := ⟨5, 0⟩) (meth := k5m0) (c := k5c0) (by decide +kernel) rfl rfl rfl (by decide +kernel)
set_option maxRecDepth 65536 in
theorem w_c6 : (Jvm.Cond.code ({ cls := "com/example/stairsim/stairsim/simulation/CueMark", name := "isPassed", desc := "()Z" } : Jvm.MethodName) prog_33_method_5_code (1 : Nat) (Option.some Jvm.ClassFile.FieldType.boolean)).before args0 about1 = true := code_word (m := ⟨2, 2⟩) (meth := k2m2) (c := k2c2) (by decide +kernel) rfl rfl rfl (by decide +kernel)
set_option maxRecDepth 65536 in
theorem w_c7 : (Jvm.Cond.code ({ cls := "com/example/stairsim/stairsim/simulation/CueMark", name := "pass", desc := "(D)V" } : Jvm.MethodName) prog_33_method_4_code (3 : Nat) (Option.none : Option Jvm.ClassFile.FieldType)).before args0 about1 = true := code_word (m := ⟨2, 1⟩) (meth := k2m1) (c := k2c1) (by decide +kernel) rfl rfl rfl (by decide +kernel)
set_option maxRecDepth 65536 in
theorem w_c8 : (Jvm.Cond.code ({ cls := "java/lang/Math", name := "min", desc := "(DD)D" } : Jvm.MethodName) jdk_29_method_72_code (4 : Nat) (Option.some Jvm.ClassFile.FieldType.double)).before args0 about1 = true := code_word (m := ⟨13, 1⟩) (meth := k13m1) (c := k13c1) (by decide +kernel) rfl rfl rfl (by decide +kernel)
def codes1 : List Jvm.Cond := [Jvm.Cond.code x code maxLocals ret, Jvm.Cond.code ({ cls := "com/example/stairsim/stairsim/simulation/CueMark", name := "<init>", desc := "(D)V" } : Jvm.MethodName) prog_33_method_1_code (3 : Nat) (Option.none : Option Jvm.ClassFile.FieldType), Jvm.Cond.code ({ cls := "java/lang/Object", name := "<init>", desc := "()V" } : Jvm.MethodName) object_method_1_code (1 : Nat) (Option.none : Option Jvm.ClassFile.FieldType), Jvm.Cond.code ({ cls := "java/util/ArrayList", name := "<init>", desc := "()V" } : Jvm.MethodName) jdk_38_method_2_code (1 : Nat) (Option.none : Option Jvm.ClassFile.FieldType), Jvm.Cond.code ({ cls := "java/util/AbstractList", name := "<init>", desc := "()V" } : Jvm.MethodName) jdk_39_method_1_code (1 : Nat) (Option.none : Option Jvm.ClassFile.FieldType), Jvm.Cond.code ({ cls := "java/util/AbstractCollection", name := "<init>", desc := "()V" } : Jvm.MethodName) jdk_22_method_1_code (1 : Nat) (Option.none : Option Jvm.ClassFile.FieldType), Jvm.Cond.code ({ cls := "com/example/stairsim/stairsim/simulation/CueMark", name := "isPassed", desc := "()Z" } : Jvm.MethodName) prog_33_method_5_code (1 : Nat) (Option.some Jvm.ClassFile.FieldType.boolean), Jvm.Cond.code ({ cls := "com/example/stairsim/stairsim/simulation/CueMark", name := "pass", desc := "(D)V" } : Jvm.MethodName) prog_33_method_4_code (3 : Nat) (Option.none : Option Jvm.ClassFile.FieldType), Jvm.Cond.code ({ cls := "java/lang/Math", name := "min", desc := "(DD)D" } : Jvm.MethodName) jdk_29_method_72_code (4 : Nat) (Option.some Jvm.ClassFile.FieldType.double)]
set_option maxRecDepth 65536 in
theorem codes_eq : words1.filter isCode = codes1 := rfl
theorem w_codes : ∀ c ∈ words1.filter isCode, c.before args0 about1 = true := by
  rw [codes_eq]
  intro c hc
  simp only [codes1, List.mem_cons, List.not_mem_nil, or_false] at hc
  rcases hc with rfl | rfl | rfl | rfl | rfl | rfl | rfl | rfl | rfl
  · exact w_c0
  · exact w_c1
  · exact w_c2
  · exact w_c3
  · exact w_c4
  · exact w_c5
  · exact w_c6
  · exact w_c7
  · exact w_c8
set_option maxRecDepth 65536 in
theorem w_t1 : (words1.take 24).all (fun c => isCode c || c.before args0 about1) = true := by decide +kernel
set_option maxRecDepth 65536 in
theorem w_t2 : ((words1.drop 24).take 24).all (fun c => isCode c || c.before args0 about1) = true := by decide +kernel
set_option maxRecDepth 65536 in
theorem w_t3 : ((words1.drop 24).drop 24).all (fun c => isCode c || c.before args0 about1) = true := by decide +kernel
theorem w_tables : (allAtoms (Jvm.Cond.code x code maxLocals ret :: tables_1)).before args0 about1 = true := by
  rw [allAtoms_all]
  show words1.all (fun c => c.before args0 about1) = true
  refine all_split ?_ w_codes
  rw [← List.take_append_drop 24 words1, List.all_append, w_t1, ← List.take_append_drop 24 (words1.drop 24), List.all_append, w_t2, w_t3]
  rfl
set_option maxRecDepth 65536 in
theorem w_rest : rest_1_c.before args0 about1 = true := by decide +kernel
set_option maxRecDepth 65536 in
theorem w_case : (Jvm.Cond.and given_1 narrow_1).before args0 about1 = true := by decide +kernel
theorem w_applies : (headSpec (Jvm.Cond.code x code maxLocals ret :: tables_1) room_1).applies x e0.platform about1 = true :=
  (Spec.applies_iff w_frames).mpr ⟨w_running, w_runnable, w_alone, w_named, w_hears, w_ripe, w_room, w_tables⟩
theorem atStart : AtStart classFile x code maxLocals ret World_1 tables_1 room_1 Calls_1 rest_1 Pre_1 launch0 p0 e0 about1 theMethod args0 below0 :=
  ⟨lists_1, trivial, launch0.admits_env _ _ _, launch0.least_env, fairChoices_fair.cas, fairChoices_fair.clock, w_frames, w_args, w_heap, w_applies, trivial, w_rest, w_case⟩
end start1
theorem witness_1 : WitnessClaimed_1 := ⟨start1.p0, start1.e0, start1.about1, start1.theMethod, start1.args0, start1.below0, start1.atStart⟩
end Jvm.Pilot.@@N@@
