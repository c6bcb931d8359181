import JvmDerived
import JvmDerived.Pilot.@@N@@Statement
import JvmDerived.Pilot.@@N@@Code
set_option linter.unusedVariables false
set_option linter.unusedSimpArgs false
namespace Jvm.Pilot.@@N@@
open Jvm Jvm.ClassFile Sem Op Lib Jvm.Free Jvm.Stand Jvm.LawKit Jvm.RoadKit Bundle Jvm.Pilot.@@N@@.Jvm.D
section OwnRun
theorem own_natne {a b : Nat} (q : a ≠ b) : a ≠ b := q
theorem own_natlt {a b : Nat} (q : a < b) : a < b := q
variable {Z : State} {h h' h'' : Heap} {a b : Addr} {ty : FieldType} {n : Nat} {c : Cell}
/-- an array of ty with n places -/
def OwnL (Z : State) (h : Heap) (a : Addr) (ty : FieldType) (n : Nat) : Prop := ∃ c : Cell, Arr Z h a c ty ∧ c.slots.size = n ∧ True
theorem own_in {j : Int32} (hj : ¬ j < 0 ∧ j.toNatClampNeg < n) (S : c.slots.size = n) : ¬ (j < 0 ∨ c.slots.size ≤ j.toNatClampNeg) := fun q => q.elim hj.1 fun q => by rw [S] at q; exact absurd hj.2 (Nat.not_lt.mpr q)
theorem OwnL.lt (F : OwnL Z h a ty n) : a < h.size := by obtain ⟨c, A, -⟩ := F; exact A.lt
theorem OwnL.ext (E : Ext h h') (F : OwnL Z h a ty n) : OwnL Z h' a ty n := by obtain ⟨c, A, r⟩ := F; exact ⟨c, A.ext E, r⟩
theorem OwnL.keep {ws : List Addr} (K : Keep h h' ws) (F : OwnL Z h a ty n) : OwnL Z h' a ty n := by
  obtain ⟨c, ⟨a1, ⟨a2, a3⟩, a4⟩, s, -⟩ := F
  obtain ⟨c', k1, k2, k3, k4⟩ := K.2.2 a c a1
  exact ⟨c', ⟨k1, ⟨by rw [k3]; exact a2, by rw [k2]; exact a3⟩, by rw [k3]; exact a4⟩, k4.trans s, trivial⟩
theorem OwnL.wr {sl : Nat} {v : Value} (W : Wr h h' b sl v) (F : OwnL Z h a ty n) : OwnL Z h' a ty n := F.keep (Keep.of_wr W)
theorem OwnL.new {k : ClassId} {z : Int32} (A : Arr Z h a (newA k ty z) ty) : OwnL Z h a ty z.toNatClampNeg := ⟨_, A, sz_new _ _ _, trivial⟩
theorem own_ne {C : String} {k : Nat} {a0 : Array Value} (E : Exa Z h a C) (w : (Cond.instantiable C k).before a0 Z = true) (F : OwnL Z h b ty n) : a ≠ b := by obtain ⟨c, A, -⟩ := F; exact ne_arr E w A
def PR : String := "com/example/bucket/bucket/ingest/PointRun"
def PT : String := "com/example/bucket/bucket/lineformat/Point"
def SR : String := "com/example/bucket/bucket/lineformat/Series"
/-- a PointRun of capacity n that says it holds z points -/
def OwnP (Z : State) (h : Heap) (a sa ta va ea : Addr) (n : Nat) (z : Int32) : Prop :=
  Exa Z h a "com/example/bucket/bucket/ingest/PointRun" ∧ Fld Z h a "com/example/bucket/bucket/ingest/PointRun" "series" "[Lcom/example/bucket/bucket/lineformat/Series;" (.ref sa) ∧ Fld Z h a "com/example/bucket/bucket/ingest/PointRun" "times" "[J" (.ref ta) ∧
    Fld Z h a "com/example/bucket/bucket/ingest/PointRun" "values" "[D" (.ref va) ∧ Fld Z h a "com/example/bucket/bucket/ingest/PointRun" "ends" "[J" (.ref ea) ∧ Fld Z h a "com/example/bucket/bucket/ingest/PointRun" "size" "I" (.int z) ∧ (∃ mg, Fld Z h a "com/example/bucket/bucket/ingest/PointRun" "merged" "I" (.int mg)) ∧
    OwnL Z h sa (.object "com/example/bucket/bucket/lineformat/Series") n ∧ OwnL Z h ta .long n ∧ OwnL Z h va .double n ∧ OwnL Z h ea .long n
/-- a Point of no series -/
def OwnQ (Z : State) (h : Heap) (a : Addr) (q : Int64) (x : UInt64) : Prop :=
  Exa Z h a "com/example/bucket/bucket/lineformat/Point" ∧ Fld Z h a "com/example/bucket/bucket/lineformat/Point" "series" "Lcom/example/bucket/bucket/lineformat/Series;" .null ∧ Fld Z h a "com/example/bucket/bucket/lineformat/Point" "time" "J" (.long q) ∧ Fld Z h a "com/example/bucket/bucket/lineformat/Point" "value" "D" (.double x)
variable {sa ta va ea : Addr} {z : Int32} {q : Int64} {x : UInt64}
theorem OwnP.ext (P : OwnP Z h a sa ta va ea n z) (E : Ext h h') : OwnP Z h' a sa ta va ea n z := by
  obtain ⟨p1, p2, p3, p4, p5, p6, ⟨mg, p7⟩, p8, p9, p10, p11⟩ := P
  exact ⟨p1.ext E, p2.ext E, p3.ext E, p4.ext E, p5.ext E, p6.ext E, ⟨mg, p7.ext E⟩, p8.ext E, p9.ext E, p10.ext E, p11.ext E⟩
theorem OwnP.keep {ws : List Addr} (P : OwnP Z h a sa ta va ea n z) (K : Keep h h' ws) (w : a ∉ ws) : OwnP Z h' a sa ta va ea n z := by
  obtain ⟨p1, p2, p3, p4, p5, p6, ⟨mg, p7⟩, p8, p9, p10, p11⟩ := P
  exact ⟨p1.keep K, p2.keep K w, p3.keep K w, p4.keep K w, p5.keep K w, p6.keep K w, ⟨mg, p7.keep K w⟩, p8.keep K, p9.keep K, p10.keep K, p11.keep K⟩
theorem OwnQ.keep {ws : List Addr} (P : OwnQ Z h a q x) (K : Keep h h' ws) (w : a ∉ ws) : OwnQ Z h' a q x := by
  obtain ⟨p1, p2, p3, p4⟩ := P
  exact ⟨p1.keep K, p2.keep K w, p3.keep K w, p4.keep K w⟩
theorem OwnQ.wr {sl : Nat} {v : Value} (P : OwnQ Z h a q x) (W : Wr h h' b sl v) (w : a ≠ b) : OwnQ Z h' a q x := P.keep (Keep.of_wr W) fun y => w (List.mem_singleton.mp y)
theorem OwnP.lt (P : OwnP Z h a sa ta va ea n z) : a < h.size ∧ sa < h.size ∧ ta < h.size ∧ va < h.size ∧ ea < h.size := by
  obtain ⟨p1, p2, p3, p4, p5, p6, ⟨mg, p7⟩, p8, p9, p10, p11⟩ := P
  exact ⟨p1.lt, p8.lt, p9.lt, p10.lt, p11.lt⟩
theorem own_pq_ne {k : Nat} {a0 : Array Value} (w : (Cond.instantiable "com/example/bucket/bucket/lineformat/Point" k).before a0 Z = true) (P : OwnP Z h a sa ta va ea n z) (Q : OwnQ Z h b q x) : b ∉ [a, sa, ta, va, ea] := by
  obtain ⟨p1, p2, p3, p4, p5, p6, ⟨mg, p7⟩, p8, p9, p10, p11⟩ := P
  have n1 : b ≠ a := ne_exa Q.1 p1 (by decide)
  have n2 := own_ne Q.1 w p8
  have n3 := own_ne Q.1 w p9
  have n4 := own_ne Q.1 w p10
  have n5 := own_ne Q.1 w p11
  intro y
  simp only [List.mem_cons, List.not_mem_nil, or_false] at y
  rcases y with y | y | y | y | y
  · exact n1 y
  · exact n2 y
  · exact n3 y
  · exact n4 y
  · exact n5 y
theorem own_nin1 {x y : Addr} (q : x ≠ y) : x ∉ [y] := fun w => q (List.mem_singleton.mp w)
end OwnRun
def Q1 (Z : State) (a1 : Addr) (z : Int32) (h0 : Heap) (n0 : Nat) (v : Option Value) (h : Heap) (L : List Loc) : Prop := v = none ∧ Fr n0 L ∧ ∃ sa ta va ea, OwnP Z h a1 sa ta va ea z.toNatClampNeg 0 ∧ Keep h0 h [a1] ∧ h0.size ≤ sa ∧ h0.size ≤ ta ∧ h0.size ≤ va ∧ h0.size ≤ ea
theorem pn0 : plainName "com/example/bucket/bucket/ingest/PointRun" = true := by first | (simp [plainName, overriddenIn]; done) | decide +kernel
theorem ef1 (m : MethodId) (x0 : Addr) (x1 : Int32) : entryFrame m #[(.ref x0), (.int x1)] 2 = mkF m 0 #[.val (.ref x0), .val (.int x1)] [] := by first | (simp [entryFrame, mkF, argsToLocals, Value.category]; done) | rfl
theorem d1_0 : decode prog_13_method_1_code 0 = .ok (.aload_n 0, 1) := by decide +kernel
theorem d1_1 : decode prog_13_method_1_code 1 = .ok (.invokespecial 1, 3) := by decide +kernel
theorem d1_4 : decode prog_13_method_1_code 4 = .ok (.aload_n 0, 1) := by decide +kernel
theorem d1_5 : decode prog_13_method_1_code 5 = .ok (.iload_n 1, 1) := by decide +kernel
theorem d1_6 : decode prog_13_method_1_code 6 = .ok (.anewarray 7, 3) := by decide +kernel
theorem d1_9 : decode prog_13_method_1_code 9 = .ok (.putfield 9, 3) := by decide +kernel
theorem d1_12 : decode prog_13_method_1_code 12 = .ok (.aload_n 0, 1) := by decide +kernel
theorem d1_13 : decode prog_13_method_1_code 13 = .ok (.iload_n 1, 1) := by decide +kernel
theorem d1_14 : decode prog_13_method_1_code 14 = .ok (.newarray .long, 2) := by decide +kernel
theorem d1_16 : decode prog_13_method_1_code 16 = .ok (.putfield 15, 3) := by decide +kernel
theorem d1_19 : decode prog_13_method_1_code 19 = .ok (.aload_n 0, 1) := by decide +kernel
theorem d1_20 : decode prog_13_method_1_code 20 = .ok (.iload_n 1, 1) := by decide +kernel
theorem d1_21 : decode prog_13_method_1_code 21 = .ok (.newarray .double, 2) := by decide +kernel
theorem d1_23 : decode prog_13_method_1_code 23 = .ok (.putfield 19, 3) := by decide +kernel
theorem d1_26 : decode prog_13_method_1_code 26 = .ok (.aload_n 0, 1) := by decide +kernel
theorem d1_27 : decode prog_13_method_1_code 27 = .ok (.iload_n 1, 1) := by decide +kernel
theorem d1_28 : decode prog_13_method_1_code 28 = .ok (.newarray .long, 2) := by decide +kernel
theorem d1_30 : decode prog_13_method_1_code 30 = .ok (.putfield 23, 3) := by decide +kernel
theorem d1_33 : decode prog_13_method_1_code 33 = .ok (.return_, 1) := by decide +kernel
set_option maxRecDepth 65536 in
set_option maxHeartbeats 40000000 in
theorem rm1 (l : Launch) (Z : State) (a0 : Array Value) (hw : ∀ d ∈ tables_1, d.before a0 Z = true) (ws : List Jvm.Cond) (a1 : Addr) (z : Int32) (h0 : Heap) (n0 : Nat) (Z0 : n0 ≤ h0.size) (F_series : Fld Z h0 a1 "com/example/bucket/bucket/ingest/PointRun" "series" "[Lcom/example/bucket/bucket/lineformat/Series;" .null) (F_times : Fld Z h0 a1 "com/example/bucket/bucket/ingest/PointRun" "times" "[J" .null) (F_values : Fld Z h0 a1 "com/example/bucket/bucket/ingest/PointRun" "values" "[D" .null) (F_ends : Fld Z h0 a1 "com/example/bucket/bucket/ingest/PointRun" "ends" "[J" .null) (F_size : Fld Z h0 a1 "com/example/bucket/bucket/ingest/PointRun" "size" "I" (.int 0)) (F_merged : Fld Z h0 a1 "com/example/bucket/bucket/ingest/PointRun" "merged" "I" (.int 0)) (E1 : Exa Z h0 a1 "com/example/bucket/bucket/ingest/PointRun") (g1 : n0 ≤ a1) (hz : ¬ z < 0) (hz3 : z.toNatClampNeg ≤ 3) :
    MetFree l (⟨"com/example/bucket/bucket/ingest/PointRun", "<init>", "(I)V"⟩ : MethodName) (head1 (Jvm.Cond.code (⟨"com/example/bucket/bucket/ingest/PointRun", "<init>", "(I)V"⟩ : MethodName) prog_13_method_1_code 2 none :: ws) ({ frames := 1, cells := 4, slots := 12, locals := 12 } : Room)) (fun a U => a = #[(.ref a1), (.int z)] ∧ Z.Warmed39 U.vm ∧ U.heap = h0) (fun _ _ _ _ _ => True) (fun _ U o U' => ∃ v L, o = .returned v ∧ Q1 Z a1 z h0 n0 v U'.heap L ∧ FrameEnd U o U' L ({ frames := 1, cells := 4, slots := 12, locals := 12 } : Room).cells ({ frames := 1, cells := 4, slots := 12, locals := 12 } : Room).slots) := by
  refine MetFree.of_bodySF (plainFor_of_name pn0) hisR ?_
  intro p e s m args below meth c s₁ Bd hml0 hP hK
  obtain ⟨rfl, hZ, hh⟩ := hP
  have hx := Bd.exec
  have hby := Bd.bytes
  have hml : c.maxLocals = 2 := hml0
  have hown : s.vm.findClass "com/example/bucket/bucket/ingest/PointRun" = some m.cls := findClass_of_methodNamed Bd.named
  have hnm := (name_of_methodNamed Bd.named Bd.method).1
  have X0 : Stand p l e ({ frames := 1, cells := 4, slots := 12, locals := 12 } : Room) s m #[(.ref a1), (.int z)] below meth c s₁ [] 0 0 := Stand.of_body Bd
  have e0 : s₁.heap = h0 := by rw [← hh, Bd.state]; rfl
  have N0 := Fr.nil n0
  have pre0 : ∀ t, Steps p.tables e below (s₁.setTop (mkF m 0 #[.val (.ref a1), .val (.int z)] [])) t → Steps p.tables e below (s₁.setTop (entryFrame m #[(.ref a1), (.int z)] 2)) t := fun t k => castTop (ef1 m a1 z) k
  have C1 : ∀ t, Steps p.tables e below (s₁.setTop (mkF m 1 #[.val (.ref a1), .val (.int z)] [(.ref a1)])) t → Steps p.tables e below (s₁.setTop (entryFrame m #[(.ref a1), (.int z)] 2)) t := by
    intro t k
    refine pre0 t ?_
    show Steps p.tables e below (s₁.setTop (mkF m 0 #[.val (.ref a1), .val (.int z)] [])) _
    refine XS.aloadN X0.here hx rfl (hb hby d1_0) rfl rfl ?_
    exact k
  obtain ⟨T2, X2, e2, st2⟩ := initO X0 hx hZ hown (hw _ (List.mem_of_getElem? (i := 7) rfl)) (hw _ (List.mem_of_getElem? (i := 8) rfl)) (hw _ (List.mem_of_getElem? (i := 9) rfl)) e0 (g := (mkF m 1 #[.val (.ref a1), .val (.int z)] [(.ref a1)])) rfl (by rw [hml]; rfl) rfl (hb hby d1_1) (by decide) (W := 0) (by show 2 * 0 + _ ≤ _; exact Nat.le_of_eq rfl) (by decide)
  have C2 : ∀ t, Steps p.tables e below (T2.setTop (mkF m 4 #[.val (.ref a1), .val (.int z)] [])) t → Steps p.tables e below (s₁.setTop (entryFrame m #[(.ref a1), (.int z)] 2)) t := fun t k => C1 t (st2 t k)
  have C3 : ∀ t, Steps p.tables e below (T2.setTop (mkF m 6 #[.val (.ref a1), .val (.int z)] [(.int z), (.ref a1)])) t → Steps p.tables e below (s₁.setTop (entryFrame m #[(.ref a1), (.int z)] 2)) t := by
    intro t k
    refine C2 t ?_
    show Steps p.tables e below (T2.setTop (mkF m 4 #[.val (.ref a1), .val (.int z)] [])) _
    refine XS.aloadN X2.here hx rfl (hb hby d1_4) rfl rfl ?_
    show Steps p.tables e below (T2.setTop (mkF m 5 #[.val (.ref a1), .val (.int z)] [(.ref a1)])) _
    refine XS.iloadN X2.here hx rfl (hb hby d1_5) rfl ?_
    exact k
  obtain ⟨T4, h4, k4, X4, e4, E4, A4, O4, st4⟩ := newR X2 hx hZ hown (hw _ (List.mem_of_getElem? (i := 10) rfl)) (hw _ (List.mem_of_getElem? (i := 11) rfl)) e2 (g := (mkF m 6 #[.val (.ref a1), .val (.int z)] [(.int z), (.ref a1)])) rfl (hb hby d1_6) rfl hz (cap := 3) hz3 (by decide) (by decide) (by decide)
  obtain ⟨b4, g4⟩ : ∃ z, z = h0.size := ⟨_, rfl⟩
  rw [← g4] at A4 st4
  have C4 : ∀ t, Steps p.tables e below (T4.setTop (mkF m 9 #[.val (.ref a1), .val (.int z)] [(.ref b4), (.ref a1)])) t → Steps p.tables e below (s₁.setTop (entryFrame m #[(.ref a1), (.int z)] 2)) t := fun t k => C3 t (st4 t k)
  have F4_series := F_series.ext E4
  have F4_times := F_times.ext E4
  have F4_values := F_values.ext E4
  have F4_ends := F_ends.ext E4
  have F4_size := F_size.ext E4
  have F4_merged := F_merged.ext E4
  have E4x := E1.ext E4
  have L4_series := OwnL.new A4
  obtain ⟨T5, h5, X5, e5, W5, st5⟩ := putF X4 hx hZ hown (host := "") (Or.inl (hw _ (List.mem_of_getElem? (i := 12) rfl))) Via.refl e4 F4_series E4x (Or.inr ⟨(hw _ (List.mem_of_getElem? (i := 13) rfl)), rfl, hnm⟩) (hw _ (List.mem_of_getElem? (i := 2) rfl)) (ty := (.array (.object "com/example/bucket/bucket/lineformat/Series"))) (by decide) rfl rfl (g := (mkF m 9 #[.val (.ref a1), .val (.int z)] [(.ref b4), (.ref a1)])) rfl rfl (hb hby d1_9)
  have N5 := Fr.snoc X5 N0 g1
  have K_1 : Keep h0 h5 [a1] := (((Keep.refl h0 [a1]).ext E4).wr W5 (Or.inl (List.mem_of_getElem? (i := 0) rfl)))
  have C5 : ∀ t, Steps p.tables e below (T5.setTop (mkF m 12 #[.val (.ref a1), .val (.int z)] [])) t → Steps p.tables e below (s₁.setTop (entryFrame m #[(.ref a1), (.int z)] 2)) t := fun t k => C4 t (st5 t k)
  have F5_series := F4_series.same W5
  have F5_times := F4_times.other W5 (Or.inr (slot_ne (Or.inr (hw _ (List.mem_of_getElem? (i := 16) rfl))) (Or.inr (hw _ (List.mem_of_getElem? (i := 13) rfl))) (by decide) (t := (.array .long)) (t' := (.array (.object "com/example/bucket/bucket/lineformat/Series"))) (by decide) (by decide)))
  have F5_values := F4_values.other W5 (Or.inr (slot_ne (Or.inr (hw _ (List.mem_of_getElem? (i := 19) rfl))) (Or.inr (hw _ (List.mem_of_getElem? (i := 13) rfl))) (by decide) (t := (.array .double)) (t' := (.array (.object "com/example/bucket/bucket/lineformat/Series"))) (by decide) (by decide)))
  have F5_ends := F4_ends.other W5 (Or.inr (slot_ne (Or.inr (hw _ (List.mem_of_getElem? (i := 21) rfl))) (Or.inr (hw _ (List.mem_of_getElem? (i := 13) rfl))) (by decide) (t := (.array .long)) (t' := (.array (.object "com/example/bucket/bucket/lineformat/Series"))) (by decide) (by decide)))
  have F5_size := F4_size.other W5 (Or.inr (slot_ne (Or.inl (hw _ (List.mem_of_getElem? (i := 41) rfl))) (Or.inr (hw _ (List.mem_of_getElem? (i := 13) rfl))) (by decide) (t := .int) (t' := (.array (.object "com/example/bucket/bucket/lineformat/Series"))) (by decide) (by decide)))
  have F5_merged := F4_merged.other W5 (Or.inr (slot_ne (Or.inl (hw _ (List.mem_of_getElem? (i := 75) rfl))) (Or.inr (hw _ (List.mem_of_getElem? (i := 13) rfl))) (by decide) (t := .int) (t' := (.array (.object "com/example/bucket/bucket/lineformat/Series"))) (by decide) (by decide)))
  have E5x := E4x.wr W5
  have L5_series := L4_series.wr W5
  have C6 : ∀ t, Steps p.tables e below (T5.setTop (mkF m 14 #[.val (.ref a1), .val (.int z)] [(.int z), (.ref a1)])) t → Steps p.tables e below (s₁.setTop (entryFrame m #[(.ref a1), (.int z)] 2)) t := by
    intro t k
    refine C5 t ?_
    show Steps p.tables e below (T5.setTop (mkF m 12 #[.val (.ref a1), .val (.int z)] [])) _
    refine XS.aloadN X5.here hx rfl (hb hby d1_12) rfl rfl ?_
    show Steps p.tables e below (T5.setTop (mkF m 13 #[.val (.ref a1), .val (.int z)] [(.ref a1)])) _
    refine XS.iloadN X5.here hx rfl (hb hby d1_13) rfl ?_
    exact k
  obtain ⟨T7, h7, k7, X7, e7, E7, A7, st7⟩ := newP X5 hx hZ (hw _ (List.mem_of_getElem? (i := 14) rfl)) e5 (g := (mkF m 14 #[.val (.ref a1), .val (.int z)] [(.int z), (.ref a1)])) rfl (hb hby d1_14) rfl hz (cap := 3) hz3 (by decide) (by decide) (by decide)
  obtain ⟨b7, g7⟩ : ∃ z, z = h5.size := ⟨_, rfl⟩
  rw [← g7] at A7 st7
  have C7 : ∀ t, Steps p.tables e below (T7.setTop (mkF m 16 #[.val (.ref a1), .val (.int z)] [(.ref b7), (.ref a1)])) t → Steps p.tables e below (s₁.setTop (entryFrame m #[(.ref a1), (.int z)] 2)) t := fun t k => C6 t (st7 t k)
  have F7_series := F5_series.ext E7
  have F7_times := F5_times.ext E7
  have F7_values := F5_values.ext E7
  have F7_ends := F5_ends.ext E7
  have F7_size := F5_size.ext E7
  have F7_merged := F5_merged.ext E7
  have E7x := E5x.ext E7
  have L7_series := L5_series.ext E7
  have L7_times := OwnL.new A7
  obtain ⟨T8, h8, X8, e8, W8, st8⟩ := putF X7 hx hZ hown (host := "") (Or.inl (hw _ (List.mem_of_getElem? (i := 15) rfl))) Via.refl e7 F7_times E7x (Or.inr ⟨(hw _ (List.mem_of_getElem? (i := 16) rfl)), rfl, hnm⟩) (hw _ (List.mem_of_getElem? (i := 2) rfl)) (ty := (.array .long)) (by decide) rfl rfl (g := (mkF m 16 #[.val (.ref a1), .val (.int z)] [(.ref b7), (.ref a1)])) rfl rfl (hb hby d1_16)
  have N8 := Fr.snoc X8 N5 g1
  have K_2 : Keep h0 h8 [a1] := (((((Keep.refl h0 [a1]).ext E4).wr W5 (Or.inl (List.mem_of_getElem? (i := 0) rfl))).ext E7).wr W8 (Or.inl (List.mem_of_getElem? (i := 0) rfl)))
  have C8 : ∀ t, Steps p.tables e below (T8.setTop (mkF m 19 #[.val (.ref a1), .val (.int z)] [])) t → Steps p.tables e below (s₁.setTop (entryFrame m #[(.ref a1), (.int z)] 2)) t := fun t k => C7 t (st8 t k)
  have F8_series := F7_series.other W8 (Or.inr (slot_ne (Or.inr (hw _ (List.mem_of_getElem? (i := 13) rfl))) (Or.inr (hw _ (List.mem_of_getElem? (i := 16) rfl))) (by decide) (t := (.array (.object "com/example/bucket/bucket/lineformat/Series"))) (t' := (.array .long)) (by decide) (by decide)))
  have F8_times := F7_times.same W8
  have F8_values := F7_values.other W8 (Or.inr (slot_ne (Or.inr (hw _ (List.mem_of_getElem? (i := 19) rfl))) (Or.inr (hw _ (List.mem_of_getElem? (i := 16) rfl))) (by decide) (t := (.array .double)) (t' := (.array .long)) (by decide) (by decide)))
  have F8_ends := F7_ends.other W8 (Or.inr (slot_ne (Or.inr (hw _ (List.mem_of_getElem? (i := 21) rfl))) (Or.inr (hw _ (List.mem_of_getElem? (i := 16) rfl))) (by decide) (t := (.array .long)) (t' := (.array .long)) (by decide) (by decide)))
  have F8_size := F7_size.other W8 (Or.inr (slot_ne (Or.inl (hw _ (List.mem_of_getElem? (i := 41) rfl))) (Or.inr (hw _ (List.mem_of_getElem? (i := 16) rfl))) (by decide) (t := .int) (t' := (.array .long)) (by decide) (by decide)))
  have F8_merged := F7_merged.other W8 (Or.inr (slot_ne (Or.inl (hw _ (List.mem_of_getElem? (i := 75) rfl))) (Or.inr (hw _ (List.mem_of_getElem? (i := 16) rfl))) (by decide) (t := .int) (t' := (.array .long)) (by decide) (by decide)))
  have E8x := E7x.wr W8
  have L8_series := L7_series.wr W8
  have L8_times := L7_times.wr W8
  have C9 : ∀ t, Steps p.tables e below (T8.setTop (mkF m 21 #[.val (.ref a1), .val (.int z)] [(.int z), (.ref a1)])) t → Steps p.tables e below (s₁.setTop (entryFrame m #[(.ref a1), (.int z)] 2)) t := by
    intro t k
    refine C8 t ?_
    show Steps p.tables e below (T8.setTop (mkF m 19 #[.val (.ref a1), .val (.int z)] [])) _
    refine XS.aloadN X8.here hx rfl (hb hby d1_19) rfl rfl ?_
    show Steps p.tables e below (T8.setTop (mkF m 20 #[.val (.ref a1), .val (.int z)] [(.ref a1)])) _
    refine XS.iloadN X8.here hx rfl (hb hby d1_20) rfl ?_
    exact k
  obtain ⟨T10, h10, k10, X10, e10, E10, A10, st10⟩ := newP X8 hx hZ (hw _ (List.mem_of_getElem? (i := 17) rfl)) e8 (g := (mkF m 21 #[.val (.ref a1), .val (.int z)] [(.int z), (.ref a1)])) rfl (hb hby d1_21) rfl hz (cap := 3) hz3 (by decide) (by decide) (by decide)
  obtain ⟨b10, g10⟩ : ∃ z, z = h8.size := ⟨_, rfl⟩
  rw [← g10] at A10 st10
  have C10 : ∀ t, Steps p.tables e below (T10.setTop (mkF m 23 #[.val (.ref a1), .val (.int z)] [(.ref b10), (.ref a1)])) t → Steps p.tables e below (s₁.setTop (entryFrame m #[(.ref a1), (.int z)] 2)) t := fun t k => C9 t (st10 t k)
  have F10_series := F8_series.ext E10
  have F10_times := F8_times.ext E10
  have F10_values := F8_values.ext E10
  have F10_ends := F8_ends.ext E10
  have F10_size := F8_size.ext E10
  have F10_merged := F8_merged.ext E10
  have E10x := E8x.ext E10
  have L10_series := L8_series.ext E10
  have L10_times := L8_times.ext E10
  have L10_values := OwnL.new A10
  obtain ⟨T11, h11, X11, e11, W11, st11⟩ := putF X10 hx hZ hown (host := "") (Or.inl (hw _ (List.mem_of_getElem? (i := 18) rfl))) Via.refl e10 F10_values E10x (Or.inr ⟨(hw _ (List.mem_of_getElem? (i := 19) rfl)), rfl, hnm⟩) (hw _ (List.mem_of_getElem? (i := 2) rfl)) (ty := (.array .double)) (by decide) rfl rfl (g := (mkF m 23 #[.val (.ref a1), .val (.int z)] [(.ref b10), (.ref a1)])) rfl rfl (hb hby d1_23)
  have N11 := Fr.snoc X11 N8 g1
  have K_3 : Keep h0 h11 [a1] := (((((((Keep.refl h0 [a1]).ext E4).wr W5 (Or.inl (List.mem_of_getElem? (i := 0) rfl))).ext E7).wr W8 (Or.inl (List.mem_of_getElem? (i := 0) rfl))).ext E10).wr W11 (Or.inl (List.mem_of_getElem? (i := 0) rfl)))
  have C11 : ∀ t, Steps p.tables e below (T11.setTop (mkF m 26 #[.val (.ref a1), .val (.int z)] [])) t → Steps p.tables e below (s₁.setTop (entryFrame m #[(.ref a1), (.int z)] 2)) t := fun t k => C10 t (st11 t k)
  have F11_series := F10_series.other W11 (Or.inr (slot_ne (Or.inr (hw _ (List.mem_of_getElem? (i := 13) rfl))) (Or.inr (hw _ (List.mem_of_getElem? (i := 19) rfl))) (by decide) (t := (.array (.object "com/example/bucket/bucket/lineformat/Series"))) (t' := (.array .double)) (by decide) (by decide)))
  have F11_times := F10_times.other W11 (Or.inr (slot_ne (Or.inr (hw _ (List.mem_of_getElem? (i := 16) rfl))) (Or.inr (hw _ (List.mem_of_getElem? (i := 19) rfl))) (by decide) (t := (.array .long)) (t' := (.array .double)) (by decide) (by decide)))
  have F11_values := F10_values.same W11
  have F11_ends := F10_ends.other W11 (Or.inr (slot_ne (Or.inr (hw _ (List.mem_of_getElem? (i := 21) rfl))) (Or.inr (hw _ (List.mem_of_getElem? (i := 19) rfl))) (by decide) (t := (.array .long)) (t' := (.array .double)) (by decide) (by decide)))
  have F11_size := F10_size.other W11 (Or.inr (slot_ne (Or.inl (hw _ (List.mem_of_getElem? (i := 41) rfl))) (Or.inr (hw _ (List.mem_of_getElem? (i := 19) rfl))) (by decide) (t := .int) (t' := (.array .double)) (by decide) (by decide)))
  have F11_merged := F10_merged.other W11 (Or.inr (slot_ne (Or.inl (hw _ (List.mem_of_getElem? (i := 75) rfl))) (Or.inr (hw _ (List.mem_of_getElem? (i := 19) rfl))) (by decide) (t := .int) (t' := (.array .double)) (by decide) (by decide)))
  have E11x := E10x.wr W11
  have L11_series := L10_series.wr W11
  have L11_times := L10_times.wr W11
  have L11_values := L10_values.wr W11
  have C12 : ∀ t, Steps p.tables e below (T11.setTop (mkF m 28 #[.val (.ref a1), .val (.int z)] [(.int z), (.ref a1)])) t → Steps p.tables e below (s₁.setTop (entryFrame m #[(.ref a1), (.int z)] 2)) t := by
    intro t k
    refine C11 t ?_
    show Steps p.tables e below (T11.setTop (mkF m 26 #[.val (.ref a1), .val (.int z)] [])) _
    refine XS.aloadN X11.here hx rfl (hb hby d1_26) rfl rfl ?_
    show Steps p.tables e below (T11.setTop (mkF m 27 #[.val (.ref a1), .val (.int z)] [(.ref a1)])) _
    refine XS.iloadN X11.here hx rfl (hb hby d1_27) rfl ?_
    exact k
  obtain ⟨T13, h13, k13, X13, e13, E13, A13, st13⟩ := newP X11 hx hZ (hw _ (List.mem_of_getElem? (i := 14) rfl)) e11 (g := (mkF m 28 #[.val (.ref a1), .val (.int z)] [(.int z), (.ref a1)])) rfl (hb hby d1_28) rfl hz (cap := 3) hz3 (by decide) (by decide) (by decide)
  obtain ⟨b13, g13⟩ : ∃ z, z = h11.size := ⟨_, rfl⟩
  rw [← g13] at A13 st13
  have C13 : ∀ t, Steps p.tables e below (T13.setTop (mkF m 30 #[.val (.ref a1), .val (.int z)] [(.ref b13), (.ref a1)])) t → Steps p.tables e below (s₁.setTop (entryFrame m #[(.ref a1), (.int z)] 2)) t := fun t k => C12 t (st13 t k)
  have F13_series := F11_series.ext E13
  have F13_times := F11_times.ext E13
  have F13_values := F11_values.ext E13
  have F13_ends := F11_ends.ext E13
  have F13_size := F11_size.ext E13
  have F13_merged := F11_merged.ext E13
  have E13x := E11x.ext E13
  have L13_series := L11_series.ext E13
  have L13_times := L11_times.ext E13
  have L13_values := L11_values.ext E13
  have L13_ends := OwnL.new A13
  obtain ⟨T14, h14, X14, e14, W14, st14⟩ := putF X13 hx hZ hown (host := "") (Or.inl (hw _ (List.mem_of_getElem? (i := 20) rfl))) Via.refl e13 F13_ends E13x (Or.inr ⟨(hw _ (List.mem_of_getElem? (i := 21) rfl)), rfl, hnm⟩) (hw _ (List.mem_of_getElem? (i := 2) rfl)) (ty := (.array .long)) (by decide) rfl rfl (g := (mkF m 30 #[.val (.ref a1), .val (.int z)] [(.ref b13), (.ref a1)])) rfl rfl (hb hby d1_30)
  have N14 := Fr.snoc X14 N11 g1
  have K_4 : Keep h0 h14 [a1] := (((((((((Keep.refl h0 [a1]).ext E4).wr W5 (Or.inl (List.mem_of_getElem? (i := 0) rfl))).ext E7).wr W8 (Or.inl (List.mem_of_getElem? (i := 0) rfl))).ext E10).wr W11 (Or.inl (List.mem_of_getElem? (i := 0) rfl))).ext E13).wr W14 (Or.inl (List.mem_of_getElem? (i := 0) rfl)))
  have C14 : ∀ t, Steps p.tables e below (T14.setTop (mkF m 33 #[.val (.ref a1), .val (.int z)] [])) t → Steps p.tables e below (s₁.setTop (entryFrame m #[(.ref a1), (.int z)] 2)) t := fun t k => C13 t (st14 t k)
  have F14_series := F13_series.other W14 (Or.inr (slot_ne (Or.inr (hw _ (List.mem_of_getElem? (i := 13) rfl))) (Or.inr (hw _ (List.mem_of_getElem? (i := 21) rfl))) (by decide) (t := (.array (.object "com/example/bucket/bucket/lineformat/Series"))) (t' := (.array .long)) (by decide) (by decide)))
  have F14_times := F13_times.other W14 (Or.inr (slot_ne (Or.inr (hw _ (List.mem_of_getElem? (i := 16) rfl))) (Or.inr (hw _ (List.mem_of_getElem? (i := 21) rfl))) (by decide) (t := (.array .long)) (t' := (.array .long)) (by decide) (by decide)))
  have F14_values := F13_values.other W14 (Or.inr (slot_ne (Or.inr (hw _ (List.mem_of_getElem? (i := 19) rfl))) (Or.inr (hw _ (List.mem_of_getElem? (i := 21) rfl))) (by decide) (t := (.array .double)) (t' := (.array .long)) (by decide) (by decide)))
  have F14_ends := F13_ends.same W14
  have F14_size := F13_size.other W14 (Or.inr (slot_ne (Or.inl (hw _ (List.mem_of_getElem? (i := 41) rfl))) (Or.inr (hw _ (List.mem_of_getElem? (i := 21) rfl))) (by decide) (t := .int) (t' := (.array .long)) (by decide) (by decide)))
  have F14_merged := F13_merged.other W14 (Or.inr (slot_ne (Or.inl (hw _ (List.mem_of_getElem? (i := 75) rfl))) (Or.inr (hw _ (List.mem_of_getElem? (i := 21) rfl))) (by decide) (t := .int) (t' := (.array .long)) (by decide) (by decide)))
  have E14x := E13x.wr W14
  have L14_series := L13_series.wr W14
  have L14_times := L13_times.wr W14
  have L14_values := L13_values.wr W14
  have L14_ends := L13_ends.wr W14
  have K : Keep h0 h14 [a1] := (((((((((Keep.refl h0 [a1]).ext E4).wr W5 (Or.inl (List.mem_of_getElem? (i := 0) rfl))).ext E7).wr W8 (Or.inl (List.mem_of_getElem? (i := 0) rfl))).ext E10).wr W11 (Or.inl (List.mem_of_getElem? (i := 0) rfl))).ext E13).wr W14 (Or.inl (List.mem_of_getElem? (i := 0) rfl)))
  have P : OwnP Z h14 a1 b4 b7 b10 b13 z.toNatClampNeg 0 := ⟨E14x, F14_series, F14_times, F14_values, F14_ends, F14_size, ⟨0, F14_merged⟩, L14_series, L14_times, L14_values, L14_ends⟩
  have s_series : h0.size ≤ b4 := Nat.le_of_eq g4.symm
  have s_times : h0.size ≤ b7 := Nat.le_trans K_1.1 (Nat.le_of_eq g7.symm)
  have s_values : h0.size ≤ b10 := Nat.le_trans K_2.1 (Nat.le_of_eq g10.symm)
  have s_ends : h0.size ≤ b13 := Nat.le_trans K_3.1 (Nat.le_of_eq g13.symm)
  obtain ⟨fs, hr, hrun, hended, hW, hsame⟩ := X14.leave (v := none) (fun _ => rfl)
  refine ⟨_, _, C14 _ ?_, hrun, hended, _, _, rfl, ?_, ⟨_, rfl⟩, hW, hsame.mono (by decide) (by decide)⟩
  · show Steps p.tables e below (T14.setTop (mkF m 33 #[.val (.ref a1), .val (.int z)] [])) _
    exact X14.returnOut hx Bd.returns (hb hby d1_33) hr
  · show Q1 Z a1 z h0 n0 _ T14.heap _
    rw [e14]
    exact ⟨rfl, N14, b4, b7, b10, b13, P, K, s_series, s_times, s_values, s_ends⟩
def Q3 (Z : State) (a1 : Addr) (q1 : Int64) (x1 : UInt64) (h0 : Heap) (n0 : Nat) (v : Option Value) (h : Heap) (L : List Loc) : Prop := v = none ∧ Fr n0 L ∧ OwnQ Z h a1 q1 x1 ∧ Keep h0 h [a1]
theorem pn1 : plainName "com/example/bucket/bucket/lineformat/Point" = true := by first | (simp [plainName, overriddenIn]; done) | decide +kernel
theorem ef3 (m : MethodId) (x0 : Addr) (x2 : Int64) (x3 : UInt64) : entryFrame m #[(.ref x0), .null, (.long x2), (.double x3)] 6 = mkF m 0 #[.val (.ref x0), .val .null, .val (.long x2), .second, .val (.double x3), .second] [] := by first | (simp [entryFrame, mkF, argsToLocals, Value.category]; done) | rfl
theorem d3_0 : decode prog_22_method_1_code 0 = .ok (.aload_n 0, 1) := by decide +kernel
theorem d3_1 : decode prog_22_method_1_code 1 = .ok (.invokespecial 1, 3) := by decide +kernel
theorem d3_4 : decode prog_22_method_1_code 4 = .ok (.aload_n 0, 1) := by decide +kernel
theorem d3_5 : decode prog_22_method_1_code 5 = .ok (.aload_n 1, 1) := by decide +kernel
theorem d3_6 : decode prog_22_method_1_code 6 = .ok (.putfield 7, 3) := by decide +kernel
theorem d3_9 : decode prog_22_method_1_code 9 = .ok (.aload_n 0, 1) := by decide +kernel
theorem d3_10 : decode prog_22_method_1_code 10 = .ok (.lload_n 2, 1) := by decide +kernel
theorem d3_11 : decode prog_22_method_1_code 11 = .ok (.putfield 13, 3) := by decide +kernel
theorem d3_14 : decode prog_22_method_1_code 14 = .ok (.aload_n 0, 1) := by decide +kernel
theorem d3_15 : decode prog_22_method_1_code 15 = .ok (.dload 4, 2) := by decide +kernel
theorem d3_17 : decode prog_22_method_1_code 17 = .ok (.putfield 17, 3) := by decide +kernel
theorem d3_20 : decode prog_22_method_1_code 20 = .ok (.return_, 1) := by decide +kernel
set_option maxRecDepth 65536 in
set_option maxHeartbeats 40000000 in
theorem rm3 (l : Launch) (Z : State) (a0 : Array Value) (hw : ∀ d ∈ tables_1, d.before a0 Z = true) (ws : List Jvm.Cond) (a1 : Addr) (q1 : Int64) (x1 : UInt64) (h0 : Heap) (n0 : Nat) (Z0 : n0 ≤ h0.size) (F1 : Fld Z h0 a1 "com/example/bucket/bucket/lineformat/Point" "series" "Lcom/example/bucket/bucket/lineformat/Series;" .null) (F2 : Fld Z h0 a1 "com/example/bucket/bucket/lineformat/Point" "time" "J" (.long 0)) (F3 : Fld Z h0 a1 "com/example/bucket/bucket/lineformat/Point" "value" "D" (.double 0)) (E1 : Exa Z h0 a1 "com/example/bucket/bucket/lineformat/Point") (g1 : n0 ≤ a1) :
    MetFree l (⟨"com/example/bucket/bucket/lineformat/Point", "<init>", "(Lcom/example/bucket/bucket/lineformat/Series;JD)V"⟩ : MethodName) (head1 (Jvm.Cond.code (⟨"com/example/bucket/bucket/lineformat/Point", "<init>", "(Lcom/example/bucket/bucket/lineformat/Series;JD)V"⟩ : MethodName) prog_22_method_1_code 6 none :: ws) ({ frames := 1, cells := 0, slots := 0, locals := 12 } : Room)) (fun a U => a = #[(.ref a1), .null, (.long q1), (.double x1)] ∧ Z.Warmed39 U.vm ∧ U.heap = h0) (fun _ _ _ _ _ => True) (fun _ U o U' => ∃ v L, o = .returned v ∧ Q3 Z a1 q1 x1 h0 n0 v U'.heap L ∧ FrameEnd U o U' L ({ frames := 1, cells := 0, slots := 0, locals := 12 } : Room).cells ({ frames := 1, cells := 0, slots := 0, locals := 12 } : Room).slots) := by
  refine MetFree.of_bodySF (plainFor_of_name pn1) hisR ?_
  intro p e s m args below meth c s₁ Bd hml0 hP hK
  obtain ⟨rfl, hZ, hh⟩ := hP
  have hx := Bd.exec
  have hby := Bd.bytes
  have hml : c.maxLocals = 6 := hml0
  have hown : s.vm.findClass "com/example/bucket/bucket/lineformat/Point" = some m.cls := findClass_of_methodNamed Bd.named
  have hnm := (name_of_methodNamed Bd.named Bd.method).1
  have X0 : Stand p l e ({ frames := 1, cells := 0, slots := 0, locals := 12 } : Room) s m #[(.ref a1), .null, (.long q1), (.double x1)] below meth c s₁ [] 0 0 := Stand.of_body Bd
  have e0 : s₁.heap = h0 := by rw [← hh, Bd.state]; rfl
  have N0 := Fr.nil n0
  have pre0 : ∀ t, Steps p.tables e below (s₁.setTop (mkF m 0 #[.val (.ref a1), .val .null, .val (.long q1), .second, .val (.double x1), .second] [])) t → Steps p.tables e below (s₁.setTop (entryFrame m #[(.ref a1), .null, (.long q1), (.double x1)] 6)) t := fun t k => castTop (ef3 m a1 q1 x1) k
  have C15 : ∀ t, Steps p.tables e below (s₁.setTop (mkF m 1 #[.val (.ref a1), .val .null, .val (.long q1), .second, .val (.double x1), .second] [(.ref a1)])) t → Steps p.tables e below (s₁.setTop (entryFrame m #[(.ref a1), .null, (.long q1), (.double x1)] 6)) t := by
    intro t k
    refine pre0 t ?_
    show Steps p.tables e below (s₁.setTop (mkF m 0 #[.val (.ref a1), .val .null, .val (.long q1), .second, .val (.double x1), .second] [])) _
    refine XS.aloadN X0.here hx rfl (hb hby d3_0) rfl rfl ?_
    exact k
  obtain ⟨T16, X16, e16, st16⟩ := initO X0 hx hZ hown (hw _ (List.mem_of_getElem? (i := 28) rfl)) (hw _ (List.mem_of_getElem? (i := 8) rfl)) (hw _ (List.mem_of_getElem? (i := 9) rfl)) e0 (g := (mkF m 1 #[.val (.ref a1), .val .null, .val (.long q1), .second, .val (.double x1), .second] [(.ref a1)])) rfl (by rw [hml]; rfl) rfl (hb hby d3_1) (by decide) (W := 0) (by show 2 * 0 + _ ≤ _; exact Nat.le_of_eq rfl) (by decide)
  have C16 : ∀ t, Steps p.tables e below (T16.setTop (mkF m 4 #[.val (.ref a1), .val .null, .val (.long q1), .second, .val (.double x1), .second] [])) t → Steps p.tables e below (s₁.setTop (entryFrame m #[(.ref a1), .null, (.long q1), (.double x1)] 6)) t := fun t k => C15 t (st16 t k)
  have C17 : ∀ t, Steps p.tables e below (T16.setTop (mkF m 6 #[.val (.ref a1), .val .null, .val (.long q1), .second, .val (.double x1), .second] [.null, (.ref a1)])) t → Steps p.tables e below (s₁.setTop (entryFrame m #[(.ref a1), .null, (.long q1), (.double x1)] 6)) t := by
    intro t k
    refine C16 t ?_
    show Steps p.tables e below (T16.setTop (mkF m 4 #[.val (.ref a1), .val .null, .val (.long q1), .second, .val (.double x1), .second] [])) _
    refine XS.aloadN X16.here hx rfl (hb hby d3_4) rfl rfl ?_
    show Steps p.tables e below (T16.setTop (mkF m 5 #[.val (.ref a1), .val .null, .val (.long q1), .second, .val (.double x1), .second] [(.ref a1)])) _
    refine XS.aloadN X16.here hx rfl (hb hby d3_5) rfl rfl ?_
    exact k
  obtain ⟨T18, h18, X18, e18, W18, st18⟩ := putF X16 hx hZ hown (host := "") (Or.inl (hw _ (List.mem_of_getElem? (i := 29) rfl))) Via.refl e16 F1 E1 (Or.inr ⟨(hw _ (List.mem_of_getElem? (i := 30) rfl)), rfl, hnm⟩) (hw _ (List.mem_of_getElem? (i := 23) rfl)) (ty := (.object "com/example/bucket/bucket/lineformat/Series")) (by decide) rfl rfl (g := (mkF m 6 #[.val (.ref a1), .val .null, .val (.long q1), .second, .val (.double x1), .second] [.null, (.ref a1)])) rfl rfl (hb hby d3_6)
  have N18 := Fr.snoc X18 N0 g1
  have C18 : ∀ t, Steps p.tables e below (T18.setTop (mkF m 9 #[.val (.ref a1), .val .null, .val (.long q1), .second, .val (.double x1), .second] [])) t → Steps p.tables e below (s₁.setTop (entryFrame m #[(.ref a1), .null, (.long q1), (.double x1)] 6)) t := fun t k => C17 t (st18 t k)
  have F2a := F2.other W18 (Or.inr (slot_ne (Or.inr (hw _ (List.mem_of_getElem? (i := 32) rfl))) (Or.inr (hw _ (List.mem_of_getElem? (i := 30) rfl))) (by decide) (t := .long) (t' := (.object "com/example/bucket/bucket/lineformat/Series")) (by decide) (by decide)))
  have F3a := F3.other W18 (Or.inr (slot_ne (Or.inr (hw _ (List.mem_of_getElem? (i := 34) rfl))) (Or.inr (hw _ (List.mem_of_getElem? (i := 30) rfl))) (by decide) (t := .double) (t' := (.object "com/example/bucket/bucket/lineformat/Series")) (by decide) (by decide)))
  have F1a := F1.same W18
  have E1a := E1.wr W18
  have C19 : ∀ t, Steps p.tables e below (T18.setTop (mkF m 11 #[.val (.ref a1), .val .null, .val (.long q1), .second, .val (.double x1), .second] [(.long q1), (.ref a1)])) t → Steps p.tables e below (s₁.setTop (entryFrame m #[(.ref a1), .null, (.long q1), (.double x1)] 6)) t := by
    intro t k
    refine C18 t ?_
    show Steps p.tables e below (T18.setTop (mkF m 9 #[.val (.ref a1), .val .null, .val (.long q1), .second, .val (.double x1), .second] [])) _
    refine XS.aloadN X18.here hx rfl (hb hby d3_9) rfl rfl ?_
    show Steps p.tables e below (T18.setTop (mkF m 10 #[.val (.ref a1), .val .null, .val (.long q1), .second, .val (.double x1), .second] [(.ref a1)])) _
    refine XS.lloadN X18.here hx rfl (hb hby d3_10) rfl ?_
    exact k
  obtain ⟨T20, h20, X20, e20, W20, st20⟩ := putF X18 hx hZ hown (host := "") (Or.inl (hw _ (List.mem_of_getElem? (i := 31) rfl))) Via.refl e18 F2a E1a (Or.inr ⟨(hw _ (List.mem_of_getElem? (i := 32) rfl)), rfl, hnm⟩) (hw _ (List.mem_of_getElem? (i := 23) rfl)) (ty := .long) (by decide) rfl rfl (g := (mkF m 11 #[.val (.ref a1), .val .null, .val (.long q1), .second, .val (.double x1), .second] [(.long q1), (.ref a1)])) rfl rfl (hb hby d3_11)
  have N20 := Fr.snoc X20 N18 g1
  have C20 : ∀ t, Steps p.tables e below (T20.setTop (mkF m 14 #[.val (.ref a1), .val .null, .val (.long q1), .second, .val (.double x1), .second] [])) t → Steps p.tables e below (s₁.setTop (entryFrame m #[(.ref a1), .null, (.long q1), (.double x1)] 6)) t := fun t k => C19 t (st20 t k)
  have F1b := F1a.other W20 (Or.inr (slot_ne (Or.inr (hw _ (List.mem_of_getElem? (i := 30) rfl))) (Or.inr (hw _ (List.mem_of_getElem? (i := 32) rfl))) (by decide) (t := (.object "com/example/bucket/bucket/lineformat/Series")) (t' := .long) (by decide) (by decide)))
  have F3b := F3a.other W20 (Or.inr (slot_ne (Or.inr (hw _ (List.mem_of_getElem? (i := 34) rfl))) (Or.inr (hw _ (List.mem_of_getElem? (i := 32) rfl))) (by decide) (t := .double) (t' := .long) (by decide) (by decide)))
  have F2b := F2a.same W20
  have E1b := E1a.wr W20
  have C21 : ∀ t, Steps p.tables e below (T20.setTop (mkF m 17 #[.val (.ref a1), .val .null, .val (.long q1), .second, .val (.double x1), .second] [(.double x1), (.ref a1)])) t → Steps p.tables e below (s₁.setTop (entryFrame m #[(.ref a1), .null, (.long q1), (.double x1)] 6)) t := by
    intro t k
    refine C20 t ?_
    show Steps p.tables e below (T20.setTop (mkF m 14 #[.val (.ref a1), .val .null, .val (.long q1), .second, .val (.double x1), .second] [])) _
    refine XS.aloadN X20.here hx rfl (hb hby d3_14) rfl rfl ?_
    show Steps p.tables e below (T20.setTop (mkF m 15 #[.val (.ref a1), .val .null, .val (.long q1), .second, .val (.double x1), .second] [(.ref a1)])) _
    refine XS.dload X20.here hx rfl (hb hby d3_15) rfl ?_
    exact k
  obtain ⟨T22, h22, X22, e22, W22, st22⟩ := putF X20 hx hZ hown (host := "") (Or.inl (hw _ (List.mem_of_getElem? (i := 33) rfl))) Via.refl e20 F3b E1b (Or.inr ⟨(hw _ (List.mem_of_getElem? (i := 34) rfl)), rfl, hnm⟩) (hw _ (List.mem_of_getElem? (i := 23) rfl)) (ty := .double) (by decide) rfl rfl (g := (mkF m 17 #[.val (.ref a1), .val .null, .val (.long q1), .second, .val (.double x1), .second] [(.double x1), (.ref a1)])) rfl rfl (hb hby d3_17)
  have N22 := Fr.snoc X22 N20 g1
  have C22 : ∀ t, Steps p.tables e below (T22.setTop (mkF m 20 #[.val (.ref a1), .val .null, .val (.long q1), .second, .val (.double x1), .second] [])) t → Steps p.tables e below (s₁.setTop (entryFrame m #[(.ref a1), .null, (.long q1), (.double x1)] 6)) t := fun t k => C21 t (st22 t k)
  have F1c := F1b.other W22 (Or.inr (slot_ne (Or.inr (hw _ (List.mem_of_getElem? (i := 30) rfl))) (Or.inr (hw _ (List.mem_of_getElem? (i := 34) rfl))) (by decide) (t := (.object "com/example/bucket/bucket/lineformat/Series")) (t' := .double) (by decide) (by decide)))
  have F2c := F2b.other W22 (Or.inr (slot_ne (Or.inr (hw _ (List.mem_of_getElem? (i := 32) rfl))) (Or.inr (hw _ (List.mem_of_getElem? (i := 34) rfl))) (by decide) (t := .long) (t' := .double) (by decide) (by decide)))
  have F3c := F3b.same W22
  have E1c := E1b.wr W22
  have K : Keep h0 h22 [a1] := (((Keep.refl h0 [a1]).wr W18 (Or.inl (List.mem_of_getElem? (i := 0) rfl))).wr W20 (Or.inl (List.mem_of_getElem? (i := 0) rfl))).wr W22 (Or.inl (List.mem_of_getElem? (i := 0) rfl))
  obtain ⟨fs, hr, hrun, hended, hW, hsame⟩ := X22.leave (v := none) (fun _ => rfl)
  refine ⟨_, _, C22 _ ?_, hrun, hended, _, _, rfl, ?_, ⟨_, rfl⟩, hW, hsame.mono (by decide) (by decide)⟩
  · show Steps p.tables e below (T22.setTop (mkF m 20 #[.val (.ref a1), .val .null, .val (.long q1), .second, .val (.double x1), .second] [])) _
    exact X22.returnOut hx Bd.returns (hb hby d3_20) hr
  · show Q3 Z a1 q1 x1 h0 n0 _ T22.heap _
    rw [e22]
    exact ⟨rfl, N22, ⟨E1c, F1c, F2c, F3c⟩, K⟩
def Q4 (Z : State) (r : Int32) (h0 : Heap) (n0 : Nat) (v : Option Value) (h : Heap) (L : List Loc) : Prop := v = some (.int r) ∧ Fr n0 L ∧ h = h0
theorem ef4 (m : MethodId) (x0 : Addr) : entryFrame m #[(.ref x0)] 1 = mkF m 0 #[.val (.ref x0)] [] := by first | (simp [entryFrame, mkF, argsToLocals, Value.category]; done) | rfl
theorem d4_0 : decode prog_13_method_3_code 0 = .ok (.aload_n 0, 1) := by decide +kernel
theorem d4_1 : decode prog_13_method_3_code 1 = .ok (.getfield 33, 3) := by decide +kernel
theorem d4_4 : decode prog_13_method_3_code 4 = .ok (.aload_n 0, 1) := by decide +kernel
theorem d4_5 : decode prog_13_method_3_code 5 = .ok (.getfield 15, 3) := by decide +kernel
theorem d4_8 : decode prog_13_method_3_code 8 = .ok (.arraylength, 1) := by decide +kernel
theorem d4_9 : decode prog_13_method_3_code 9 = .ok (.if_icmp .ne 7, 3) := by decide +kernel
theorem d4_12 : decode prog_13_method_3_code 12 = .ok (.iconst 1, 1) := by decide +kernel
theorem d4_13 : decode prog_13_method_3_code 13 = .ok (.goto 4, 3) := by decide +kernel
theorem d4_16 : decode prog_13_method_3_code 16 = .ok (.iconst 0, 1) := by decide +kernel
theorem d4_17 : decode prog_13_method_3_code 17 = .ok (.ireturn, 1) := by decide +kernel
set_option maxRecDepth 65536 in
set_option maxHeartbeats 40000000 in
theorem rm4 (l : Launch) (Z : State) (a0 : Array Value) (hw : ∀ d ∈ tables_1, d.before a0 Z = true) (ws : List Jvm.Cond) (a1 sa ta va ea : Addr) (cc z r : Int32) (h0 : Heap) (n0 : Nat) (Z0 : n0 ≤ h0.size) (P : OwnP Z h0 a1 sa ta va ea cc.toNatClampNeg z) (hcc : ¬ cc < 0) (hr : (z = cc ∧ r = 1) ∨ (¬ z = cc ∧ r = 0)) :
    MetFree l (⟨"com/example/bucket/bucket/ingest/PointRun", "isFull", "()Z"⟩ : MethodName) (head1 (Jvm.Cond.code (⟨"com/example/bucket/bucket/ingest/PointRun", "isFull", "()Z"⟩ : MethodName) prog_13_method_3_code 1 (some .boolean) :: ws) ({ frames := 0, cells := 0, slots := 0, locals := 0 } : Room)) (fun a U => a = #[(.ref a1)] ∧ Z.Warmed39 U.vm ∧ U.heap = h0) (fun _ _ _ _ _ => True) (fun _ U o U' => ∃ v L, o = .returned v ∧ Q4 Z r h0 n0 v U'.heap L ∧ FrameEnd U o U' L ({ frames := 0, cells := 0, slots := 0, locals := 0 } : Room).cells ({ frames := 0, cells := 0, slots := 0, locals := 0 } : Room).slots) := by
  refine MetFree.of_bodySF (plainFor_of_name pn0) hisR ?_
  intro p e s m args below meth c s₁ Bd hml0 hP hK
  obtain ⟨rfl, hZ, hh⟩ := hP
  have hx := Bd.exec
  have hby := Bd.bytes
  have hml : c.maxLocals = 1 := hml0
  have hown : s.vm.findClass "com/example/bucket/bucket/ingest/PointRun" = some m.cls := findClass_of_methodNamed Bd.named
  have hnm := (name_of_methodNamed Bd.named Bd.method).1
  have X0 : Stand p l e ({ frames := 0, cells := 0, slots := 0, locals := 0 } : Room) s m #[(.ref a1)] below meth c s₁ [] 0 0 := Stand.of_body Bd
  have e0 : s₁.heap = h0 := by rw [← hh, Bd.state]; rfl
  have N0 := Fr.nil n0
  have pre0 : ∀ t, Steps p.tables e below (s₁.setTop (mkF m 0 #[.val (.ref a1)] [])) t → Steps p.tables e below (s₁.setTop (entryFrame m #[(.ref a1)] 1)) t := fun t k => castTop (ef4 m a1) k
  obtain ⟨p1, p2, p3, p4, p5, p6, -, p8, p9, p10, p11⟩ := P
  rcases hr with ⟨hc, rfl⟩ | ⟨hc, rfl⟩
  · have C23 : ∀ t, Steps p.tables e below (s₁.setTop (mkF m 1 #[.val (.ref a1)] [(.ref a1)])) t → Steps p.tables e below (s₁.setTop (entryFrame m #[(.ref a1)] 1)) t := by
      intro t k
      refine pre0 t ?_
      show Steps p.tables e below (s₁.setTop (mkF m 0 #[.val (.ref a1)] [])) _
      refine XS.aloadN X0.here hx rfl (hb hby d4_0) rfl rfl ?_
      exact k
    obtain ⟨T24, X24, e24, st24⟩ := getF X0 hx hZ hown (host := "") (Or.inl (hw _ (List.mem_of_getElem? (i := 40) rfl))) Via.refl e0 p6 (g := (mkF m 1 #[.val (.ref a1)] [(.ref a1)])) rfl rfl (hb hby d4_1)
    have C24 : ∀ t, Steps p.tables e below (T24.setTop (mkF m 4 #[.val (.ref a1)] [(.int z)])) t → Steps p.tables e below (s₁.setTop (entryFrame m #[(.ref a1)] 1)) t := fun t k => C23 t (st24 t k)
    have C25 : ∀ t, Steps p.tables e below (T24.setTop (mkF m 5 #[.val (.ref a1)] [(.ref a1), (.int z)])) t → Steps p.tables e below (s₁.setTop (entryFrame m #[(.ref a1)] 1)) t := by
      intro t k
      refine C24 t ?_
      show Steps p.tables e below (T24.setTop (mkF m 4 #[.val (.ref a1)] [(.int z)])) _
      refine XS.aloadN X24.here hx rfl (hb hby d4_4) rfl rfl ?_
      exact k
    obtain ⟨T26, X26, e26, st26⟩ := getF X24 hx hZ hown (host := "") (Or.inl (hw _ (List.mem_of_getElem? (i := 15) rfl))) Via.refl e24 p3 (g := (mkF m 5 #[.val (.ref a1)] [(.ref a1), (.int z)])) rfl rfl (hb hby d4_5)
    have C26 : ∀ t, Steps p.tables e below (T26.setTop (mkF m 8 #[.val (.ref a1)] [(.ref ta), (.int z)])) t → Steps p.tables e below (s₁.setTop (entryFrame m #[(.ref a1)] 1)) t := fun t k => C25 t (st26 t k)
    obtain ⟨c27, A27, S27, V27⟩ := id p9
    have C28 : ∀ t, Steps p.tables e below (T26.setTop (mkF m 17 #[.val (.ref a1)] [(.int (1 : Int32))])) t → Steps p.tables e below (s₁.setTop (entryFrame m #[(.ref a1)] 1)) t := by
      intro t k
      refine C26 t ?_
      show Steps p.tables e below (T26.setTop (mkF m 8 #[.val (.ref a1)] [(.ref ta), (.int z)])) _
      refine X26.arraylength hx (by rw [e26]; exact A27.1) (State.isArrayOf_alike hZ.alike A27.2.1) (g := (mkF m 8 #[.val (.ref a1)] [(.ref ta), (.int z)])) rfl rfl (hb hby d4_8) _ ?_
      rw [len_of S27 hcc]
      show Steps p.tables e below (T26.setTop (mkF m 9 #[.val (.ref a1)] [(.int cc), (.int z)])) _
      refine XS.icmpNo X26.here hx rfl (hb hby d4_9) rfl (XT.ii_ne_f hc) ?_
      show Steps p.tables e below (T26.setTop (mkF m 12 #[.val (.ref a1)] [])) _
      refine XS.iconst X26.here hx rfl (hb hby d4_12) ?_
      show Steps p.tables e below (T26.setTop (mkF m 13 #[.val (.ref a1)] [(.int (1 : Int32))])) _
      refine XS.goto X26.here hx rfl (pc0 := 13) (pc' := 17) rfl (hb hby d4_13) (by decide) (by decide) ?_
      exact k
    obtain ⟨fs, hr, hrun, hended, hW, hsame⟩ := X26.leave (v := some (.int (1 : Int32))) (fun h => by rw [Bd.returns] at h; cases h)
    refine ⟨_, _, C28 _ ?_, hrun, hended, _, _, rfl, ?_, ⟨_, rfl⟩, hW, hsame.mono (by decide) (by decide)⟩
    · show Steps p.tables e below (T26.setTop (mkF m 17 #[.val (.ref a1)] [(.int (1 : Int32))])) _
      exact retN X26 hx (t := .boolean) Bd.returns (by simp) (hb hby d4_17) hr
    · show Q4 Z (1 : Int32) h0 n0 _ T26.heap _
      rw [e26]
      exact ⟨rfl, N0, rfl⟩
  · have C29 : ∀ t, Steps p.tables e below (s₁.setTop (mkF m 1 #[.val (.ref a1)] [(.ref a1)])) t → Steps p.tables e below (s₁.setTop (entryFrame m #[(.ref a1)] 1)) t := by
      intro t k
      refine pre0 t ?_
      show Steps p.tables e below (s₁.setTop (mkF m 0 #[.val (.ref a1)] [])) _
      refine XS.aloadN X0.here hx rfl (hb hby d4_0) rfl rfl ?_
      exact k
    obtain ⟨T30, X30, e30, st30⟩ := getF X0 hx hZ hown (host := "") (Or.inl (hw _ (List.mem_of_getElem? (i := 40) rfl))) Via.refl e0 p6 (g := (mkF m 1 #[.val (.ref a1)] [(.ref a1)])) rfl rfl (hb hby d4_1)
    have C30 : ∀ t, Steps p.tables e below (T30.setTop (mkF m 4 #[.val (.ref a1)] [(.int z)])) t → Steps p.tables e below (s₁.setTop (entryFrame m #[(.ref a1)] 1)) t := fun t k => C29 t (st30 t k)
    have C31 : ∀ t, Steps p.tables e below (T30.setTop (mkF m 5 #[.val (.ref a1)] [(.ref a1), (.int z)])) t → Steps p.tables e below (s₁.setTop (entryFrame m #[(.ref a1)] 1)) t := by
      intro t k
      refine C30 t ?_
      show Steps p.tables e below (T30.setTop (mkF m 4 #[.val (.ref a1)] [(.int z)])) _
      refine XS.aloadN X30.here hx rfl (hb hby d4_4) rfl rfl ?_
      exact k
    obtain ⟨T32, X32, e32, st32⟩ := getF X30 hx hZ hown (host := "") (Or.inl (hw _ (List.mem_of_getElem? (i := 15) rfl))) Via.refl e30 p3 (g := (mkF m 5 #[.val (.ref a1)] [(.ref a1), (.int z)])) rfl rfl (hb hby d4_5)
    have C32 : ∀ t, Steps p.tables e below (T32.setTop (mkF m 8 #[.val (.ref a1)] [(.ref ta), (.int z)])) t → Steps p.tables e below (s₁.setTop (entryFrame m #[(.ref a1)] 1)) t := fun t k => C31 t (st32 t k)
    obtain ⟨c33, A33, S33, V33⟩ := id p9
    have C34 : ∀ t, Steps p.tables e below (T32.setTop (mkF m 17 #[.val (.ref a1)] [(.int (0 : Int32))])) t → Steps p.tables e below (s₁.setTop (entryFrame m #[(.ref a1)] 1)) t := by
      intro t k
      refine C32 t ?_
      show Steps p.tables e below (T32.setTop (mkF m 8 #[.val (.ref a1)] [(.ref ta), (.int z)])) _
      refine X32.arraylength hx (by rw [e32]; exact A33.1) (State.isArrayOf_alike hZ.alike A33.2.1) (g := (mkF m 8 #[.val (.ref a1)] [(.ref ta), (.int z)])) rfl rfl (hb hby d4_8) _ ?_
      rw [len_of S33 hcc]
      show Steps p.tables e below (T32.setTop (mkF m 9 #[.val (.ref a1)] [(.int cc), (.int z)])) _
      refine XS.icmpYes X32.here hx rfl (pc0 := 9) (pc' := 16) rfl (hb hby d4_9) rfl (XT.ii_ne_t hc) (by decide) (by decide) ?_
      show Steps p.tables e below (T32.setTop (mkF m 16 #[.val (.ref a1)] [])) _
      refine XS.iconst X32.here hx rfl (hb hby d4_16) ?_
      exact k
    obtain ⟨fs, hr, hrun, hended, hW, hsame⟩ := X32.leave (v := some (.int (0 : Int32))) (fun h => by rw [Bd.returns] at h; cases h)
    refine ⟨_, _, C34 _ ?_, hrun, hended, _, _, rfl, ?_, ⟨_, rfl⟩, hW, hsame.mono (by decide) (by decide)⟩
    · show Steps p.tables e below (T32.setTop (mkF m 17 #[.val (.ref a1)] [(.int (0 : Int32))])) _
      exact retN X32 hx (t := .boolean) Bd.returns (by simp) (hb hby d4_17) hr
    · show Q4 Z (0 : Int32) h0 n0 _ T32.heap _
      rw [e32]
      exact ⟨rfl, N0, rfl⟩
def Q6 (Z : State) (h0 : Heap) (n0 : Nat) (v : Option Value) (h : Heap) (L : List Loc) : Prop := v = some .null ∧ Fr n0 L ∧ h = h0
theorem ef6 (m : MethodId) (x0 : Addr) : entryFrame m #[(.ref x0)] 1 = mkF m 0 #[.val (.ref x0)] [] := by first | (simp [entryFrame, mkF, argsToLocals, Value.category]; done) | rfl
theorem d6_0 : decode prog_22_method_3_code 0 = .ok (.aload_n 0, 1) := by decide +kernel
theorem d6_1 : decode prog_22_method_3_code 1 = .ok (.getfield 7, 3) := by decide +kernel
theorem d6_4 : decode prog_22_method_3_code 4 = .ok (.areturn, 1) := by decide +kernel
set_option maxRecDepth 65536 in
set_option maxHeartbeats 40000000 in
theorem rm6 (l : Launch) (Z : State) (a0 : Array Value) (hw : ∀ d ∈ tables_1, d.before a0 Z = true) (ws : List Jvm.Cond) (a1 : Addr) (h0 : Heap) (n0 : Nat) (Z0 : n0 ≤ h0.size) (F1 : Fld Z h0 a1 "com/example/bucket/bucket/lineformat/Point" "series" "Lcom/example/bucket/bucket/lineformat/Series;" .null) :
    MetFree l (⟨"com/example/bucket/bucket/lineformat/Point", "series", "()Lcom/example/bucket/bucket/lineformat/Series;"⟩ : MethodName) (head1 (Jvm.Cond.code (⟨"com/example/bucket/bucket/lineformat/Point", "series", "()Lcom/example/bucket/bucket/lineformat/Series;"⟩ : MethodName) prog_22_method_3_code 1 (some (.object "com/example/bucket/bucket/lineformat/Series")) :: ws) ({ frames := 0, cells := 0, slots := 0, locals := 0 } : Room)) (fun a U => a = #[(.ref a1)] ∧ Z.Warmed39 U.vm ∧ U.heap = h0) (fun _ _ _ _ _ => True) (fun _ U o U' => ∃ v L, o = .returned v ∧ Q6 Z h0 n0 v U'.heap L ∧ FrameEnd U o U' L ({ frames := 0, cells := 0, slots := 0, locals := 0 } : Room).cells ({ frames := 0, cells := 0, slots := 0, locals := 0 } : Room).slots) := by
  refine MetFree.of_bodySF (plainFor_of_name pn1) hisR ?_
  intro p e s m args below meth c s₁ Bd hml0 hP hK
  obtain ⟨rfl, hZ, hh⟩ := hP
  have hx := Bd.exec
  have hby := Bd.bytes
  have hml : c.maxLocals = 1 := hml0
  have hown : s.vm.findClass "com/example/bucket/bucket/lineformat/Point" = some m.cls := findClass_of_methodNamed Bd.named
  have hnm := (name_of_methodNamed Bd.named Bd.method).1
  have X0 : Stand p l e ({ frames := 0, cells := 0, slots := 0, locals := 0 } : Room) s m #[(.ref a1)] below meth c s₁ [] 0 0 := Stand.of_body Bd
  have e0 : s₁.heap = h0 := by rw [← hh, Bd.state]; rfl
  have N0 := Fr.nil n0
  have pre0 : ∀ t, Steps p.tables e below (s₁.setTop (mkF m 0 #[.val (.ref a1)] [])) t → Steps p.tables e below (s₁.setTop (entryFrame m #[(.ref a1)] 1)) t := fun t k => castTop (ef6 m a1) k
  have C35 : ∀ t, Steps p.tables e below (s₁.setTop (mkF m 1 #[.val (.ref a1)] [(.ref a1)])) t → Steps p.tables e below (s₁.setTop (entryFrame m #[(.ref a1)] 1)) t := by
    intro t k
    refine pre0 t ?_
    show Steps p.tables e below (s₁.setTop (mkF m 0 #[.val (.ref a1)] [])) _
    refine XS.aloadN X0.here hx rfl (hb hby d6_0) rfl rfl ?_
    exact k
  obtain ⟨T36, X36, e36, st36⟩ := getF X0 hx hZ hown (host := "") (Or.inl (hw _ (List.mem_of_getElem? (i := 29) rfl))) Via.refl e0 F1 (g := (mkF m 1 #[.val (.ref a1)] [(.ref a1)])) rfl rfl (hb hby d6_1)
  have C36 : ∀ t, Steps p.tables e below (T36.setTop (mkF m 4 #[.val (.ref a1)] [.null])) t → Steps p.tables e below (s₁.setTop (entryFrame m #[(.ref a1)] 1)) t := fun t k => C35 t (st36 t k)
  obtain ⟨fs, hr, hrun, hended, hW, hsame⟩ := X36.leave (v := some .null) (fun h => by rw [Bd.returns] at h; cases h)
  refine ⟨_, _, C36 _ ?_, hrun, hended, _, _, rfl, ?_, ⟨_, rfl⟩, hW, hsame.mono (by decide) (by decide)⟩
  · show Steps p.tables e below (T36.setTop (mkF m 4 #[.val (.ref a1)] [.null])) _
    exact retOut X36 hx Bd.returns rfl (Or.inr (Or.inr (Or.inr (Or.inr ⟨rfl, rfl, rfl⟩)))) (hb hby d6_4) hr
  · show Q6 Z h0 n0 _ T36.heap _
    rw [e36]
    exact ⟨rfl, N0, rfl⟩
def Q7 (Z : State) (q1 : Int64) (h0 : Heap) (n0 : Nat) (v : Option Value) (h : Heap) (L : List Loc) : Prop := v = some (.long q1) ∧ Fr n0 L ∧ h = h0
theorem ef7 (m : MethodId) (x0 : Addr) : entryFrame m #[(.ref x0)] 1 = mkF m 0 #[.val (.ref x0)] [] := by first | (simp [entryFrame, mkF, argsToLocals, Value.category]; done) | rfl
theorem d7_0 : decode prog_22_method_4_code 0 = .ok (.aload_n 0, 1) := by decide +kernel
theorem d7_1 : decode prog_22_method_4_code 1 = .ok (.getfield 13, 3) := by decide +kernel
theorem d7_4 : decode prog_22_method_4_code 4 = .ok (.lreturn, 1) := by decide +kernel
set_option maxRecDepth 65536 in
set_option maxHeartbeats 40000000 in
theorem rm7 (l : Launch) (Z : State) (a0 : Array Value) (hw : ∀ d ∈ tables_1, d.before a0 Z = true) (ws : List Jvm.Cond) (a1 : Addr) (q1 : Int64) (h0 : Heap) (n0 : Nat) (Z0 : n0 ≤ h0.size) (F1 : Fld Z h0 a1 "com/example/bucket/bucket/lineformat/Point" "time" "J" (.long q1)) :
    MetFree l (⟨"com/example/bucket/bucket/lineformat/Point", "time", "()J"⟩ : MethodName) (head1 (Jvm.Cond.code (⟨"com/example/bucket/bucket/lineformat/Point", "time", "()J"⟩ : MethodName) prog_22_method_4_code 1 (some .long) :: ws) ({ frames := 0, cells := 0, slots := 0, locals := 0 } : Room)) (fun a U => a = #[(.ref a1)] ∧ Z.Warmed39 U.vm ∧ U.heap = h0) (fun _ _ _ _ _ => True) (fun _ U o U' => ∃ v L, o = .returned v ∧ Q7 Z q1 h0 n0 v U'.heap L ∧ FrameEnd U o U' L ({ frames := 0, cells := 0, slots := 0, locals := 0 } : Room).cells ({ frames := 0, cells := 0, slots := 0, locals := 0 } : Room).slots) := by
  refine MetFree.of_bodySF (plainFor_of_name pn1) hisR ?_
  intro p e s m args below meth c s₁ Bd hml0 hP hK
  obtain ⟨rfl, hZ, hh⟩ := hP
  have hx := Bd.exec
  have hby := Bd.bytes
  have hml : c.maxLocals = 1 := hml0
  have hown : s.vm.findClass "com/example/bucket/bucket/lineformat/Point" = some m.cls := findClass_of_methodNamed Bd.named
  have hnm := (name_of_methodNamed Bd.named Bd.method).1
  have X0 : Stand p l e ({ frames := 0, cells := 0, slots := 0, locals := 0 } : Room) s m #[(.ref a1)] below meth c s₁ [] 0 0 := Stand.of_body Bd
  have e0 : s₁.heap = h0 := by rw [← hh, Bd.state]; rfl
  have N0 := Fr.nil n0
  have pre0 : ∀ t, Steps p.tables e below (s₁.setTop (mkF m 0 #[.val (.ref a1)] [])) t → Steps p.tables e below (s₁.setTop (entryFrame m #[(.ref a1)] 1)) t := fun t k => castTop (ef7 m a1) k
  have C37 : ∀ t, Steps p.tables e below (s₁.setTop (mkF m 1 #[.val (.ref a1)] [(.ref a1)])) t → Steps p.tables e below (s₁.setTop (entryFrame m #[(.ref a1)] 1)) t := by
    intro t k
    refine pre0 t ?_
    show Steps p.tables e below (s₁.setTop (mkF m 0 #[.val (.ref a1)] [])) _
    refine XS.aloadN X0.here hx rfl (hb hby d7_0) rfl rfl ?_
    exact k
  obtain ⟨T38, X38, e38, st38⟩ := getF X0 hx hZ hown (host := "") (Or.inl (hw _ (List.mem_of_getElem? (i := 31) rfl))) Via.refl e0 F1 (g := (mkF m 1 #[.val (.ref a1)] [(.ref a1)])) rfl rfl (hb hby d7_1)
  have C38 : ∀ t, Steps p.tables e below (T38.setTop (mkF m 4 #[.val (.ref a1)] [(.long q1)])) t → Steps p.tables e below (s₁.setTop (entryFrame m #[(.ref a1)] 1)) t := fun t k => C37 t (st38 t k)
  obtain ⟨fs, hr, hrun, hended, hW, hsame⟩ := X38.leave (v := some (.long q1)) (fun h => by rw [Bd.returns] at h; cases h)
  refine ⟨_, _, C38 _ ?_, hrun, hended, _, _, rfl, ?_, ⟨_, rfl⟩, hW, hsame.mono (by decide) (by decide)⟩
  · show Steps p.tables e below (T38.setTop (mkF m 4 #[.val (.ref a1)] [(.long q1)])) _
    exact retOut X38 hx Bd.returns rfl (Or.inr (Or.inl ⟨rfl, rfl, _, rfl⟩)) (hb hby d7_4) hr
  · show Q7 Z q1 h0 n0 _ T38.heap _
    rw [e38]
    exact ⟨rfl, N0, rfl⟩
def Q8 (Z : State) (x1 : UInt64) (h0 : Heap) (n0 : Nat) (v : Option Value) (h : Heap) (L : List Loc) : Prop := v = some (.double x1) ∧ Fr n0 L ∧ h = h0
theorem ef8 (m : MethodId) (x0 : Addr) : entryFrame m #[(.ref x0)] 1 = mkF m 0 #[.val (.ref x0)] [] := by first | (simp [entryFrame, mkF, argsToLocals, Value.category]; done) | rfl
theorem d8_0 : decode prog_22_method_5_code 0 = .ok (.aload_n 0, 1) := by decide +kernel
theorem d8_1 : decode prog_22_method_5_code 1 = .ok (.getfield 17, 3) := by decide +kernel
theorem d8_4 : decode prog_22_method_5_code 4 = .ok (.dreturn, 1) := by decide +kernel
set_option maxRecDepth 65536 in
set_option maxHeartbeats 40000000 in
theorem rm8 (l : Launch) (Z : State) (a0 : Array Value) (hw : ∀ d ∈ tables_1, d.before a0 Z = true) (ws : List Jvm.Cond) (a1 : Addr) (x1 : UInt64) (h0 : Heap) (n0 : Nat) (Z0 : n0 ≤ h0.size) (F1 : Fld Z h0 a1 "com/example/bucket/bucket/lineformat/Point" "value" "D" (.double x1)) :
    MetFree l (⟨"com/example/bucket/bucket/lineformat/Point", "value", "()D"⟩ : MethodName) (head1 (Jvm.Cond.code (⟨"com/example/bucket/bucket/lineformat/Point", "value", "()D"⟩ : MethodName) prog_22_method_5_code 1 (some .double) :: ws) ({ frames := 0, cells := 0, slots := 0, locals := 0 } : Room)) (fun a U => a = #[(.ref a1)] ∧ Z.Warmed39 U.vm ∧ U.heap = h0) (fun _ _ _ _ _ => True) (fun _ U o U' => ∃ v L, o = .returned v ∧ Q8 Z x1 h0 n0 v U'.heap L ∧ FrameEnd U o U' L ({ frames := 0, cells := 0, slots := 0, locals := 0 } : Room).cells ({ frames := 0, cells := 0, slots := 0, locals := 0 } : Room).slots) := by
  refine MetFree.of_bodySF (plainFor_of_name pn1) hisR ?_
  intro p e s m args below meth c s₁ Bd hml0 hP hK
  obtain ⟨rfl, hZ, hh⟩ := hP
  have hx := Bd.exec
  have hby := Bd.bytes
  have hml : c.maxLocals = 1 := hml0
  have hown : s.vm.findClass "com/example/bucket/bucket/lineformat/Point" = some m.cls := findClass_of_methodNamed Bd.named
  have hnm := (name_of_methodNamed Bd.named Bd.method).1
  have X0 : Stand p l e ({ frames := 0, cells := 0, slots := 0, locals := 0 } : Room) s m #[(.ref a1)] below meth c s₁ [] 0 0 := Stand.of_body Bd
  have e0 : s₁.heap = h0 := by rw [← hh, Bd.state]; rfl
  have N0 := Fr.nil n0
  have pre0 : ∀ t, Steps p.tables e below (s₁.setTop (mkF m 0 #[.val (.ref a1)] [])) t → Steps p.tables e below (s₁.setTop (entryFrame m #[(.ref a1)] 1)) t := fun t k => castTop (ef8 m a1) k
  have C39 : ∀ t, Steps p.tables e below (s₁.setTop (mkF m 1 #[.val (.ref a1)] [(.ref a1)])) t → Steps p.tables e below (s₁.setTop (entryFrame m #[(.ref a1)] 1)) t := by
    intro t k
    refine pre0 t ?_
    show Steps p.tables e below (s₁.setTop (mkF m 0 #[.val (.ref a1)] [])) _
    refine XS.aloadN X0.here hx rfl (hb hby d8_0) rfl rfl ?_
    exact k
  obtain ⟨T40, X40, e40, st40⟩ := getF X0 hx hZ hown (host := "") (Or.inl (hw _ (List.mem_of_getElem? (i := 33) rfl))) Via.refl e0 F1 (g := (mkF m 1 #[.val (.ref a1)] [(.ref a1)])) rfl rfl (hb hby d8_1)
  have C40 : ∀ t, Steps p.tables e below (T40.setTop (mkF m 4 #[.val (.ref a1)] [(.double x1)])) t → Steps p.tables e below (s₁.setTop (entryFrame m #[(.ref a1)] 1)) t := fun t k => C39 t (st40 t k)
  obtain ⟨fs, hr, hrun, hended, hW, hsame⟩ := X40.leave (v := some (.double x1)) (fun h => by rw [Bd.returns] at h; cases h)
  refine ⟨_, _, C40 _ ?_, hrun, hended, _, _, rfl, ?_, ⟨_, rfl⟩, hW, hsame.mono (by decide) (by decide)⟩
  · show Steps p.tables e below (T40.setTop (mkF m 4 #[.val (.ref a1)] [(.double x1)])) _
    exact retOut X40 hx Bd.returns rfl (Or.inr (Or.inr (Or.inl ⟨rfl, rfl, _, rfl⟩))) (hb hby d8_4) hr
  · show Q8 Z x1 h0 n0 _ T40.heap _
    rw [e40]
    exact ⟨rfl, N0, rfl⟩
theorem pd0 : parseMethodDescriptor "()Lcom/example/bucket/bucket/lineformat/Series;" = some ⟨[], some (.object "com/example/bucket/bucket/lineformat/Series")⟩ := by decide +kernel
theorem pd1 : parseMethodDescriptor "()J" = some ⟨[], some .long⟩ := by decide +kernel
theorem pd2 : parseMethodDescriptor "()D" = some ⟨[], some .double⟩ := by decide +kernel
def Q5 (Z : State) (a1 o1 sa ta va ea : Addr) (n : Nat) (z' : Int32) (q1 : Int64) (x1 : UInt64) (h0 : Heap) (n0 : Nat) (v : Option Value) (h : Heap) (L : List Loc) : Prop := v = none ∧ Fr n0 L ∧ OwnP Z h a1 sa ta va ea n z' ∧ OwnQ Z h o1 q1 x1 ∧ h0.size ≤ h.size
theorem ef5 (m : MethodId) (x0 : Addr) (x1 : Addr) (x2 : Int64) : entryFrame m #[(.ref x0), (.ref x1), (.long x2)] 4 = mkF m 0 #[.val (.ref x0), .val (.ref x1), .val (.long x2), .second] [] := by first | (simp [entryFrame, mkF, argsToLocals, Value.category]; done) | rfl
theorem d5_0 : decode prog_13_method_4_code 0 = .ok (.aload_n 0, 1) := by decide +kernel
theorem d5_1 : decode prog_13_method_4_code 1 = .ok (.getfield 9, 3) := by decide +kernel
theorem d5_4 : decode prog_13_method_4_code 4 = .ok (.aload_n 0, 1) := by decide +kernel
theorem d5_5 : decode prog_13_method_4_code 5 = .ok (.getfield 33, 3) := by decide +kernel
theorem d5_8 : decode prog_13_method_4_code 8 = .ok (.aload_n 1, 1) := by decide +kernel
theorem d5_9 : decode prog_13_method_4_code 9 = .ok (.invokevirtual 37, 3) := by decide +kernel
theorem d5_12 : decode prog_13_method_4_code 12 = .ok (.aastore, 1) := by decide +kernel
theorem d5_13 : decode prog_13_method_4_code 13 = .ok (.aload_n 0, 1) := by decide +kernel
theorem d5_14 : decode prog_13_method_4_code 14 = .ok (.getfield 15, 3) := by decide +kernel
theorem d5_17 : decode prog_13_method_4_code 17 = .ok (.aload_n 0, 1) := by decide +kernel
theorem d5_18 : decode prog_13_method_4_code 18 = .ok (.getfield 33, 3) := by decide +kernel
theorem d5_21 : decode prog_13_method_4_code 21 = .ok (.aload_n 1, 1) := by decide +kernel
theorem d5_22 : decode prog_13_method_4_code 22 = .ok (.invokevirtual 42, 3) := by decide +kernel
theorem d5_25 : decode prog_13_method_4_code 25 = .ok (.lastore, 1) := by decide +kernel
theorem d5_26 : decode prog_13_method_4_code 26 = .ok (.aload_n 0, 1) := by decide +kernel
theorem d5_27 : decode prog_13_method_4_code 27 = .ok (.getfield 19, 3) := by decide +kernel
theorem d5_30 : decode prog_13_method_4_code 30 = .ok (.aload_n 0, 1) := by decide +kernel
theorem d5_31 : decode prog_13_method_4_code 31 = .ok (.getfield 33, 3) := by decide +kernel
theorem d5_34 : decode prog_13_method_4_code 34 = .ok (.aload_n 1, 1) := by decide +kernel
theorem d5_35 : decode prog_13_method_4_code 35 = .ok (.invokevirtual 46, 3) := by decide +kernel
theorem d5_38 : decode prog_13_method_4_code 38 = .ok (.dastore, 1) := by decide +kernel
theorem d5_39 : decode prog_13_method_4_code 39 = .ok (.aload_n 0, 1) := by decide +kernel
theorem d5_40 : decode prog_13_method_4_code 40 = .ok (.getfield 23, 3) := by decide +kernel
theorem d5_43 : decode prog_13_method_4_code 43 = .ok (.aload_n 0, 1) := by decide +kernel
theorem d5_44 : decode prog_13_method_4_code 44 = .ok (.getfield 33, 3) := by decide +kernel
theorem d5_47 : decode prog_13_method_4_code 47 = .ok (.lload_n 2, 1) := by decide +kernel
theorem d5_48 : decode prog_13_method_4_code 48 = .ok (.lastore, 1) := by decide +kernel
theorem d5_49 : decode prog_13_method_4_code 49 = .ok (.aload_n 0, 1) := by decide +kernel
theorem d5_50 : decode prog_13_method_4_code 50 = .ok (.dup, 1) := by decide +kernel
theorem d5_51 : decode prog_13_method_4_code 51 = .ok (.getfield 33, 3) := by decide +kernel
theorem d5_54 : decode prog_13_method_4_code 54 = .ok (.iconst 1, 1) := by decide +kernel
theorem d5_55 : decode prog_13_method_4_code 55 = .ok (.iadd, 1) := by decide +kernel
theorem d5_56 : decode prog_13_method_4_code 56 = .ok (.putfield 33, 3) := by decide +kernel
theorem d5_59 : decode prog_13_method_4_code 59 = .ok (.return_, 1) := by decide +kernel
set_option maxRecDepth 65536 in
set_option maxHeartbeats 40000000 in
theorem rm5 (l : Launch) (Z : State) (a0 : Array Value) (hw : ∀ d ∈ tables_1, d.before a0 Z = true) (ws : List Jvm.Cond) (a1 o1 : Addr) (q2 : Int64) (sa ta va ea : Addr) (n : Nat) (z z' : Int32) (q1 : Int64) (x1 : UInt64) (h0 : Heap) (n0 : Nat) (Z0 : n0 ≤ h0.size) (P : OwnP Z h0 a1 sa ta va ea n z) (Q : OwnQ Z h0 o1 q1 x1) (hz : ¬ z < 0 ∧ z.toNatClampNeg < n) (hz' : z + (1 : Int32) = z') (g1 : n0 ≤ a1) (gs : n0 ≤ sa) (gt : n0 ≤ ta) (gv : n0 ≤ va) (ge : n0 ≤ ea) :
    MetFree l (⟨"com/example/bucket/bucket/ingest/PointRun", "add", "(Lcom/example/bucket/bucket/lineformat/Point;J)V"⟩ : MethodName) (head1 (Jvm.Cond.code (⟨"com/example/bucket/bucket/ingest/PointRun", "add", "(Lcom/example/bucket/bucket/lineformat/Point;J)V"⟩ : MethodName) prog_13_method_4_code 4 none :: ws) ({ frames := 1, cells := 0, slots := 0, locals := 14 } : Room)) (fun a U => a = #[(.ref a1), (.ref o1), (.long q2)] ∧ Z.Warmed39 U.vm ∧ U.heap = h0) (fun _ _ _ _ _ => True) (fun _ U o U' => ∃ v L, o = .returned v ∧ Q5 Z a1 o1 sa ta va ea n z' q1 x1 h0 n0 v U'.heap L ∧ FrameEnd U o U' L ({ frames := 1, cells := 0, slots := 0, locals := 14 } : Room).cells ({ frames := 1, cells := 0, slots := 0, locals := 14 } : Room).slots) := by
  refine MetFree.of_bodySF (plainFor_of_name pn0) hisR ?_
  intro p e s m args below meth c s₁ Bd hml0 hP hK
  obtain ⟨rfl, hZ, hh⟩ := hP
  have hx := Bd.exec
  have hby := Bd.bytes
  have hml : c.maxLocals = 4 := hml0
  have hown : s.vm.findClass "com/example/bucket/bucket/ingest/PointRun" = some m.cls := findClass_of_methodNamed Bd.named
  have hnm := (name_of_methodNamed Bd.named Bd.method).1
  have X0 : Stand p l e ({ frames := 1, cells := 0, slots := 0, locals := 14 } : Room) s m #[(.ref a1), (.ref o1), (.long q2)] below meth c s₁ [] 0 0 := Stand.of_body Bd
  have e0 : s₁.heap = h0 := by rw [← hh, Bd.state]; rfl
  have N0 := Fr.nil n0
  have pre0 : ∀ t, Steps p.tables e below (s₁.setTop (mkF m 0 #[.val (.ref a1), .val (.ref o1), .val (.long q2), .second] [])) t → Steps p.tables e below (s₁.setTop (entryFrame m #[(.ref a1), (.ref o1), (.long q2)] 4)) t := fun t k => castTop (ef5 m a1 o1 q2) k
  have ni := own_pq_ne (hw _ (List.mem_of_getElem? (i := 23) rfl)) P Q
  have o_a : o1 ≠ a1 := fun y => ni (List.mem_of_getElem? (i := 0) (by rw [y]; rfl))
  have o_s : o1 ≠ sa := fun y => ni (List.mem_of_getElem? (i := 1) (by rw [y]; rfl))
  have o_t : o1 ≠ ta := fun y => ni (List.mem_of_getElem? (i := 2) (by rw [y]; rfl))
  have o_v : o1 ≠ va := fun y => ni (List.mem_of_getElem? (i := 3) (by rw [y]; rfl))
  have o_e : o1 ≠ ea := fun y => ni (List.mem_of_getElem? (i := 4) (by rw [y]; rfl))
  obtain ⟨p1, p2, p3, p4, p5, p6, ⟨mg, p7⟩, p8, p9, p10, p11⟩ := P
  obtain ⟨q_0, q_1, q_2, q_3⟩ := Q
  have a_s := own_ne p1 (hw _ (List.mem_of_getElem? (i := 2) rfl)) p8
  have a_t := own_ne p1 (hw _ (List.mem_of_getElem? (i := 2) rfl)) p9
  have a_v := own_ne p1 (hw _ (List.mem_of_getElem? (i := 2) rfl)) p10
  have a_e := own_ne p1 (hw _ (List.mem_of_getElem? (i := 2) rfl)) p11
  have C41 : ∀ t, Steps p.tables e below (s₁.setTop (mkF m 1 #[.val (.ref a1), .val (.ref o1), .val (.long q2), .second] [(.ref a1)])) t → Steps p.tables e below (s₁.setTop (entryFrame m #[(.ref a1), (.ref o1), (.long q2)] 4)) t := by
    intro t k
    refine pre0 t ?_
    show Steps p.tables e below (s₁.setTop (mkF m 0 #[.val (.ref a1), .val (.ref o1), .val (.long q2), .second] [])) _
    refine XS.aloadN X0.here hx rfl (hb hby d5_0) rfl rfl ?_
    exact k
  obtain ⟨T42, X42, e42, st42⟩ := getF X0 hx hZ hown (host := "") (Or.inl (hw _ (List.mem_of_getElem? (i := 12) rfl))) Via.refl e0 p2 (g := (mkF m 1 #[.val (.ref a1), .val (.ref o1), .val (.long q2), .second] [(.ref a1)])) rfl rfl (hb hby d5_1)
  have C42 : ∀ t, Steps p.tables e below (T42.setTop (mkF m 4 #[.val (.ref a1), .val (.ref o1), .val (.long q2), .second] [(.ref sa)])) t → Steps p.tables e below (s₁.setTop (entryFrame m #[(.ref a1), (.ref o1), (.long q2)] 4)) t := fun t k => C41 t (st42 t k)
  have C43 : ∀ t, Steps p.tables e below (T42.setTop (mkF m 5 #[.val (.ref a1), .val (.ref o1), .val (.long q2), .second] [(.ref a1), (.ref sa)])) t → Steps p.tables e below (s₁.setTop (entryFrame m #[(.ref a1), (.ref o1), (.long q2)] 4)) t := by
    intro t k
    refine C42 t ?_
    show Steps p.tables e below (T42.setTop (mkF m 4 #[.val (.ref a1), .val (.ref o1), .val (.long q2), .second] [(.ref sa)])) _
    refine XS.aloadN X42.here hx rfl (hb hby d5_4) rfl rfl ?_
    exact k
  obtain ⟨T44, X44, e44, st44⟩ := getF X42 hx hZ hown (host := "") (Or.inl (hw _ (List.mem_of_getElem? (i := 40) rfl))) Via.refl e42 p6 (g := (mkF m 5 #[.val (.ref a1), .val (.ref o1), .val (.long q2), .second] [(.ref a1), (.ref sa)])) rfl rfl (hb hby d5_5)
  have C44 : ∀ t, Steps p.tables e below (T44.setTop (mkF m 8 #[.val (.ref a1), .val (.ref o1), .val (.long q2), .second] [(.int z), (.ref sa)])) t → Steps p.tables e below (s₁.setTop (entryFrame m #[(.ref a1), (.ref o1), (.long q2)] 4)) t := fun t k => C43 t (st44 t k)
  have C45 : ∀ t, Steps p.tables e below (T44.setTop (mkF m 9 #[.val (.ref a1), .val (.ref o1), .val (.long q2), .second] [(.ref o1), (.int z), (.ref sa)])) t → Steps p.tables e below (s₁.setTop (entryFrame m #[(.ref a1), (.ref o1), (.long q2)] 4)) t := by
    intro t k
    refine C44 t ?_
    show Steps p.tables e below (T44.setTop (mkF m 8 #[.val (.ref a1), .val (.ref o1), .val (.long q2), .second] [(.int z), (.ref sa)])) _
    refine XS.aloadN X44.here hx rfl (hb hby d5_8) rfl rfl ?_
    exact k
  obtain ⟨cq46, kq46, q46a, q46b, q46c⟩ := isOf hZ e44 q_0
  obtain ⟨_, _, ⟨T46, L46, k46, n46⟩, -, X46, ⟨Lc46, hQ46, l46, y46, z46⟩, st46⟩ := X44.virtualBack hx (y := (⟨"com/example/bucket/bucket/lineformat/Point", "series", "()Lcom/example/bucket/bucket/lineformat/Series;"⟩ : MethodName)) (z := (⟨"com/example/bucket/bucket/lineformat/Point", "series", "()Lcom/example/bucket/bucket/lineformat/Series;"⟩ : MethodName)) hown (mvT hZ (hw _ (List.mem_of_getElem? (i := 47) rfl))) (mvT hZ (hw _ (List.mem_of_getElem? (i := 48) rfl))) (notFace_of_selects (args := #[]) (mvT hZ (hw _ (List.mem_of_getElem? (i := 50) rfl)))) (mvT hZ (hw _ (List.mem_of_getElem? (i := 50) rfl))) (mvT hZ (hw _ (List.mem_of_getElem? (i := 49) rfl))) (by decide) (backOf (W := 2) (rm6 l Z a0 hw [] o1 h0 n0 Z0 q_1) hZ (hw _ (List.mem_of_getElem? (i := 51) rfl)) (hw _ (List.mem_of_getElem? (i := 24) rfl)) (by decide) (by decide)) q46a q46c (g := (mkF m 9 #[.val (.ref a1), .val (.ref o1), .val (.long q2), .second] [(.ref o1), (.int z), (.ref sa)])) rfl (by rw [hml]; rfl) (Steps.refl _) (argsL := []) (rest := [(.int z), (.ref sa)]) (lenOf pd0 rfl) rfl (by show 2 * 0 + _ ≤ _; exact Nat.le_of_eq rfl) (hb hby d5_9) (fun _ _ => ⟨rfl, e44, (by decide : 0 + 0 ≤ _), (by decide : 0 + 0 ≤ _)⟩)
  dsimp only [Pt.U, Pt.locs, Pt.cells, Pt.slots] at X46 l46 y46 z46 st46 hQ46
  subst l46 y46 z46
  obtain ⟨rfl, N46q, q46⟩ := hQ46
  have N46 := Fr.app N0 N46q
  have C46 : ∀ t, Steps p.tables e below (T46.setTop (mkF m 12 #[.val (.ref a1), .val (.ref o1), .val (.long q2), .second] [.null, (.int z), (.ref sa)])) t → Steps p.tables e below (s₁.setTop (entryFrame m #[(.ref a1), (.ref o1), (.long q2)] 4)) t := fun t k => C45 t (st46.trans k)
  obtain ⟨c47, A47, S47, V47⟩ := id p8
  obtain ⟨T47, h47, X47, e47, W47, st47⟩ := stR X46 hx hZ q46 A47 (j := z) (own_in hz S47) rfl (Or.inl rfl) (g := (mkF m 12 #[.val (.ref a1), .val (.ref o1), .val (.long q2), .second] [.null, (.int z), (.ref sa)])) rfl rfl (hb hby d5_12)
  have N47 := Fr.snoc X47 N46 gs
  have C47 : ∀ t, Steps p.tables e below (T47.setTop (mkF m 13 #[.val (.ref a1), .val (.ref o1), .val (.long q2), .second] [])) t → Steps p.tables e below (s₁.setTop (entryFrame m #[(.ref a1), (.ref o1), (.long q2)] 4)) t := fun t k => C46 t (st47 t k)
  have P47_series := p2.other W47 (Or.inl a_s)
  have P47_times := p3.other W47 (Or.inl a_s)
  have P47_values := p4.other W47 (Or.inl a_s)
  have P47_ends := p5.other W47 (Or.inl a_s)
  have P47_size := p6.other W47 (Or.inl a_s)
  have P47_merged := p7.other W47 (Or.inl a_s)
  have P47_E := p1.wr W47
  have P47_Ls := p8.wr W47
  have P47_Lt := p9.wr W47
  have P47_Lv := p10.wr W47
  have P47_Le := p11.wr W47
  have P47_Q0 := q_0.wr W47
  have P47_Q1 := q_1.other W47 (Or.inl o_s)
  have P47_Q2 := q_2.other W47 (Or.inl o_s)
  have P47_Q3 := q_3.other W47 (Or.inl o_s)
  have K47 : Keep h0 h47 [a1, sa, ta, va, ea] := ((Keep.refl h0 [a1, sa, ta, va, ea]).wr W47 (Or.inl (List.mem_of_getElem? (i := 1) rfl)))
  have Z47 : n0 ≤ h47.size := Nat.le_trans Z0 K47.1
  have C48 : ∀ t, Steps p.tables e below (T47.setTop (mkF m 14 #[.val (.ref a1), .val (.ref o1), .val (.long q2), .second] [(.ref a1)])) t → Steps p.tables e below (s₁.setTop (entryFrame m #[(.ref a1), (.ref o1), (.long q2)] 4)) t := by
    intro t k
    refine C47 t ?_
    show Steps p.tables e below (T47.setTop (mkF m 13 #[.val (.ref a1), .val (.ref o1), .val (.long q2), .second] [])) _
    refine XS.aloadN X47.here hx rfl (hb hby d5_13) rfl rfl ?_
    exact k
  obtain ⟨T49, X49, e49, st49⟩ := getF X47 hx hZ hown (host := "") (Or.inl (hw _ (List.mem_of_getElem? (i := 15) rfl))) Via.refl e47 P47_times (g := (mkF m 14 #[.val (.ref a1), .val (.ref o1), .val (.long q2), .second] [(.ref a1)])) rfl rfl (hb hby d5_14)
  have C49 : ∀ t, Steps p.tables e below (T49.setTop (mkF m 17 #[.val (.ref a1), .val (.ref o1), .val (.long q2), .second] [(.ref ta)])) t → Steps p.tables e below (s₁.setTop (entryFrame m #[(.ref a1), (.ref o1), (.long q2)] 4)) t := fun t k => C48 t (st49 t k)
  have C50 : ∀ t, Steps p.tables e below (T49.setTop (mkF m 18 #[.val (.ref a1), .val (.ref o1), .val (.long q2), .second] [(.ref a1), (.ref ta)])) t → Steps p.tables e below (s₁.setTop (entryFrame m #[(.ref a1), (.ref o1), (.long q2)] 4)) t := by
    intro t k
    refine C49 t ?_
    show Steps p.tables e below (T49.setTop (mkF m 17 #[.val (.ref a1), .val (.ref o1), .val (.long q2), .second] [(.ref ta)])) _
    refine XS.aloadN X49.here hx rfl (hb hby d5_17) rfl rfl ?_
    exact k
  obtain ⟨T51, X51, e51, st51⟩ := getF X49 hx hZ hown (host := "") (Or.inl (hw _ (List.mem_of_getElem? (i := 40) rfl))) Via.refl e49 P47_size (g := (mkF m 18 #[.val (.ref a1), .val (.ref o1), .val (.long q2), .second] [(.ref a1), (.ref ta)])) rfl rfl (hb hby d5_18)
  have C51 : ∀ t, Steps p.tables e below (T51.setTop (mkF m 21 #[.val (.ref a1), .val (.ref o1), .val (.long q2), .second] [(.int z), (.ref ta)])) t → Steps p.tables e below (s₁.setTop (entryFrame m #[(.ref a1), (.ref o1), (.long q2)] 4)) t := fun t k => C50 t (st51 t k)
  have C52 : ∀ t, Steps p.tables e below (T51.setTop (mkF m 22 #[.val (.ref a1), .val (.ref o1), .val (.long q2), .second] [(.ref o1), (.int z), (.ref ta)])) t → Steps p.tables e below (s₁.setTop (entryFrame m #[(.ref a1), (.ref o1), (.long q2)] 4)) t := by
    intro t k
    refine C51 t ?_
    show Steps p.tables e below (T51.setTop (mkF m 21 #[.val (.ref a1), .val (.ref o1), .val (.long q2), .second] [(.int z), (.ref ta)])) _
    refine XS.aloadN X51.here hx rfl (hb hby d5_21) rfl rfl ?_
    exact k
  obtain ⟨cq53, kq53, q53a, q53b, q53c⟩ := isOf hZ e51 P47_Q0
  obtain ⟨_, _, ⟨T53, L53, k53, n53⟩, -, X53, ⟨Lc53, hQ53, l53, y53, z53⟩, st53⟩ := X51.virtualBack hx (y := (⟨"com/example/bucket/bucket/lineformat/Point", "time", "()J"⟩ : MethodName)) (z := (⟨"com/example/bucket/bucket/lineformat/Point", "time", "()J"⟩ : MethodName)) hown (mvT hZ (hw _ (List.mem_of_getElem? (i := 52) rfl))) (mvT hZ (hw _ (List.mem_of_getElem? (i := 53) rfl))) (notFace_of_selects (args := #[]) (mvT hZ (hw _ (List.mem_of_getElem? (i := 55) rfl)))) (mvT hZ (hw _ (List.mem_of_getElem? (i := 55) rfl))) (mvT hZ (hw _ (List.mem_of_getElem? (i := 54) rfl))) (by decide) (backOf (W := 2) (rm7 l Z a0 hw [] o1 q1 h47 n0 Z47 P47_Q2) hZ (hw _ (List.mem_of_getElem? (i := 56) rfl)) (hw _ (List.mem_of_getElem? (i := 24) rfl)) (by decide) (by decide)) q53a q53c (g := (mkF m 22 #[.val (.ref a1), .val (.ref o1), .val (.long q2), .second] [(.ref o1), (.int z), (.ref ta)])) rfl (by rw [hml]; rfl) (Steps.refl _) (argsL := []) (rest := [(.int z), (.ref ta)]) (lenOf pd1 rfl) rfl (by show 2 * 0 + _ ≤ _; exact Nat.le_of_eq rfl) (hb hby d5_22) (fun _ _ => ⟨rfl, e51, (by decide : 0 + 0 ≤ _), (by decide : 0 + 0 ≤ _)⟩)
  dsimp only [Pt.U, Pt.locs, Pt.cells, Pt.slots] at X53 l53 y53 z53 st53 hQ53
  subst l53 y53 z53
  obtain ⟨rfl, N53q, q53⟩ := hQ53
  have N53 := Fr.app N47 N53q
  have C53 : ∀ t, Steps p.tables e below (T53.setTop (mkF m 25 #[.val (.ref a1), .val (.ref o1), .val (.long q2), .second] [(.long q1), (.int z), (.ref ta)])) t → Steps p.tables e below (s₁.setTop (entryFrame m #[(.ref a1), (.ref o1), (.long q2)] 4)) t := fun t k => C52 t (st53.trans k)
  obtain ⟨c54, A54, S54, V54⟩ := id P47_Lt
  obtain ⟨T54, h54, X54, e54, W54, st54⟩ := stJ X53 hx hZ q53 A54 (j := z) (own_in hz S54) (g := (mkF m 25 #[.val (.ref a1), .val (.ref o1), .val (.long q2), .second] [(.long q1), (.int z), (.ref ta)])) rfl rfl (hb hby d5_25)
  have N54 := Fr.snoc X54 N53 gt
  have C54 : ∀ t, Steps p.tables e below (T54.setTop (mkF m 26 #[.val (.ref a1), .val (.ref o1), .val (.long q2), .second] [])) t → Steps p.tables e below (s₁.setTop (entryFrame m #[(.ref a1), (.ref o1), (.long q2)] 4)) t := fun t k => C53 t (st54 t k)
  have P54_series := P47_series.other W54 (Or.inl a_t)
  have P54_times := P47_times.other W54 (Or.inl a_t)
  have P54_values := P47_values.other W54 (Or.inl a_t)
  have P54_ends := P47_ends.other W54 (Or.inl a_t)
  have P54_size := P47_size.other W54 (Or.inl a_t)
  have P54_merged := P47_merged.other W54 (Or.inl a_t)
  have P54_E := P47_E.wr W54
  have P54_Ls := P47_Ls.wr W54
  have P54_Lt := P47_Lt.wr W54
  have P54_Lv := P47_Lv.wr W54
  have P54_Le := P47_Le.wr W54
  have P54_Q0 := P47_Q0.wr W54
  have P54_Q1 := P47_Q1.other W54 (Or.inl o_t)
  have P54_Q2 := P47_Q2.other W54 (Or.inl o_t)
  have P54_Q3 := P47_Q3.other W54 (Or.inl o_t)
  have K54 : Keep h0 h54 [a1, sa, ta, va, ea] := (K47.wr W54 (Or.inl (List.mem_of_getElem? (i := 2) rfl)))
  have Z54 : n0 ≤ h54.size := Nat.le_trans Z0 K54.1
  have C55 : ∀ t, Steps p.tables e below (T54.setTop (mkF m 27 #[.val (.ref a1), .val (.ref o1), .val (.long q2), .second] [(.ref a1)])) t → Steps p.tables e below (s₁.setTop (entryFrame m #[(.ref a1), (.ref o1), (.long q2)] 4)) t := by
    intro t k
    refine C54 t ?_
    show Steps p.tables e below (T54.setTop (mkF m 26 #[.val (.ref a1), .val (.ref o1), .val (.long q2), .second] [])) _
    refine XS.aloadN X54.here hx rfl (hb hby d5_26) rfl rfl ?_
    exact k
  obtain ⟨T56, X56, e56, st56⟩ := getF X54 hx hZ hown (host := "") (Or.inl (hw _ (List.mem_of_getElem? (i := 18) rfl))) Via.refl e54 P54_values (g := (mkF m 27 #[.val (.ref a1), .val (.ref o1), .val (.long q2), .second] [(.ref a1)])) rfl rfl (hb hby d5_27)
  have C56 : ∀ t, Steps p.tables e below (T56.setTop (mkF m 30 #[.val (.ref a1), .val (.ref o1), .val (.long q2), .second] [(.ref va)])) t → Steps p.tables e below (s₁.setTop (entryFrame m #[(.ref a1), (.ref o1), (.long q2)] 4)) t := fun t k => C55 t (st56 t k)
  have C57 : ∀ t, Steps p.tables e below (T56.setTop (mkF m 31 #[.val (.ref a1), .val (.ref o1), .val (.long q2), .second] [(.ref a1), (.ref va)])) t → Steps p.tables e below (s₁.setTop (entryFrame m #[(.ref a1), (.ref o1), (.long q2)] 4)) t := by
    intro t k
    refine C56 t ?_
    show Steps p.tables e below (T56.setTop (mkF m 30 #[.val (.ref a1), .val (.ref o1), .val (.long q2), .second] [(.ref va)])) _
    refine XS.aloadN X56.here hx rfl (hb hby d5_30) rfl rfl ?_
    exact k
  obtain ⟨T58, X58, e58, st58⟩ := getF X56 hx hZ hown (host := "") (Or.inl (hw _ (List.mem_of_getElem? (i := 40) rfl))) Via.refl e56 P54_size (g := (mkF m 31 #[.val (.ref a1), .val (.ref o1), .val (.long q2), .second] [(.ref a1), (.ref va)])) rfl rfl (hb hby d5_31)
  have C58 : ∀ t, Steps p.tables e below (T58.setTop (mkF m 34 #[.val (.ref a1), .val (.ref o1), .val (.long q2), .second] [(.int z), (.ref va)])) t → Steps p.tables e below (s₁.setTop (entryFrame m #[(.ref a1), (.ref o1), (.long q2)] 4)) t := fun t k => C57 t (st58 t k)
  have C59 : ∀ t, Steps p.tables e below (T58.setTop (mkF m 35 #[.val (.ref a1), .val (.ref o1), .val (.long q2), .second] [(.ref o1), (.int z), (.ref va)])) t → Steps p.tables e below (s₁.setTop (entryFrame m #[(.ref a1), (.ref o1), (.long q2)] 4)) t := by
    intro t k
    refine C58 t ?_
    show Steps p.tables e below (T58.setTop (mkF m 34 #[.val (.ref a1), .val (.ref o1), .val (.long q2), .second] [(.int z), (.ref va)])) _
    refine XS.aloadN X58.here hx rfl (hb hby d5_34) rfl rfl ?_
    exact k
  obtain ⟨cq60, kq60, q60a, q60b, q60c⟩ := isOf hZ e58 P54_Q0
  obtain ⟨_, _, ⟨T60, L60, k60, n60⟩, -, X60, ⟨Lc60, hQ60, l60, y60, z60⟩, st60⟩ := X58.virtualBack hx (y := (⟨"com/example/bucket/bucket/lineformat/Point", "value", "()D"⟩ : MethodName)) (z := (⟨"com/example/bucket/bucket/lineformat/Point", "value", "()D"⟩ : MethodName)) hown (mvT hZ (hw _ (List.mem_of_getElem? (i := 57) rfl))) (mvT hZ (hw _ (List.mem_of_getElem? (i := 58) rfl))) (notFace_of_selects (args := #[]) (mvT hZ (hw _ (List.mem_of_getElem? (i := 60) rfl)))) (mvT hZ (hw _ (List.mem_of_getElem? (i := 60) rfl))) (mvT hZ (hw _ (List.mem_of_getElem? (i := 59) rfl))) (by decide) (backOf (W := 2) (rm8 l Z a0 hw [] o1 x1 h54 n0 Z54 P54_Q3) hZ (hw _ (List.mem_of_getElem? (i := 61) rfl)) (hw _ (List.mem_of_getElem? (i := 24) rfl)) (by decide) (by decide)) q60a q60c (g := (mkF m 35 #[.val (.ref a1), .val (.ref o1), .val (.long q2), .second] [(.ref o1), (.int z), (.ref va)])) rfl (by rw [hml]; rfl) (Steps.refl _) (argsL := []) (rest := [(.int z), (.ref va)]) (lenOf pd2 rfl) rfl (by show 2 * 0 + _ ≤ _; exact Nat.le_of_eq rfl) (hb hby d5_35) (fun _ _ => ⟨rfl, e58, (by decide : 0 + 0 ≤ _), (by decide : 0 + 0 ≤ _)⟩)
  dsimp only [Pt.U, Pt.locs, Pt.cells, Pt.slots] at X60 l60 y60 z60 st60 hQ60
  subst l60 y60 z60
  obtain ⟨rfl, N60q, q60⟩ := hQ60
  have N60 := Fr.app N54 N60q
  have C60 : ∀ t, Steps p.tables e below (T60.setTop (mkF m 38 #[.val (.ref a1), .val (.ref o1), .val (.long q2), .second] [(.double x1), (.int z), (.ref va)])) t → Steps p.tables e below (s₁.setTop (entryFrame m #[(.ref a1), (.ref o1), (.long q2)] 4)) t := fun t k => C59 t (st60.trans k)
  obtain ⟨c61, A61, S61, V61⟩ := id P54_Lv
  obtain ⟨T61, h61, X61, e61, W61, st61⟩ := stD X60 hx hZ q60 A61 (j := z) (own_in hz S61) (g := (mkF m 38 #[.val (.ref a1), .val (.ref o1), .val (.long q2), .second] [(.double x1), (.int z), (.ref va)])) rfl rfl (hb hby d5_38)
  have N61 := Fr.snoc X61 N60 gv
  have C61 : ∀ t, Steps p.tables e below (T61.setTop (mkF m 39 #[.val (.ref a1), .val (.ref o1), .val (.long q2), .second] [])) t → Steps p.tables e below (s₁.setTop (entryFrame m #[(.ref a1), (.ref o1), (.long q2)] 4)) t := fun t k => C60 t (st61 t k)
  have P61_series := P54_series.other W61 (Or.inl a_v)
  have P61_times := P54_times.other W61 (Or.inl a_v)
  have P61_values := P54_values.other W61 (Or.inl a_v)
  have P61_ends := P54_ends.other W61 (Or.inl a_v)
  have P61_size := P54_size.other W61 (Or.inl a_v)
  have P61_merged := P54_merged.other W61 (Or.inl a_v)
  have P61_E := P54_E.wr W61
  have P61_Ls := P54_Ls.wr W61
  have P61_Lt := P54_Lt.wr W61
  have P61_Lv := P54_Lv.wr W61
  have P61_Le := P54_Le.wr W61
  have P61_Q0 := P54_Q0.wr W61
  have P61_Q1 := P54_Q1.other W61 (Or.inl o_v)
  have P61_Q2 := P54_Q2.other W61 (Or.inl o_v)
  have P61_Q3 := P54_Q3.other W61 (Or.inl o_v)
  have K61 : Keep h0 h61 [a1, sa, ta, va, ea] := (K54.wr W61 (Or.inl (List.mem_of_getElem? (i := 3) rfl)))
  have Z61 : n0 ≤ h61.size := Nat.le_trans Z0 K61.1
  have C62 : ∀ t, Steps p.tables e below (T61.setTop (mkF m 40 #[.val (.ref a1), .val (.ref o1), .val (.long q2), .second] [(.ref a1)])) t → Steps p.tables e below (s₁.setTop (entryFrame m #[(.ref a1), (.ref o1), (.long q2)] 4)) t := by
    intro t k
    refine C61 t ?_
    show Steps p.tables e below (T61.setTop (mkF m 39 #[.val (.ref a1), .val (.ref o1), .val (.long q2), .second] [])) _
    refine XS.aloadN X61.here hx rfl (hb hby d5_39) rfl rfl ?_
    exact k
  obtain ⟨T63, X63, e63, st63⟩ := getF X61 hx hZ hown (host := "") (Or.inl (hw _ (List.mem_of_getElem? (i := 20) rfl))) Via.refl e61 P61_ends (g := (mkF m 40 #[.val (.ref a1), .val (.ref o1), .val (.long q2), .second] [(.ref a1)])) rfl rfl (hb hby d5_40)
  have C63 : ∀ t, Steps p.tables e below (T63.setTop (mkF m 43 #[.val (.ref a1), .val (.ref o1), .val (.long q2), .second] [(.ref ea)])) t → Steps p.tables e below (s₁.setTop (entryFrame m #[(.ref a1), (.ref o1), (.long q2)] 4)) t := fun t k => C62 t (st63 t k)
  have C64 : ∀ t, Steps p.tables e below (T63.setTop (mkF m 44 #[.val (.ref a1), .val (.ref o1), .val (.long q2), .second] [(.ref a1), (.ref ea)])) t → Steps p.tables e below (s₁.setTop (entryFrame m #[(.ref a1), (.ref o1), (.long q2)] 4)) t := by
    intro t k
    refine C63 t ?_
    show Steps p.tables e below (T63.setTop (mkF m 43 #[.val (.ref a1), .val (.ref o1), .val (.long q2), .second] [(.ref ea)])) _
    refine XS.aloadN X63.here hx rfl (hb hby d5_43) rfl rfl ?_
    exact k
  obtain ⟨T65, X65, e65, st65⟩ := getF X63 hx hZ hown (host := "") (Or.inl (hw _ (List.mem_of_getElem? (i := 40) rfl))) Via.refl e63 P61_size (g := (mkF m 44 #[.val (.ref a1), .val (.ref o1), .val (.long q2), .second] [(.ref a1), (.ref ea)])) rfl rfl (hb hby d5_44)
  have C65 : ∀ t, Steps p.tables e below (T65.setTop (mkF m 47 #[.val (.ref a1), .val (.ref o1), .val (.long q2), .second] [(.int z), (.ref ea)])) t → Steps p.tables e below (s₁.setTop (entryFrame m #[(.ref a1), (.ref o1), (.long q2)] 4)) t := fun t k => C64 t (st65 t k)
  have C66 : ∀ t, Steps p.tables e below (T65.setTop (mkF m 48 #[.val (.ref a1), .val (.ref o1), .val (.long q2), .second] [(.long q2), (.int z), (.ref ea)])) t → Steps p.tables e below (s₁.setTop (entryFrame m #[(.ref a1), (.ref o1), (.long q2)] 4)) t := by
    intro t k
    refine C65 t ?_
    show Steps p.tables e below (T65.setTop (mkF m 47 #[.val (.ref a1), .val (.ref o1), .val (.long q2), .second] [(.int z), (.ref ea)])) _
    refine XS.lloadN X65.here hx rfl (hb hby d5_47) rfl ?_
    exact k
  obtain ⟨c67, A67, S67, V67⟩ := id P61_Le
  obtain ⟨T67, h67, X67, e67, W67, st67⟩ := stJ X65 hx hZ e65 A67 (j := z) (own_in hz S67) (g := (mkF m 48 #[.val (.ref a1), .val (.ref o1), .val (.long q2), .second] [(.long q2), (.int z), (.ref ea)])) rfl rfl (hb hby d5_48)
  have N67 := Fr.snoc X67 N61 ge
  have C67 : ∀ t, Steps p.tables e below (T67.setTop (mkF m 49 #[.val (.ref a1), .val (.ref o1), .val (.long q2), .second] [])) t → Steps p.tables e below (s₁.setTop (entryFrame m #[(.ref a1), (.ref o1), (.long q2)] 4)) t := fun t k => C66 t (st67 t k)
  have P67_series := P61_series.other W67 (Or.inl a_e)
  have P67_times := P61_times.other W67 (Or.inl a_e)
  have P67_values := P61_values.other W67 (Or.inl a_e)
  have P67_ends := P61_ends.other W67 (Or.inl a_e)
  have P67_size := P61_size.other W67 (Or.inl a_e)
  have P67_merged := P61_merged.other W67 (Or.inl a_e)
  have P67_E := P61_E.wr W67
  have P67_Ls := P61_Ls.wr W67
  have P67_Lt := P61_Lt.wr W67
  have P67_Lv := P61_Lv.wr W67
  have P67_Le := P61_Le.wr W67
  have P67_Q0 := P61_Q0.wr W67
  have P67_Q1 := P61_Q1.other W67 (Or.inl o_e)
  have P67_Q2 := P61_Q2.other W67 (Or.inl o_e)
  have P67_Q3 := P61_Q3.other W67 (Or.inl o_e)
  have K67 : Keep h0 h67 [a1, sa, ta, va, ea] := (K61.wr W67 (Or.inl (List.mem_of_getElem? (i := 4) rfl)))
  have Z67 : n0 ≤ h67.size := Nat.le_trans Z0 K67.1
  have C68 : ∀ t, Steps p.tables e below (T67.setTop (mkF m 51 #[.val (.ref a1), .val (.ref o1), .val (.long q2), .second] [(.ref a1), (.ref a1)])) t → Steps p.tables e below (s₁.setTop (entryFrame m #[(.ref a1), (.ref o1), (.long q2)] 4)) t := by
    intro t k
    refine C67 t ?_
    show Steps p.tables e below (T67.setTop (mkF m 49 #[.val (.ref a1), .val (.ref o1), .val (.long q2), .second] [])) _
    refine XS.aloadN X67.here hx rfl (hb hby d5_49) rfl rfl ?_
    show Steps p.tables e below (T67.setTop (mkF m 50 #[.val (.ref a1), .val (.ref o1), .val (.long q2), .second] [(.ref a1)])) _
    refine XS.dup X67.here hx rfl (hb hby d5_50) rfl rfl ?_
    exact k
  obtain ⟨T69, X69, e69, st69⟩ := getF X67 hx hZ hown (host := "") (Or.inl (hw _ (List.mem_of_getElem? (i := 40) rfl))) Via.refl e67 P67_size (g := (mkF m 51 #[.val (.ref a1), .val (.ref o1), .val (.long q2), .second] [(.ref a1), (.ref a1)])) rfl rfl (hb hby d5_51)
  have C69 : ∀ t, Steps p.tables e below (T69.setTop (mkF m 54 #[.val (.ref a1), .val (.ref o1), .val (.long q2), .second] [(.int z), (.ref a1)])) t → Steps p.tables e below (s₁.setTop (entryFrame m #[(.ref a1), (.ref o1), (.long q2)] 4)) t := fun t k => C68 t (st69 t k)
  have C70 : ∀ t, Steps p.tables e below (T69.setTop (mkF m 56 #[.val (.ref a1), .val (.ref o1), .val (.long q2), .second] [(.int (z + (1 : Int32))), (.ref a1)])) t → Steps p.tables e below (s₁.setTop (entryFrame m #[(.ref a1), (.ref o1), (.long q2)] 4)) t := by
    intro t k
    refine C69 t ?_
    show Steps p.tables e below (T69.setTop (mkF m 54 #[.val (.ref a1), .val (.ref o1), .val (.long q2), .second] [(.int z), (.ref a1)])) _
    refine XS.iconst X69.here hx rfl (hb hby d5_54) ?_
    show Steps p.tables e below (T69.setTop (mkF m 55 #[.val (.ref a1), .val (.ref o1), .val (.long q2), .second] [(.int (1 : Int32)), (.int z), (.ref a1)])) _
    refine XS.iadd X69.here hx rfl (hb hby d5_55) rfl ?_
    exact k
  rw [hz'] at C70
  obtain ⟨T71, h71, X71, e71, W71, st71⟩ := putF X69 hx hZ hown (host := "") (Or.inl (hw _ (List.mem_of_getElem? (i := 40) rfl))) Via.refl e69 P67_size P67_E (Or.inl (hw _ (List.mem_of_getElem? (i := 41) rfl))) (hw _ (List.mem_of_getElem? (i := 2) rfl)) (ty := .int) (by decide) rfl rfl (g := (mkF m 56 #[.val (.ref a1), .val (.ref o1), .val (.long q2), .second] [(.int z'), (.ref a1)])) rfl rfl (hb hby d5_56)
  have N71 := Fr.snoc X71 N67 g1
  have C71 : ∀ t, Steps p.tables e below (T71.setTop (mkF m 59 #[.val (.ref a1), .val (.ref o1), .val (.long q2), .second] [])) t → Steps p.tables e below (s₁.setTop (entryFrame m #[(.ref a1), (.ref o1), (.long q2)] 4)) t := fun t k => C70 t (st71 t k)
  have R_series := P67_series.other W71 (Or.inr (slot_ne (Or.inr (hw _ (List.mem_of_getElem? (i := 13) rfl))) (Or.inl (hw _ (List.mem_of_getElem? (i := 41) rfl))) (by decide) (t := (.array (.object "com/example/bucket/bucket/lineformat/Series"))) (t' := .int) (by decide) (by decide)))
  have R_times := P67_times.other W71 (Or.inr (slot_ne (Or.inr (hw _ (List.mem_of_getElem? (i := 16) rfl))) (Or.inl (hw _ (List.mem_of_getElem? (i := 41) rfl))) (by decide) (t := (.array .long)) (t' := .int) (by decide) (by decide)))
  have R_values := P67_values.other W71 (Or.inr (slot_ne (Or.inr (hw _ (List.mem_of_getElem? (i := 19) rfl))) (Or.inl (hw _ (List.mem_of_getElem? (i := 41) rfl))) (by decide) (t := (.array .double)) (t' := .int) (by decide) (by decide)))
  have R_ends := P67_ends.other W71 (Or.inr (slot_ne (Or.inr (hw _ (List.mem_of_getElem? (i := 21) rfl))) (Or.inl (hw _ (List.mem_of_getElem? (i := 41) rfl))) (by decide) (t := (.array .long)) (t' := .int) (by decide) (by decide)))
  have R_merged := P67_merged.other W71 (Or.inr (slot_ne (Or.inl (hw _ (List.mem_of_getElem? (i := 75) rfl))) (Or.inl (hw _ (List.mem_of_getElem? (i := 41) rfl))) (by decide) (t := .int) (t' := .int) (by decide) (by decide)))
  have PP : OwnP Z h71 a1 sa ta va ea n z' := ⟨P67_E.wr W71, R_series, R_times, R_values, R_ends, P67_size.same W71, ⟨mg, R_merged⟩, P67_Ls.wr W71, P67_Lt.wr W71, P67_Lv.wr W71, P67_Le.wr W71⟩
  have QQ : OwnQ Z h71 o1 q1 x1 := OwnQ.wr ⟨P67_Q0, P67_Q1, P67_Q2, P67_Q3⟩ W71 o_a
  have KK : Keep h0 h71 [a1, sa, ta, va, ea] := K67.wr W71 (Or.inl (List.mem_of_getElem? (i := 0) rfl))
  obtain ⟨fs, hr, hrun, hended, hW, hsame⟩ := X71.leave (v := none) (fun _ => rfl)
  refine ⟨_, _, C71 _ ?_, hrun, hended, _, _, rfl, ?_, ⟨_, rfl⟩, hW, hsame.mono (by decide) (by decide)⟩
  · show Steps p.tables e below (T71.setTop (mkF m 59 #[.val (.ref a1), .val (.ref o1), .val (.long q2), .second] [])) _
    exact X71.returnOut hx Bd.returns (hb hby d5_59) hr
  · show Q5 Z a1 o1 sa ta va ea n z' q1 x1 h0 n0 _ T71.heap _
    rw [e71]
    exact ⟨rfl, N71, PP, QQ, KK.1⟩
def Q11 (Z : State) (h0 : Heap) (n0 : Nat) (v : Option Value) (h : Heap) (L : List Loc) : Prop := v = none ∧ Fr n0 L ∧ h = h0
theorem pn2 : plainName "java/util/Arrays" = true := by first | (simp [plainName, overriddenIn]; done) | decide +kernel
theorem ef11 (m : MethodId) (x0 : Int32) (x1 : Int32) (x2 : Int32) : entryFrame m #[(.int x0), (.int x1), (.int x2)] 3 = mkF m 0 #[.val (.int x0), .val (.int x1), .val (.int x2)] [] := by first | (simp [entryFrame, mkF, argsToLocals, Value.category]; done) | rfl
theorem d11_0 : decode jdk_65_method_30_code 0 = .ok (.iload_n 1, 1) := by decide +kernel
theorem d11_1 : decode jdk_65_method_30_code 1 = .ok (.iload_n 2, 1) := by decide +kernel
theorem d11_2 : decode jdk_65_method_30_code 2 = .ok (.if_icmp .le 44, 3) := by decide +kernel
theorem d11_46 : decode jdk_65_method_30_code 46 = .ok (.iload_n 1, 1) := by decide +kernel
theorem d11_47 : decode jdk_65_method_30_code 47 = .ok (.ifCond .ge 12, 3) := by decide +kernel
theorem d11_59 : decode jdk_65_method_30_code 59 = .ok (.iload_n 2, 1) := by decide +kernel
theorem d11_60 : decode jdk_65_method_30_code 60 = .ok (.iload_n 0, 1) := by decide +kernel
theorem d11_61 : decode jdk_65_method_30_code 61 = .ok (.if_icmp .le 12, 3) := by decide +kernel
theorem d11_73 : decode jdk_65_method_30_code 73 = .ok (.return_, 1) := by decide +kernel
set_option maxRecDepth 65536 in
set_option maxHeartbeats 40000000 in
theorem rm11 (l : Launch) (Z : State) (a0 : Array Value) (hw : ∀ d ∈ tables_1, d.before a0 Z = true) (ws : List Jvm.Cond) (u1 u2 u3 : Int32) (h0 : Heap) (n0 : Nat) (Z0 : n0 ≤ h0.size) (h1 : ¬ u3 < u2) (h2 : ¬ u2 < 0) (h3 : ¬ u1 < u3) :
    MetFree l (⟨"java/util/Arrays", "rangeCheck", "(III)V"⟩ : MethodName) (head1 (Jvm.Cond.code (⟨"java/util/Arrays", "rangeCheck", "(III)V"⟩ : MethodName) jdk_65_method_30_code 3 none :: ws) ({ frames := 0, cells := 0, slots := 0, locals := 0 } : Room)) (fun a U => a = #[(.int u1), (.int u2), (.int u3)] ∧ Z.Warmed39 U.vm ∧ U.heap = h0) (fun _ _ _ _ _ => True) (fun _ U o U' => ∃ v L, o = .returned v ∧ Q11 Z h0 n0 v U'.heap L ∧ FrameEnd U o U' L ({ frames := 0, cells := 0, slots := 0, locals := 0 } : Room).cells ({ frames := 0, cells := 0, slots := 0, locals := 0 } : Room).slots) := by
  refine MetFree.of_bodySF (plainFor_of_name pn2) hisR ?_
  intro p e s m args below meth c s₁ Bd hml0 hP hK
  obtain ⟨rfl, hZ, hh⟩ := hP
  have hx := Bd.exec
  have hby := Bd.bytes
  have hml : c.maxLocals = 3 := hml0
  have hown : s.vm.findClass "java/util/Arrays" = some m.cls := findClass_of_methodNamed Bd.named
  have hnm := (name_of_methodNamed Bd.named Bd.method).1
  have X0 : Stand p l e ({ frames := 0, cells := 0, slots := 0, locals := 0 } : Room) s m #[(.int u1), (.int u2), (.int u3)] below meth c s₁ [] 0 0 := Stand.of_body Bd
  have e0 : s₁.heap = h0 := by rw [← hh, Bd.state]; rfl
  have N0 := Fr.nil n0
  have pre0 : ∀ t, Steps p.tables e below (s₁.setTop (mkF m 0 #[.val (.int u1), .val (.int u2), .val (.int u3)] [])) t → Steps p.tables e below (s₁.setTop (entryFrame m #[(.int u1), (.int u2), (.int u3)] 3)) t := fun t k => castTop (ef11 m u1 u2 u3) k
  have C72 : ∀ t, Steps p.tables e below (s₁.setTop (mkF m 73 #[.val (.int u1), .val (.int u2), .val (.int u3)] [])) t → Steps p.tables e below (s₁.setTop (entryFrame m #[(.int u1), (.int u2), (.int u3)] 3)) t := by
    intro t k
    refine pre0 t ?_
    show Steps p.tables e below (s₁.setTop (mkF m 0 #[.val (.int u1), .val (.int u2), .val (.int u3)] [])) _
    refine XS.iloadN X0.here hx rfl (hb hby d11_0) rfl ?_
    show Steps p.tables e below (s₁.setTop (mkF m 1 #[.val (.int u1), .val (.int u2), .val (.int u3)] [(.int u2)])) _
    refine XS.iloadN X0.here hx rfl (hb hby d11_1) rfl ?_
    show Steps p.tables e below (s₁.setTop (mkF m 2 #[.val (.int u1), .val (.int u2), .val (.int u3)] [(.int u3), (.int u2)])) _
    refine XS.icmpYes X0.here hx rfl (pc0 := 2) (pc' := 46) rfl (hb hby d11_2) rfl (XT.ii_le_t h1) (by decide) (by decide) ?_
    show Steps p.tables e below (s₁.setTop (mkF m 46 #[.val (.int u1), .val (.int u2), .val (.int u3)] [])) _
    refine XS.iloadN X0.here hx rfl (hb hby d11_46) rfl ?_
    show Steps p.tables e below (s₁.setTop (mkF m 47 #[.val (.int u1), .val (.int u2), .val (.int u3)] [(.int u2)])) _
    refine XS.ifYes X0.here hx rfl (pc0 := 47) (pc' := 59) rfl (hb hby d11_47) rfl (XT.i0_ge_t h2) (by decide) (by decide) ?_
    show Steps p.tables e below (s₁.setTop (mkF m 59 #[.val (.int u1), .val (.int u2), .val (.int u3)] [])) _
    refine XS.iloadN X0.here hx rfl (hb hby d11_59) rfl ?_
    show Steps p.tables e below (s₁.setTop (mkF m 60 #[.val (.int u1), .val (.int u2), .val (.int u3)] [(.int u3)])) _
    refine XS.iloadN X0.here hx rfl (hb hby d11_60) rfl ?_
    show Steps p.tables e below (s₁.setTop (mkF m 61 #[.val (.int u1), .val (.int u2), .val (.int u3)] [(.int u1), (.int u3)])) _
    refine XS.icmpYes X0.here hx rfl (pc0 := 61) (pc' := 73) rfl (hb hby d11_61) rfl (XT.ii_le_t h3) (by decide) (by decide) ?_
    exact k
  obtain ⟨fs, hr, hrun, hended, hW, hsame⟩ := X0.leave (v := none) (fun _ => rfl)
  refine ⟨_, _, C72 _ ?_, hrun, hended, _, _, rfl, ?_, ⟨_, rfl⟩, hW, hsame.mono (by decide) (by decide)⟩
  · show Steps p.tables e below (s₁.setTop (mkF m 73 #[.val (.int u1), .val (.int u2), .val (.int u3)] [])) _
    exact X0.returnOut hx Bd.returns (hb hby d11_73) hr
  · show Q11 Z h0 n0 _ s₁.heap _
    rw [e0]
    exact ⟨rfl, N0, rfl⟩
theorem pd3 : parseMethodDescriptor "(III)V" = some ⟨[.int, .int, .int], none⟩ := by decide +kernel
theorem own_nn {x : Int32} (h : ¬ x < 0) : 0 ≤ x.toInt := by
  rw [Int32.lt_iff_toInt_lt, show (0 : Int32).toInt = 0 from rfl] at h
  omega
theorem own_nneg {x : Int32} (h1 : 0 ≤ x.toInt) : ¬ x < 0 := fun q => by rw [Int32.lt_iff_toInt_lt, show (0 : Int32).toInt = 0 from rfl] at q; omega
theorem own_inb {i u cc : Int32} (h : 0 ≤ i.toInt) (h1 : i < u) (h2 : ¬ cc < u) : ¬ i < 0 ∧ i.toNatClampNeg < cc.toNatClampNeg := by
  refine ⟨own_nneg h, ?_⟩
  rw [Int32.lt_iff_toInt_lt] at h1 h2
  show i.toInt.toNat < cc.toInt.toNat
  omega
theorem own_inc (i u : Int32) (h : i < u) : (i + (1 : Int32)).toInt = i.toInt + 1 := by
  have h1 := c_iadd i 1
  rw [show (1 : Int32).toInt = 1 from rfl] at h1
  rw [Int32.lt_iff_toInt_lt] at h
  have t1 := (i + (1 : Int32)).toInt_lt
  have t2 := (i + (1 : Int32)).le_toInt
  have t3 := u.toInt_lt
  have t4 := i.le_toInt
  omega
def Q10 (Z : State) (sa : Addr) (cc : Int32) (h0 : Heap) (n0 : Nat) (v : Option Value) (h : Heap) (L : List Loc) : Prop := v = none ∧ Fr n0 L ∧ Keep h0 h [sa] ∧ OwnL Z h sa (.object "com/example/bucket/bucket/lineformat/Series") cc.toNatClampNeg
theorem ef10 (m : MethodId) (x0 : Addr) (x1 : Int32) (x2 : Int32) : entryFrame m #[(.ref x0), (.int x1), (.int x2), .null] 5 = mkF m 0 #[.val (.ref x0), .val (.int x1), .val (.int x2), .val .null, .unset] [] := by first | (simp [entryFrame, mkF, argsToLocals, Value.category]; done) | rfl
theorem d10_0 : decode jdk_65_method_118_code 0 = .ok (.aload_n 0, 1) := by decide +kernel
theorem d10_1 : decode jdk_65_method_118_code 1 = .ok (.arraylength, 1) := by decide +kernel
theorem d10_2 : decode jdk_65_method_118_code 2 = .ok (.iload_n 1, 1) := by decide +kernel
theorem d10_3 : decode jdk_65_method_118_code 3 = .ok (.iload_n 2, 1) := by decide +kernel
theorem d10_4 : decode jdk_65_method_118_code 4 = .ok (.invokestatic 13, 3) := by decide +kernel
theorem d10_7 : decode jdk_65_method_118_code 7 = .ok (.iload_n 1, 1) := by decide +kernel
theorem d10_8 : decode jdk_65_method_118_code 8 = .ok (.istore 4, 2) := by decide +kernel
theorem d10_10 : decode jdk_65_method_118_code 10 = .ok (.iload 4, 2) := by decide +kernel
theorem d10_12 : decode jdk_65_method_118_code 12 = .ok (.iload_n 2, 1) := by decide +kernel
theorem d10_13 : decode jdk_65_method_118_code 13 = .ok (.if_icmp .ge 14, 3) := by decide +kernel
theorem d10_16 : decode jdk_65_method_118_code 16 = .ok (.aload_n 0, 1) := by decide +kernel
theorem d10_17 : decode jdk_65_method_118_code 17 = .ok (.iload 4, 2) := by decide +kernel
theorem d10_19 : decode jdk_65_method_118_code 19 = .ok (.aload_n 3, 1) := by decide +kernel
theorem d10_20 : decode jdk_65_method_118_code 20 = .ok (.aastore, 1) := by decide +kernel
theorem d10_21 : decode jdk_65_method_118_code 21 = .ok (.iinc 4 1, 3) := by decide +kernel
theorem d10_24 : decode jdk_65_method_118_code 24 = .ok (.goto (-14), 3) := by decide +kernel
theorem d10_27 : decode jdk_65_method_118_code 27 = .ok (.return_, 1) := by decide +kernel
set_option maxRecDepth 65536 in
set_option maxHeartbeats 40000000 in
theorem rm10 (l : Launch) (Z : State) (a0 : Array Value) (hw : ∀ d ∈ tables_1, d.before a0 Z = true) (ws : List Jvm.Cond) (sa : Addr) (u3 cc : Int32) (h0 : Heap) (n0 : Nat) (Z0 : n0 ≤ h0.size) (A0 : OwnL Z h0 sa (.object "com/example/bucket/bucket/lineformat/Series") cc.toNatClampNeg) (hcc : ¬ cc < 0) (k2 : ¬ u3 < 0) (k3 : ¬ cc < u3) (g1 : n0 ≤ sa) :
    MetFree l (⟨"java/util/Arrays", "fill", "([Ljava/lang/Object;IILjava/lang/Object;)V"⟩ : MethodName) (head1 (Jvm.Cond.code (⟨"java/util/Arrays", "fill", "([Ljava/lang/Object;IILjava/lang/Object;)V"⟩ : MethodName) jdk_65_method_118_code 5 none :: ws) ({ frames := 1, cells := 0, slots := 0, locals := 14 } : Room)) (fun a U => a = #[(.ref sa), (.int (0 : Int32)), (.int u3), .null] ∧ Z.Warmed39 U.vm ∧ U.heap = h0) (fun _ _ _ _ _ => True) (fun _ U o U' => ∃ v L, o = .returned v ∧ Q10 Z sa cc h0 n0 v U'.heap L ∧ FrameEnd U o U' L ({ frames := 1, cells := 0, slots := 0, locals := 14 } : Room).cells ({ frames := 1, cells := 0, slots := 0, locals := 14 } : Room).slots) := by
  refine MetFree.of_bodySF (plainFor_of_name pn2) hisR ?_
  intro p e s m args below meth c s₁ Bd hml0 hP hK
  obtain ⟨rfl, hZ, hh⟩ := hP
  have hx := Bd.exec
  have hby := Bd.bytes
  have hml : c.maxLocals = 5 := hml0
  have hown : s.vm.findClass "java/util/Arrays" = some m.cls := findClass_of_methodNamed Bd.named
  have hnm := (name_of_methodNamed Bd.named Bd.method).1
  have X0 : Stand p l e ({ frames := 1, cells := 0, slots := 0, locals := 14 } : Room) s m #[(.ref sa), (.int (0 : Int32)), (.int u3), .null] below meth c s₁ [] 0 0 := Stand.of_body Bd
  have e0 : s₁.heap = h0 := by rw [← hh, Bd.state]; rfl
  have N0 := Fr.nil n0
  have pre0 : ∀ t, Steps p.tables e below (s₁.setTop (mkF m 0 #[.val (.ref sa), .val (.int (0 : Int32)), .val (.int u3), .val .null, .unset] [])) t → Steps p.tables e below (s₁.setTop (entryFrame m #[(.ref sa), (.int (0 : Int32)), (.int u3), .null] 5)) t := fun t k => castTop (ef10 m sa (0 : Int32) u3) k
  obtain ⟨c73, A73, S73, V73⟩ := id A0
  have C74 : ∀ t, Steps p.tables e below (s₁.setTop (mkF m 4 #[.val (.ref sa), .val (.int (0 : Int32)), .val (.int u3), .val .null, .unset] [(.int u3), (.int (0 : Int32)), (.int cc)])) t → Steps p.tables e below (s₁.setTop (entryFrame m #[(.ref sa), (.int (0 : Int32)), (.int u3), .null] 5)) t := by
    intro t k
    refine pre0 t ?_
    show Steps p.tables e below (s₁.setTop (mkF m 0 #[.val (.ref sa), .val (.int (0 : Int32)), .val (.int u3), .val .null, .unset] [])) _
    refine XS.aloadN X0.here hx rfl (hb hby d10_0) rfl rfl ?_
    show Steps p.tables e below (s₁.setTop (mkF m 1 #[.val (.ref sa), .val (.int (0 : Int32)), .val (.int u3), .val .null, .unset] [(.ref sa)])) _
    refine X0.arraylength hx (by rw [e0]; exact A73.1) (State.isArrayOf_alike hZ.alike A73.2.1) (g := (mkF m 1 #[.val (.ref sa), .val (.int (0 : Int32)), .val (.int u3), .val .null, .unset] [(.ref sa)])) rfl rfl (hb hby d10_1) _ ?_
    rw [len_of S73 hcc]
    show Steps p.tables e below (s₁.setTop (mkF m 2 #[.val (.ref sa), .val (.int (0 : Int32)), .val (.int u3), .val .null, .unset] [(.int cc)])) _
    refine XS.iloadN X0.here hx rfl (hb hby d10_2) rfl ?_
    show Steps p.tables e below (s₁.setTop (mkF m 3 #[.val (.ref sa), .val (.int (0 : Int32)), .val (.int u3), .val .null, .unset] [(.int (0 : Int32)), (.int cc)])) _
    refine XS.iloadN X0.here hx rfl (hb hby d10_3) rfl ?_
    exact k
  obtain ⟨_, _, ⟨T75, L75, k75, n75⟩, -, X75, ⟨Lc75, hQ75, l75, y75, z75⟩, st75⟩ := Jvm.LawKit.callS X0 hx (y := (⟨"java/util/Arrays", "rangeCheck", "(III)V"⟩ : MethodName)) hown (mvT hZ (hw _ (List.mem_of_getElem? (i := 71) rfl))) (mvT hZ (hw _ (List.mem_of_getElem? (i := 72) rfl))) (mvT hZ (hw _ (List.mem_of_getElem? (i := 69) rfl))) (mvT hZ (hw _ (List.mem_of_getElem? (i := 73) rfl))) (by decide) (backOf (W := 0) (rm11 l Z a0 hw [] cc 0 u3 h0 n0 Z0 k2 (by decide) k3) hZ (hw _ (List.mem_of_getElem? (i := 73) rfl)) (hw _ (List.mem_of_getElem? (i := 69) rfl)) (by decide) (by decide)) (g := (mkF m 4 #[.val (.ref sa), .val (.int (0 : Int32)), .val (.int u3), .val .null, .unset] [(.int u3), (.int (0 : Int32)), (.int cc)])) rfl (by rw [hml]; rfl) (argsL := [(.int cc), (.int (0 : Int32)), (.int u3)]) (rest := []) (lenOf pd3 rfl) rfl (by show 2 * 0 + _ ≤ _; exact Nat.le_of_eq rfl) (hb hby d10_4) (fun _ _ => ⟨rfl, e0, (by decide : 0 + 0 ≤ _), (by decide : 0 + 0 ≤ _)⟩)
  dsimp only [Pt.U, Pt.locs, Pt.cells, Pt.slots] at X75 l75 y75 z75 st75 hQ75
  subst l75 y75 z75
  obtain ⟨rfl, N75q, q75⟩ := hQ75
  have N75 := Fr.app N0 N75q
  have C75 : ∀ t, Steps p.tables e below (T75.setTop (mkF m 7 #[.val (.ref sa), .val (.int (0 : Int32)), .val (.int u3), .val .null, .unset] [])) t → Steps p.tables e below (s₁.setTop (entryFrame m #[(.ref sa), (.int (0 : Int32)), (.int u3), .null] 5)) t := fun t k => C74 t (st75 t k)
  have C76 : ∀ t, Steps p.tables e below (T75.setTop (mkF m 10 #[.val (.ref sa), .val (.int (0 : Int32)), .val (.int u3), .val .null, .val (.int (0 : Int32))] [])) t → Steps p.tables e below (s₁.setTop (entryFrame m #[(.ref sa), (.int (0 : Int32)), (.int u3), .null] 5)) t := by
    intro t k
    refine C75 t ?_
    show Steps p.tables e below (T75.setTop (mkF m 7 #[.val (.ref sa), .val (.int (0 : Int32)), .val (.int u3), .val .null, .unset] [])) _
    refine XS.iloadN X75.here hx rfl (hb hby d10_7) rfl ?_
    show Steps p.tables e below (T75.setTop (mkF m 8 #[.val (.ref sa), .val (.int (0 : Int32)), .val (.int u3), .val .null, .unset] [(.int (0 : Int32))])) _
    refine XS.istore X75.here hx rfl (hb hby d10_8) rfl (l' := #[.val (.ref sa), .val (.int (0 : Int32)), .val (.int u3), .val .null, .val (.int (0 : Int32))]) rfl ?_
    exact k
  have loop : ∀ (k : Nat) (i : Int32) (T : State) (lo : List Loc) (h : Heap), Stand p l e ({ frames := 1, cells := 0, slots := 0, locals := 14 } : Room) s m #[(.ref sa), (.int (0 : Int32)), (.int u3), .null] below meth c T lo 0 0 → T.heap = h → Fr n0 lo → Keep h0 h [sa] → OwnL Z h sa (.object "com/example/bucket/bucket/lineformat/Series") cc.toNatClampNeg → 0 ≤ i.toInt → i.toInt + k = u3.toInt → ∃ (T' : State) (lo' : List Loc) (h' : Heap), Stand p l e ({ frames := 1, cells := 0, slots := 0, locals := 14 } : Room) s m #[(.ref sa), (.int (0 : Int32)), (.int u3), .null] below meth c T' lo' 0 0 ∧ T'.heap = h' ∧ Fr n0 lo' ∧ Keep h0 h' [sa] ∧ OwnL Z h' sa (.object "com/example/bucket/bucket/lineformat/Series") cc.toNatClampNeg ∧ ∀ t, Steps p.tables e below (T'.setTop (mkF m 27 #[.val (.ref sa), .val (.int (0 : Int32)), .val (.int u3), .val .null, .val (.int u3)] [])) t → Steps p.tables e below (T.setTop (mkF m 10 #[.val (.ref sa), .val (.int (0 : Int32)), .val (.int u3), .val .null, .val (.int i)] [])) t := by
    intro k
    induction k with
    | zero =>
      intro i T lo h XX eT NN KK LL i1 i2
      have hi : i = u3 := Int32.toInt_inj.mp (by omega)
      subst hi
      refine ⟨T, lo, h, XX, eT, NN, KK, LL, ?_⟩
      intro t kk
      show Steps p.tables e below (T.setTop (mkF m 10 #[.val (.ref sa), .val (.int (0 : Int32)), .val (.int i), .val .null, .val (.int i)] [])) _
      refine XS.iload XX.here hx rfl (hb hby d10_10) rfl ?_
      show Steps p.tables e below (T.setTop (mkF m 12 #[.val (.ref sa), .val (.int (0 : Int32)), .val (.int i), .val .null, .val (.int i)] [(.int i)])) _
      refine XS.iloadN XX.here hx rfl (hb hby d10_12) rfl ?_
      show Steps p.tables e below (T.setTop (mkF m 13 #[.val (.ref sa), .val (.int (0 : Int32)), .val (.int i), .val .null, .val (.int i)] [(.int i), (.int i)])) _
      refine XS.icmpYes XX.here hx rfl (pc0 := 13) (pc' := 27) rfl (hb hby d10_13) rfl (XT.ii_ge_t (by rw [Int32.lt_iff_toInt_lt]; omega)) (by decide) (by decide) ?_
      exact kk
    | succ k ih =>
      intro i T lo h XX eT NN KK LL i1 i2
      have hlt : i < u3 := by rw [Int32.lt_iff_toInt_lt]; omega
      have ID : ∀ t, Steps p.tables e below (T.setTop (mkF m 10 #[.val (.ref sa), .val (.int (0 : Int32)), .val (.int u3), .val .null, .val (.int i)] [])) t → Steps p.tables e below (T.setTop (mkF m 10 #[.val (.ref sa), .val (.int (0 : Int32)), .val (.int u3), .val .null, .val (.int i)] [])) t := fun t kk => kk
      have hin : ¬ i < 0 ∧ i.toNatClampNeg < cc.toNatClampNeg := own_inb i1 hlt k3
      have C77 : ∀ t, Steps p.tables e below (T.setTop (mkF m 20 #[.val (.ref sa), .val (.int (0 : Int32)), .val (.int u3), .val .null, .val (.int i)] [.null, (.int i), (.ref sa)])) t → Steps p.tables e below (T.setTop (mkF m 10 #[.val (.ref sa), .val (.int (0 : Int32)), .val (.int u3), .val .null, .val (.int i)] [])) t := by
        intro t k
        refine ID t ?_
        show Steps p.tables e below (T.setTop (mkF m 10 #[.val (.ref sa), .val (.int (0 : Int32)), .val (.int u3), .val .null, .val (.int i)] [])) _
        refine XS.iload XX.here hx rfl (hb hby d10_10) rfl ?_
        show Steps p.tables e below (T.setTop (mkF m 12 #[.val (.ref sa), .val (.int (0 : Int32)), .val (.int u3), .val .null, .val (.int i)] [(.int i)])) _
        refine XS.iloadN XX.here hx rfl (hb hby d10_12) rfl ?_
        show Steps p.tables e below (T.setTop (mkF m 13 #[.val (.ref sa), .val (.int (0 : Int32)), .val (.int u3), .val .null, .val (.int i)] [(.int u3), (.int i)])) _
        refine XS.icmpNo XX.here hx rfl (hb hby d10_13) rfl (XT.ii_ge_f hlt) ?_
        show Steps p.tables e below (T.setTop (mkF m 16 #[.val (.ref sa), .val (.int (0 : Int32)), .val (.int u3), .val .null, .val (.int i)] [])) _
        refine XS.aloadN XX.here hx rfl (hb hby d10_16) rfl rfl ?_
        show Steps p.tables e below (T.setTop (mkF m 17 #[.val (.ref sa), .val (.int (0 : Int32)), .val (.int u3), .val .null, .val (.int i)] [(.ref sa)])) _
        refine XS.iload XX.here hx rfl (hb hby d10_17) rfl ?_
        show Steps p.tables e below (T.setTop (mkF m 19 #[.val (.ref sa), .val (.int (0 : Int32)), .val (.int u3), .val .null, .val (.int i)] [(.int i), (.ref sa)])) _
        refine XS.aloadN XX.here hx rfl (hb hby d10_19) rfl rfl ?_
        exact k
      obtain ⟨c78, A78, S78, V78⟩ := id LL
      obtain ⟨T78, h78, X78, e78, W78, st78⟩ := stR XX hx hZ eT A78 (j := i) (own_in hin S78) rfl (Or.inl rfl) (g := (mkF m 20 #[.val (.ref sa), .val (.int (0 : Int32)), .val (.int u3), .val .null, .val (.int i)] [.null, (.int i), (.ref sa)])) rfl rfl (hb hby d10_20)
      have N78 := Fr.snoc X78 NN g1
      have C78 : ∀ t, Steps p.tables e below (T78.setTop (mkF m 21 #[.val (.ref sa), .val (.int (0 : Int32)), .val (.int u3), .val .null, .val (.int i)] [])) t → Steps p.tables e below (T.setTop (mkF m 10 #[.val (.ref sa), .val (.int (0 : Int32)), .val (.int u3), .val .null, .val (.int i)] [])) t := fun t k => C77 t (st78 t k)
      have C79 : ∀ t, Steps p.tables e below (T78.setTop (mkF m 10 #[.val (.ref sa), .val (.int (0 : Int32)), .val (.int u3), .val .null, .val (.int (i + (1 : Int32)))] [])) t → Steps p.tables e below (T.setTop (mkF m 10 #[.val (.ref sa), .val (.int (0 : Int32)), .val (.int u3), .val .null, .val (.int i)] [])) t := by
        intro t k
        refine C78 t ?_
        show Steps p.tables e below (T78.setTop (mkF m 21 #[.val (.ref sa), .val (.int (0 : Int32)), .val (.int u3), .val .null, .val (.int i)] [])) _
        refine XS.iinc X78.here hx rfl (hb hby d10_21) rfl (l' := #[.val (.ref sa), .val (.int (0 : Int32)), .val (.int u3), .val .null, .val (.int (i + (1 : Int32)))]) rfl ?_
        show Steps p.tables e below (T78.setTop (mkF m 24 #[.val (.ref sa), .val (.int (0 : Int32)), .val (.int u3), .val .null, .val (.int (i + (1 : Int32)))] [])) _
        refine XS.goto X78.here hx rfl (pc0 := 24) (pc' := 10) rfl (hb hby d10_24) (by decide) (by decide) ?_
        exact k
      have hi1 : (i + (1 : Int32)).toInt = i.toInt + 1 := own_inc i u3 hlt
      obtain ⟨T', lo', h', Y1, Y2, Y3, Y4, Y5, Y6⟩ := ih (i + (1 : Int32)) T78 _ h78 X78 e78 N78 (KK.wr W78 (Or.inl (List.mem_of_getElem? (i := 0) rfl))) (LL.wr W78) (by omega) (by omega)
      exact ⟨T', lo', h', Y1, Y2, Y3, Y4, Y5, fun t kk => C79 t (Y6 t kk)⟩
  obtain ⟨T9, lo9, h9, X9, e9, N9, K9, L9, st9⟩ := loop u3.toInt.toNat 0 T75 _ h0 X75 q75 N75 (Keep.refl _ _) A0 (by decide) (by have : (0 : Int32).toInt = 0 := rfl; have := own_nn k2; omega)
  have C27 : ∀ t, Steps p.tables e below (T9.setTop (mkF m 27 #[.val (.ref sa), .val (.int (0 : Int32)), .val (.int u3), .val .null, .val (.int u3)] [])) t → Steps p.tables e below (s₁.setTop (entryFrame m #[(.ref sa), (.int (0 : Int32)), (.int u3), .null] 5)) t := fun t k => C76 t (st9 t k)
  obtain ⟨fs, hr, hrun, hended, hW, hsame⟩ := X9.leave (v := none) (fun _ => rfl)
  refine ⟨_, _, C27 _ ?_, hrun, hended, _, _, rfl, ?_, ⟨_, rfl⟩, hW, hsame.mono (by decide) (by decide)⟩
  · show Steps p.tables e below (T9.setTop (mkF m 27 #[.val (.ref sa), .val (.int (0 : Int32)), .val (.int u3), .val .null, .val (.int u3)] [])) _
    exact X9.returnOut hx Bd.returns (hb hby d10_27) hr
  · show Q10 Z sa cc h0 n0 _ T9.heap _
    rw [e9]
    exact ⟨rfl, N9, K9, L9⟩
theorem pd4 : parseMethodDescriptor "([Ljava/lang/Object;IILjava/lang/Object;)V" = some ⟨[(.array (.object "java/lang/Object")), .int, .int, (.object "java/lang/Object")], none⟩ := by decide +kernel
def Q9 (Z : State) (a1 sa ta va ea : Addr) (cc : Int32) (h0 : Heap) (n0 : Nat) (v : Option Value) (h : Heap) (L : List Loc) : Prop := v = none ∧ Fr n0 L ∧ OwnP Z h a1 sa ta va ea cc.toNatClampNeg 0 ∧ h0.size ≤ h.size
theorem ef9 (m : MethodId) (x0 : Addr) : entryFrame m #[(.ref x0)] 1 = mkF m 0 #[.val (.ref x0)] [] := by first | (simp [entryFrame, mkF, argsToLocals, Value.category]; done) | rfl
theorem d9_0 : decode prog_13_method_13_code 0 = .ok (.aload_n 0, 1) := by decide +kernel
theorem d9_1 : decode prog_13_method_13_code 1 = .ok (.getfield 9, 3) := by decide +kernel
theorem d9_4 : decode prog_13_method_13_code 4 = .ok (.iconst 0, 1) := by decide +kernel
theorem d9_5 : decode prog_13_method_13_code 5 = .ok (.aload_n 0, 1) := by decide +kernel
theorem d9_6 : decode prog_13_method_13_code 6 = .ok (.getfield 33, 3) := by decide +kernel
theorem d9_9 : decode prog_13_method_13_code 9 = .ok (.aconst_null, 1) := by decide +kernel
theorem d9_10 : decode prog_13_method_13_code 10 = .ok (.invokestatic 53, 3) := by decide +kernel
theorem d9_13 : decode prog_13_method_13_code 13 = .ok (.aload_n 0, 1) := by decide +kernel
theorem d9_14 : decode prog_13_method_13_code 14 = .ok (.iconst 0, 1) := by decide +kernel
theorem d9_15 : decode prog_13_method_13_code 15 = .ok (.putfield 33, 3) := by decide +kernel
theorem d9_18 : decode prog_13_method_13_code 18 = .ok (.aload_n 0, 1) := by decide +kernel
theorem d9_19 : decode prog_13_method_13_code 19 = .ok (.iconst 0, 1) := by decide +kernel
theorem d9_20 : decode prog_13_method_13_code 20 = .ok (.putfield 50, 3) := by decide +kernel
theorem d9_23 : decode prog_13_method_13_code 23 = .ok (.return_, 1) := by decide +kernel
set_option maxRecDepth 65536 in
set_option maxHeartbeats 40000000 in
theorem rm9 (l : Launch) (Z : State) (a0 : Array Value) (hw : ∀ d ∈ tables_1, d.before a0 Z = true) (ws : List Jvm.Cond) (a1 sa ta va ea : Addr) (cc z : Int32) (h0 : Heap) (n0 : Nat) (Z0 : n0 ≤ h0.size) (P : OwnP Z h0 a1 sa ta va ea cc.toNatClampNeg z) (hcc : ¬ cc < 0) (k2 : ¬ z < 0) (k3 : ¬ cc < z) (g1 : n0 ≤ a1) (gs : n0 ≤ sa) :
    MetFree l (⟨"com/example/bucket/bucket/ingest/PointRun", "clear", "()V"⟩ : MethodName) (head1 (Jvm.Cond.code (⟨"com/example/bucket/bucket/ingest/PointRun", "clear", "()V"⟩ : MethodName) prog_13_method_13_code 1 none :: ws) ({ frames := 2, cells := 0, slots := 0, locals := 30 } : Room)) (fun a U => a = #[(.ref a1)] ∧ Z.Warmed39 U.vm ∧ U.heap = h0) (fun _ _ _ _ _ => True) (fun _ U o U' => ∃ v L, o = .returned v ∧ Q9 Z a1 sa ta va ea cc h0 n0 v U'.heap L ∧ FrameEnd U o U' L ({ frames := 2, cells := 0, slots := 0, locals := 30 } : Room).cells ({ frames := 2, cells := 0, slots := 0, locals := 30 } : Room).slots) := by
  refine MetFree.of_bodySF (plainFor_of_name pn0) hisR ?_
  intro p e s m args below meth c s₁ Bd hml0 hP hK
  obtain ⟨rfl, hZ, hh⟩ := hP
  have hx := Bd.exec
  have hby := Bd.bytes
  have hml : c.maxLocals = 1 := hml0
  have hown : s.vm.findClass "com/example/bucket/bucket/ingest/PointRun" = some m.cls := findClass_of_methodNamed Bd.named
  have hnm := (name_of_methodNamed Bd.named Bd.method).1
  have X0 : Stand p l e ({ frames := 2, cells := 0, slots := 0, locals := 30 } : Room) s m #[(.ref a1)] below meth c s₁ [] 0 0 := Stand.of_body Bd
  have e0 : s₁.heap = h0 := by rw [← hh, Bd.state]; rfl
  have N0 := Fr.nil n0
  have pre0 : ∀ t, Steps p.tables e below (s₁.setTop (mkF m 0 #[.val (.ref a1)] [])) t → Steps p.tables e below (s₁.setTop (entryFrame m #[(.ref a1)] 1)) t := fun t k => castTop (ef9 m a1) k
  have a_s := own_ne P.1 (hw _ (List.mem_of_getElem? (i := 2) rfl)) P.2.2.2.2.2.2.2.1
  have C80 : ∀ t, Steps p.tables e below (s₁.setTop (mkF m 1 #[.val (.ref a1)] [(.ref a1)])) t → Steps p.tables e below (s₁.setTop (entryFrame m #[(.ref a1)] 1)) t := by
    intro t k
    refine pre0 t ?_
    show Steps p.tables e below (s₁.setTop (mkF m 0 #[.val (.ref a1)] [])) _
    refine XS.aloadN X0.here hx rfl (hb hby d9_0) rfl rfl ?_
    exact k
  obtain ⟨T81, X81, e81, st81⟩ := getF X0 hx hZ hown (host := "") (Or.inl (hw _ (List.mem_of_getElem? (i := 12) rfl))) Via.refl e0 P.2.1 (g := (mkF m 1 #[.val (.ref a1)] [(.ref a1)])) rfl rfl (hb hby d9_1)
  have C81 : ∀ t, Steps p.tables e below (T81.setTop (mkF m 4 #[.val (.ref a1)] [(.ref sa)])) t → Steps p.tables e below (s₁.setTop (entryFrame m #[(.ref a1)] 1)) t := fun t k => C80 t (st81 t k)
  have C82 : ∀ t, Steps p.tables e below (T81.setTop (mkF m 6 #[.val (.ref a1)] [(.ref a1), (.int (0 : Int32)), (.ref sa)])) t → Steps p.tables e below (s₁.setTop (entryFrame m #[(.ref a1)] 1)) t := by
    intro t k
    refine C81 t ?_
    show Steps p.tables e below (T81.setTop (mkF m 4 #[.val (.ref a1)] [(.ref sa)])) _
    refine XS.iconst X81.here hx rfl (hb hby d9_4) ?_
    show Steps p.tables e below (T81.setTop (mkF m 5 #[.val (.ref a1)] [(.int (0 : Int32)), (.ref sa)])) _
    refine XS.aloadN X81.here hx rfl (hb hby d9_5) rfl rfl ?_
    exact k
  obtain ⟨T83, X83, e83, st83⟩ := getF X81 hx hZ hown (host := "") (Or.inl (hw _ (List.mem_of_getElem? (i := 40) rfl))) Via.refl e81 P.2.2.2.2.2.1 (g := (mkF m 6 #[.val (.ref a1)] [(.ref a1), (.int (0 : Int32)), (.ref sa)])) rfl rfl (hb hby d9_6)
  have C83 : ∀ t, Steps p.tables e below (T83.setTop (mkF m 9 #[.val (.ref a1)] [(.int z), (.int (0 : Int32)), (.ref sa)])) t → Steps p.tables e below (s₁.setTop (entryFrame m #[(.ref a1)] 1)) t := fun t k => C82 t (st83 t k)
  have C84 : ∀ t, Steps p.tables e below (T83.setTop (mkF m 10 #[.val (.ref a1)] [.null, (.int z), (.int (0 : Int32)), (.ref sa)])) t → Steps p.tables e below (s₁.setTop (entryFrame m #[(.ref a1)] 1)) t := by
    intro t k
    refine C83 t ?_
    show Steps p.tables e below (T83.setTop (mkF m 9 #[.val (.ref a1)] [(.int z), (.int (0 : Int32)), (.ref sa)])) _
    refine XS.aconstNull X83.here hx rfl (hb hby d9_9) ?_
    exact k
  obtain ⟨_, _, ⟨T85, L85, k85, n85⟩, -, X85, ⟨Lc85, hQ85, l85, y85, z85⟩, st85⟩ := Jvm.LawKit.callS X83 hx (y := (⟨"java/util/Arrays", "fill", "([Ljava/lang/Object;IILjava/lang/Object;)V"⟩ : MethodName)) hown (mvT hZ (hw _ (List.mem_of_getElem? (i := 67) rfl))) (mvT hZ (hw _ (List.mem_of_getElem? (i := 68) rfl))) (mvT hZ (hw _ (List.mem_of_getElem? (i := 69) rfl))) (mvT hZ (hw _ (List.mem_of_getElem? (i := 70) rfl))) (by decide) (backOf (W := 0) (rm10 l Z a0 hw [] sa z cc h0 n0 Z0 P.2.2.2.2.2.2.2.1 hcc k2 k3 gs) hZ (hw _ (List.mem_of_getElem? (i := 70) rfl)) (hw _ (List.mem_of_getElem? (i := 69) rfl)) (by decide) (by decide)) (g := (mkF m 10 #[.val (.ref a1)] [.null, (.int z), (.int (0 : Int32)), (.ref sa)])) rfl (by rw [hml]; rfl) (argsL := [(.ref sa), (.int (0 : Int32)), (.int z), .null]) (rest := []) (lenOf pd4 rfl) rfl (by show 2 * 0 + _ ≤ _; exact Nat.le_of_eq rfl) (hb hby d9_10) (fun _ _ => ⟨rfl, e83, (by decide : 0 + 0 ≤ _), (by decide : 0 + 0 ≤ _)⟩)
  dsimp only [Pt.U, Pt.locs, Pt.cells, Pt.slots] at X85 l85 y85 z85 st85 hQ85
  subst l85 y85 z85
  obtain ⟨rfl, N85q, K85, L85⟩ := hQ85
  have N85 := Fr.app N0 N85q
  have C85 : ∀ t, Steps p.tables e below (T85.setTop (mkF m 13 #[.val (.ref a1)] [])) t → Steps p.tables e below (s₁.setTop (entryFrame m #[(.ref a1)] 1)) t := fun t k => C84 t (st85 t k)
  have P2 := P.keep K85 (own_nin1 a_s)
  obtain ⟨p1, p2, p3, p4, p5, p6, ⟨mg, p7⟩, p8, p9, p10, p11⟩ := P2
  have C86 : ∀ t, Steps p.tables e below (T85.setTop (mkF m 15 #[.val (.ref a1)] [(.int (0 : Int32)), (.ref a1)])) t → Steps p.tables e below (s₁.setTop (entryFrame m #[(.ref a1)] 1)) t := by
    intro t k
    refine C85 t ?_
    show Steps p.tables e below (T85.setTop (mkF m 13 #[.val (.ref a1)] [])) _
    refine XS.aloadN X85.here hx rfl (hb hby d9_13) rfl rfl ?_
    show Steps p.tables e below (T85.setTop (mkF m 14 #[.val (.ref a1)] [(.ref a1)])) _
    refine XS.iconst X85.here hx rfl (hb hby d9_14) ?_
    exact k
  obtain ⟨T87, h87, X87, e87, W87, st87⟩ := putF X85 hx hZ hown (host := "") (Or.inl (hw _ (List.mem_of_getElem? (i := 40) rfl))) Via.refl rfl p6 p1 (Or.inl (hw _ (List.mem_of_getElem? (i := 41) rfl))) (hw _ (List.mem_of_getElem? (i := 2) rfl)) (ty := .int) (by decide) rfl rfl (g := (mkF m 15 #[.val (.ref a1)] [(.int (0 : Int32)), (.ref a1)])) rfl rfl (hb hby d9_15)
  have N87 := Fr.snoc X87 N85 g1
  have C87 : ∀ t, Steps p.tables e below (T87.setTop (mkF m 18 #[.val (.ref a1)] [])) t → Steps p.tables e below (s₁.setTop (entryFrame m #[(.ref a1)] 1)) t := fun t k => C86 t (st87 t k)
  have r2 := p2.other W87 (Or.inr (slot_ne (Or.inr (hw _ (List.mem_of_getElem? (i := 13) rfl))) (Or.inl (hw _ (List.mem_of_getElem? (i := 41) rfl))) (by decide) (t := (.array (.object "com/example/bucket/bucket/lineformat/Series"))) (t' := .int) (by decide) (by decide)))
  have r3 := p3.other W87 (Or.inr (slot_ne (Or.inr (hw _ (List.mem_of_getElem? (i := 16) rfl))) (Or.inl (hw _ (List.mem_of_getElem? (i := 41) rfl))) (by decide) (t := (.array .long)) (t' := .int) (by decide) (by decide)))
  have r4 := p4.other W87 (Or.inr (slot_ne (Or.inr (hw _ (List.mem_of_getElem? (i := 19) rfl))) (Or.inl (hw _ (List.mem_of_getElem? (i := 41) rfl))) (by decide) (t := (.array .double)) (t' := .int) (by decide) (by decide)))
  have r5 := p5.other W87 (Or.inr (slot_ne (Or.inr (hw _ (List.mem_of_getElem? (i := 21) rfl))) (Or.inl (hw _ (List.mem_of_getElem? (i := 41) rfl))) (by decide) (t := (.array .long)) (t' := .int) (by decide) (by decide)))
  have r7 := p7.other W87 (Or.inr (slot_ne (Or.inl (hw _ (List.mem_of_getElem? (i := 75) rfl))) (Or.inl (hw _ (List.mem_of_getElem? (i := 41) rfl))) (by decide) (t := .int) (t' := .int) (by decide) (by decide)))
  have C88 : ∀ t, Steps p.tables e below (T87.setTop (mkF m 20 #[.val (.ref a1)] [(.int (0 : Int32)), (.ref a1)])) t → Steps p.tables e below (s₁.setTop (entryFrame m #[(.ref a1)] 1)) t := by
    intro t k
    refine C87 t ?_
    show Steps p.tables e below (T87.setTop (mkF m 18 #[.val (.ref a1)] [])) _
    refine XS.aloadN X87.here hx rfl (hb hby d9_18) rfl rfl ?_
    show Steps p.tables e below (T87.setTop (mkF m 19 #[.val (.ref a1)] [(.ref a1)])) _
    refine XS.iconst X87.here hx rfl (hb hby d9_19) ?_
    exact k
  obtain ⟨T89, h89, X89, e89, W89, st89⟩ := putF X87 hx hZ hown (host := "") (Or.inl (hw _ (List.mem_of_getElem? (i := 74) rfl))) Via.refl e87 r7 (p1.wr W87) (Or.inl (hw _ (List.mem_of_getElem? (i := 75) rfl))) (hw _ (List.mem_of_getElem? (i := 2) rfl)) (ty := .int) (by decide) rfl rfl (g := (mkF m 20 #[.val (.ref a1)] [(.int (0 : Int32)), (.ref a1)])) rfl rfl (hb hby d9_20)
  have N89 := Fr.snoc X89 N87 g1
  have C89 : ∀ t, Steps p.tables e below (T89.setTop (mkF m 23 #[.val (.ref a1)] [])) t → Steps p.tables e below (s₁.setTop (entryFrame m #[(.ref a1)] 1)) t := fun t k => C88 t (st89 t k)
  have t2 := r2.other W89 (Or.inr (slot_ne (Or.inr (hw _ (List.mem_of_getElem? (i := 13) rfl))) (Or.inl (hw _ (List.mem_of_getElem? (i := 75) rfl))) (by decide) (t := (.array (.object "com/example/bucket/bucket/lineformat/Series"))) (t' := .int) (by decide) (by decide)))
  have t3 := r3.other W89 (Or.inr (slot_ne (Or.inr (hw _ (List.mem_of_getElem? (i := 16) rfl))) (Or.inl (hw _ (List.mem_of_getElem? (i := 75) rfl))) (by decide) (t := (.array .long)) (t' := .int) (by decide) (by decide)))
  have t4 := r4.other W89 (Or.inr (slot_ne (Or.inr (hw _ (List.mem_of_getElem? (i := 19) rfl))) (Or.inl (hw _ (List.mem_of_getElem? (i := 75) rfl))) (by decide) (t := (.array .double)) (t' := .int) (by decide) (by decide)))
  have t5 := r5.other W89 (Or.inr (slot_ne (Or.inr (hw _ (List.mem_of_getElem? (i := 21) rfl))) (Or.inl (hw _ (List.mem_of_getElem? (i := 75) rfl))) (by decide) (t := (.array .long)) (t' := .int) (by decide) (by decide)))
  have t6 := (p6.same W87).other W89 (Or.inr (slot_ne (Or.inl (hw _ (List.mem_of_getElem? (i := 41) rfl))) (Or.inl (hw _ (List.mem_of_getElem? (i := 75) rfl))) (by decide) (t := .int) (t' := .int) (by decide) (by decide)))
  have PP : OwnP Z h89 a1 sa ta va ea cc.toNatClampNeg 0 := ⟨(p1.wr W87).wr W89, t2, t3, t4, t5, t6, ⟨0, r7.same W89⟩, (p8.wr W87).wr W89, (p9.wr W87).wr W89, (p10.wr W87).wr W89, (p11.wr W87).wr W89⟩
  have sz : h0.size ≤ h89.size := by rw [Wr.size W89, Wr.size W87]; exact K85.1
  obtain ⟨fs, hr, hrun, hended, hW, hsame⟩ := X89.leave (v := none) (fun _ => rfl)
  refine ⟨_, _, C89 _ ?_, hrun, hended, _, _, rfl, ?_, ⟨_, rfl⟩, hW, hsame.mono (by decide) (by decide)⟩
  · show Steps p.tables e below (T89.setTop (mkF m 23 #[.val (.ref a1)] [])) _
    exact X89.returnOut hx Bd.returns (hb hby d9_23) hr
  · show Q9 Z a1 sa ta va ea cc h0 n0 _ T89.heap _
    rw [e89]
    exact ⟨rfl, N89, PP, sz⟩
def Q0 (Z : State) (p1 p2 p3 : Int32) (p4 p5 : Int64) (h0 : Heap) (n0 : Nat) (v : Option Value) (h : Heap) (L : List Loc) : Prop := v = some (.int 1) ∧ Fr n0 L
theorem pd5 : parseMethodDescriptor "(I)V" = some ⟨[.int], none⟩ := by decide +kernel
theorem pd6 : parseMethodDescriptor "(Lcom/example/bucket/bucket/lineformat/Series;JD)V" = some ⟨[(.object "com/example/bucket/bucket/lineformat/Series"), .long, .double], none⟩ := by decide +kernel
theorem pd7 : parseMethodDescriptor "()Z" = some ⟨[], some .boolean⟩ := by decide +kernel
theorem own_cap (x : Int32) : ¬ (x &&& (3 : Int32)) < 0 ∧ (x &&& (3 : Int32)).toInt ≤ 3 ∧ (x &&& (3 : Int32)).toNatClampNeg ≤ 3 := by
  have h := c_mask x 3 2 (by decide) (by decide)
  rw [show ((2 ^ 2 : Nat) : Int) = 4 from rfl] at h
  refine ⟨own_nneg (by omega), by omega, ?_⟩
  show (x &&& (3 : Int32)).toInt.toNat ≤ 3
  omega
theorem own_c1 {cc : Int32} (h : ¬ cc < 0 ∧ cc.toInt ≤ 3 ∧ cc.toNatClampNeg ≤ 3) : (cc + (1 : Int32)).toInt = cc.toInt + 1 := by
  have h1 := c_iadd cc 1
  have h0 := own_nn h.1
  have h2 := h.2.1
  rw [show (1 : Int32).toInt = 1 from rfl] at h1
  have t1 := (cc + (1 : Int32)).toInt_lt
  have t2 := (cc + (1 : Int32)).le_toInt
  omega
theorem own_cap1 {cc : Int32} (h : ¬ cc < 0 ∧ cc.toInt ≤ 3 ∧ cc.toNatClampNeg ≤ 3) : cc + (1 : Int32) ≠ 0 := fun q => by
  have h1 := own_c1 h
  have h0 := own_nn h.1
  rw [q, show (0 : Int32).toInt = 0 from rfl] at h1
  omega
theorem own_rem32 (x y : Int32) : x - (x / y) * y = x % y := irem_eq_mod x y
theorem own_krng {cc : Int32} (h : ¬ cc < 0 ∧ cc.toInt ≤ 3 ∧ cc.toNatClampNeg ≤ 3) (x : Int32) : 0 ≤ (((x &&& (2147483647 : Int32)) - ((x &&& (2147483647 : Int32)) / (cc + (1 : Int32))) * (cc + (1 : Int32)))).toInt ∧ (((x &&& (2147483647 : Int32)) - ((x &&& (2147483647 : Int32)) / (cc + (1 : Int32))) * (cc + (1 : Int32)))).toInt ≤ cc.toInt := by
  rw [own_rem32]
  have h1 := c_and x 2147483647 (by decide)
  have h2 := (c_irem (x &&& 2147483647) (cc + 1) (cc.toInt + 1) (own_c1 h)).1 h1.1
  have h0 := own_nn h.1
  rw [h2]
  have e1 := Int.emod_nonneg (x &&& 2147483647).toInt (show cc.toInt + 1 ≠ 0 by omega)
  have e2 := Int.emod_lt_of_pos (x &&& 2147483647).toInt (show 0 < cc.toInt + 1 by omega)
  omega
theorem own_kle {cc : Int32} (h : ¬ cc < 0 ∧ cc.toInt ≤ 3 ∧ cc.toNatClampNeg ≤ 3) (x : Int32) : (((x &&& (2147483647 : Int32)) - ((x &&& (2147483647 : Int32)) / (cc + (1 : Int32))) * (cc + (1 : Int32)))).toInt ≤ cc.toInt := (own_krng h x).2
theorem own_room {z cc : Int32} {j : Int} (h : j ≤ cc.toInt) (hz : 0 ≤ z.toInt ∧ z.toInt < j) : ¬ z < 0 ∧ z.toNatClampNeg < cc.toNatClampNeg := by
  refine ⟨own_nneg hz.1, ?_⟩
  show z.toInt.toNat < cc.toInt.toNat
  omega
theorem own_nlt {z cc : Int32} (h : z.toInt ≤ cc.toInt) : ¬ cc < z := fun q => by rw [Int32.lt_iff_toInt_lt] at q; omega
theorem pn3 : plainName "com/example/bucket/bucket/ingest/PointRunIsFullPinLaw" = true := by first | (simp [plainName, overriddenIn]; done) | decide +kernel
theorem ef0 (m : MethodId) (x0 : Int32) (x1 : Int32) (x2 : Int32) (x3 : Int64) (x4 : Int64) : entryFrame m #[(.int x0), (.int x1), (.int x2), (.long x3), (.long x4)] maxLocals = mkF m 0 #[.val (.int x0), .val (.int x1), .val (.int x2), .val (.long x3), .second, .val (.long x4), .second, .unset, .unset, .unset, .unset, .unset] [] := by first | (simp [entryFrame, mkF, argsToLocals, Value.category, maxLocals]; done) | rfl
set_option maxRecDepth 65536 in
set_option maxHeartbeats 40000000 in
theorem rm0_00 (l : Launch) (Z : State) (a0 : Array Value) (hw : ∀ d ∈ tables_1, d.before a0 Z = true) (ws : List Jvm.Cond) (p1 p2 p3 : Int32) (p4 p5 : Int64) (h0 : Heap) (n0 : Nat) (Z0 : n0 ≤ h0.size) (hk : ((p2 &&& (2147483647 : Int32)) - ((p2 &&& (2147483647 : Int32)) / ((p1 &&& (3 : Int32)) + (1 : Int32))) * ((p1 &&& (3 : Int32)) + (1 : Int32))) = (0 : Int32)) (hf : (p3 &&& (256 : Int32)) = 0) :
    MetFree l x (head1 (Jvm.Cond.code x code maxLocals ret :: ws) room_1) (fun a U => a = #[(.int p1), (.int p2), (.int p3), (.long p4), (.long p5)] ∧ Z.Warmed39 U.vm ∧ U.heap = h0) (fun _ _ _ _ _ => True) (fun _ U o U' => ∃ v L, o = .returned v ∧ Q0 Z p1 p2 p3 p4 p5 h0 n0 v U'.heap L ∧ FrameEnd U o U' L room_1.cells room_1.slots) := by
  refine MetFree.of_bodySF (plainFor_of_name pn3) hisR ?_
  intro p e s m args below meth c s₁ Bd hml0 hP hK
  obtain ⟨rfl, hZ, hh⟩ := hP
  have hx := Bd.exec
  have hby := Bd.bytes
  have hml : c.maxLocals = 12 := hml0
  have hown : s.vm.findClass "com/example/bucket/bucket/ingest/PointRunIsFullPinLaw" = some m.cls := findClass_of_methodNamed Bd.named
  have hnm := (name_of_methodNamed Bd.named Bd.method).1
  have X0 : Stand p l e room_1 s m #[(.int p1), (.int p2), (.int p3), (.long p4), (.long p5)] below meth c s₁ [] 0 0 := Stand.of_body Bd
  have e0 : s₁.heap = h0 := by rw [← hh, Bd.state]; rfl
  have N0 := Fr.nil n0
  have pre0 : ∀ t, Steps p.tables e below (s₁.setTop (mkF m 0 #[.val (.int p1), .val (.int p2), .val (.int p3), .val (.long p4), .second, .val (.long p5), .second, .unset, .unset, .unset, .unset, .unset] [])) t → Steps p.tables e below (s₁.setTop (entryFrame m #[(.int p1), (.int p2), (.int p3), (.long p4), (.long p5)] maxLocals)) t := fun t k => castTop (ef0 m p1 p2 p3 p4 p5) k
  have C90 : ∀ t, Steps p.tables e below (s₁.setTop (mkF m 5 #[.val (.int p1), .val (.int p2), .val (.int p3), .val (.long p4), .second, .val (.long p5), .second, .val (.int (p1 &&& (3 : Int32))), .unset, .unset, .unset, .unset] [])) t → Steps p.tables e below (s₁.setTop (entryFrame m #[(.int p1), (.int p2), (.int p3), (.long p4), (.long p5)] maxLocals)) t := by
    intro t k
    refine pre0 t ?_
    show Steps p.tables e below (s₁.setTop (mkF m 0 #[.val (.int p1), .val (.int p2), .val (.int p3), .val (.long p4), .second, .val (.long p5), .second, .unset, .unset, .unset, .unset, .unset] [])) _
    refine XS.iloadN X0.here hx rfl (hb hby at_0) rfl ?_
    show Steps p.tables e below (s₁.setTop (mkF m 1 #[.val (.int p1), .val (.int p2), .val (.int p3), .val (.long p4), .second, .val (.long p5), .second, .unset, .unset, .unset, .unset, .unset] [(.int p1)])) _
    refine XS.iconst X0.here hx rfl (hb hby at_1) ?_
    show Steps p.tables e below (s₁.setTop (mkF m 2 #[.val (.int p1), .val (.int p2), .val (.int p3), .val (.long p4), .second, .val (.long p5), .second, .unset, .unset, .unset, .unset, .unset] [(.int (3 : Int32)), (.int p1)])) _
    refine XS.iand X0.here hx rfl (hb hby at_2) rfl ?_
    show Steps p.tables e below (s₁.setTop (mkF m 3 #[.val (.int p1), .val (.int p2), .val (.int p3), .val (.long p4), .second, .val (.long p5), .second, .unset, .unset, .unset, .unset, .unset] [(.int (p1 &&& (3 : Int32)))])) _
    refine XS.istore X0.here hx rfl (hb hby at_3) rfl (l' := #[.val (.int p1), .val (.int p2), .val (.int p3), .val (.long p4), .second, .val (.long p5), .second, .val (.int (p1 &&& (3 : Int32))), .unset, .unset, .unset, .unset]) rfl ?_
    exact k
  obtain ⟨cc, h_cc⟩ : ∃ z : Int32, z = (p1 &&& (3 : Int32)) := ⟨_, rfl⟩
  rw [← h_cc] at C90
  have hcc := own_cap p1
  rw [← h_cc] at hcc
  have C91 : ∀ t, Steps p.tables e below (s₁.setTop (mkF m 16 #[.val (.int p1), .val (.int p2), .val (.int p3), .val (.long p4), .second, .val (.long p5), .second, .val (.int cc), .val (.int ((p2 &&& (2147483647 : Int32)) - ((p2 &&& (2147483647 : Int32)) / (cc + (1 : Int32))) * (cc + (1 : Int32)))), .unset, .unset, .unset] [])) t → Steps p.tables e below (s₁.setTop (entryFrame m #[(.int p1), (.int p2), (.int p3), (.long p4), (.long p5)] maxLocals)) t := by
    intro t k
    refine C90 t ?_
    show Steps p.tables e below (s₁.setTop (mkF m 5 #[.val (.int p1), .val (.int p2), .val (.int p3), .val (.long p4), .second, .val (.long p5), .second, .val (.int cc), .unset, .unset, .unset, .unset] [])) _
    refine XS.iloadN X0.here hx rfl (hb hby at_5) rfl ?_
    show Steps p.tables e below (s₁.setTop (mkF m 6 #[.val (.int p1), .val (.int p2), .val (.int p3), .val (.long p4), .second, .val (.long p5), .second, .val (.int cc), .unset, .unset, .unset, .unset] [(.int p2)])) _
    refine X0.ldcInt hx hown (mvT hZ (hw _ (List.mem_of_getElem? (i := 0) rfl))) (g := (mkF m 6 #[.val (.int p1), .val (.int p2), .val (.int p3), .val (.long p4), .second, .val (.long p5), .second, .val (.int cc), .unset, .unset, .unset, .unset] [(.int p2)])) rfl (hb hby at_6) _ ?_
    show Steps p.tables e below (s₁.setTop (mkF m 8 #[.val (.int p1), .val (.int p2), .val (.int p3), .val (.long p4), .second, .val (.long p5), .second, .val (.int cc), .unset, .unset, .unset, .unset] [(.int (2147483647 : Int32)), (.int p2)])) _
    refine XS.iand X0.here hx rfl (hb hby at_8) rfl ?_
    show Steps p.tables e below (s₁.setTop (mkF m 9 #[.val (.int p1), .val (.int p2), .val (.int p3), .val (.long p4), .second, .val (.long p5), .second, .val (.int cc), .unset, .unset, .unset, .unset] [(.int (p2 &&& (2147483647 : Int32)))])) _
    refine XS.iload X0.here hx rfl (hb hby at_9) rfl ?_
    show Steps p.tables e below (s₁.setTop (mkF m 11 #[.val (.int p1), .val (.int p2), .val (.int p3), .val (.long p4), .second, .val (.long p5), .second, .val (.int cc), .unset, .unset, .unset, .unset] [(.int cc), (.int (p2 &&& (2147483647 : Int32)))])) _
    refine XS.iconst X0.here hx rfl (hb hby at_11) ?_
    show Steps p.tables e below (s₁.setTop (mkF m 12 #[.val (.int p1), .val (.int p2), .val (.int p3), .val (.long p4), .second, .val (.long p5), .second, .val (.int cc), .unset, .unset, .unset, .unset] [(.int (1 : Int32)), (.int cc), (.int (p2 &&& (2147483647 : Int32)))])) _
    refine XS.iadd X0.here hx rfl (hb hby at_12) rfl ?_
    show Steps p.tables e below (s₁.setTop (mkF m 13 #[.val (.int p1), .val (.int p2), .val (.int p3), .val (.long p4), .second, .val (.long p5), .second, .val (.int cc), .unset, .unset, .unset, .unset] [(.int (cc + (1 : Int32))), (.int (p2 &&& (2147483647 : Int32)))])) _
    refine XS.irem X0.here hx rfl (hb hby at_13) rfl (own_cap1 hcc) ?_
    show Steps p.tables e below (s₁.setTop (mkF m 14 #[.val (.int p1), .val (.int p2), .val (.int p3), .val (.long p4), .second, .val (.long p5), .second, .val (.int cc), .unset, .unset, .unset, .unset] [(.int ((p2 &&& (2147483647 : Int32)) - ((p2 &&& (2147483647 : Int32)) / (cc + (1 : Int32))) * (cc + (1 : Int32))))])) _
    refine XS.istore X0.here hx rfl (hb hby at_14) rfl (l' := #[.val (.int p1), .val (.int p2), .val (.int p3), .val (.long p4), .second, .val (.long p5), .second, .val (.int cc), .val (.int ((p2 &&& (2147483647 : Int32)) - ((p2 &&& (2147483647 : Int32)) / (cc + (1 : Int32))) * (cc + (1 : Int32)))), .unset, .unset, .unset]) rfl ?_
    exact k
  obtain ⟨kk, h_kk⟩ : ∃ z : Int32, z = ((p2 &&& (2147483647 : Int32)) - ((p2 &&& (2147483647 : Int32)) / (cc + (1 : Int32))) * (cc + (1 : Int32))) := ⟨_, rfl⟩
  rw [← h_kk] at C91
  have hkk : kk = (0 : Int32) := by rw [h_kk, h_cc]; exact hk
  have hkb : (0 : Int) ≤ cc.toInt := by have q := own_kle hcc p2; rw [← h_kk, hkk] at q; exact q
  obtain ⟨T92, h92, X92, e92, E92, A92, D92, -, st92⟩ := newO X0 hx hZ hown (hw _ (List.mem_of_getElem? (i := 1) rfl)) (hw _ (List.mem_of_getElem? (i := 2) rfl)) (hw _ (List.mem_of_getElem? (i := 3) rfl)) e0 (g := (mkF m 16 #[.val (.int p1), .val (.int p2), .val (.int p3), .val (.long p4), .second, .val (.long p5), .second, .val (.int cc), .val (.int kk), .unset, .unset, .unset] [])) rfl (hb hby at_16) (by decide) (by decide)
  obtain ⟨b92, g92⟩ : ∃ z, z = h0.size := ⟨_, rfl⟩
  rw [← g92] at A92 D92 st92
  have C92 : ∀ t, Steps p.tables e below (T92.setTop (mkF m 19 #[.val (.int p1), .val (.int p2), .val (.int p3), .val (.long p4), .second, .val (.long p5), .second, .val (.int cc), .val (.int kk), .unset, .unset, .unset] [(.ref b92)])) t → Steps p.tables e below (s₁.setTop (entryFrame m #[(.int p1), (.int p2), (.int p3), (.long p4), (.long p5)] maxLocals)) t := fun t k => C91 t (st92 t k)
  have F_series : Fld Z h92 b92 "com/example/bucket/bucket/ingest/PointRun" "series" "[Lcom/example/bucket/bucket/lineformat/Series;" .null := D92 (Or.inr (hw _ (List.mem_of_getElem? (i := 13) rfl))) (ty := (.array (.object "com/example/bucket/bucket/lineformat/Series"))) (by decide)
  have F_times : Fld Z h92 b92 "com/example/bucket/bucket/ingest/PointRun" "times" "[J" .null := D92 (Or.inr (hw _ (List.mem_of_getElem? (i := 16) rfl))) (ty := (.array .long)) (by decide)
  have F_values : Fld Z h92 b92 "com/example/bucket/bucket/ingest/PointRun" "values" "[D" .null := D92 (Or.inr (hw _ (List.mem_of_getElem? (i := 19) rfl))) (ty := (.array .double)) (by decide)
  have F_ends : Fld Z h92 b92 "com/example/bucket/bucket/ingest/PointRun" "ends" "[J" .null := D92 (Or.inr (hw _ (List.mem_of_getElem? (i := 21) rfl))) (ty := (.array .long)) (by decide)
  have F_size : Fld Z h92 b92 "com/example/bucket/bucket/ingest/PointRun" "size" "I" (.int 0) := D92 (Or.inl (hw _ (List.mem_of_getElem? (i := 41) rfl))) (ty := .int) (by decide)
  have F_merged : Fld Z h92 b92 "com/example/bucket/bucket/ingest/PointRun" "merged" "I" (.int 0) := D92 (Or.inl (hw _ (List.mem_of_getElem? (i := 75) rfl))) (ty := .int) (by decide)
  have Z1 : n0 ≤ h92.size := Nat.le_trans Z0 E92.1
  have g1 : n0 ≤ b92 := Nat.le_trans Z0 (Nat.le_of_eq g92.symm)
  have C93 : ∀ t, Steps p.tables e below (T92.setTop (mkF m 22 #[.val (.int p1), .val (.int p2), .val (.int p3), .val (.long p4), .second, .val (.long p5), .second, .val (.int cc), .val (.int kk), .unset, .unset, .unset] [(.int cc), (.ref b92), (.ref b92)])) t → Steps p.tables e below (s₁.setTop (entryFrame m #[(.int p1), (.int p2), (.int p3), (.long p4), (.long p5)] maxLocals)) t := by
    intro t k
    refine C92 t ?_
    show Steps p.tables e below (T92.setTop (mkF m 19 #[.val (.int p1), .val (.int p2), .val (.int p3), .val (.long p4), .second, .val (.long p5), .second, .val (.int cc), .val (.int kk), .unset, .unset, .unset] [(.ref b92)])) _
    refine XS.dup X92.here hx rfl (hb hby at_19) rfl rfl ?_
    show Steps p.tables e below (T92.setTop (mkF m 20 #[.val (.int p1), .val (.int p2), .val (.int p3), .val (.long p4), .second, .val (.long p5), .second, .val (.int cc), .val (.int kk), .unset, .unset, .unset] [(.ref b92), (.ref b92)])) _
    refine XS.iload X92.here hx rfl (hb hby at_20) rfl ?_
    exact k
  obtain ⟨_, _, ⟨T94, L94, k94, n94⟩, -, X94, ⟨Lc94, hQ94, l94, y94, z94⟩, st94⟩ := X92.specialBack hx (y := (⟨"com/example/bucket/bucket/ingest/PointRun", "<init>", "(I)V"⟩ : MethodName)) rfl hown (mvT hZ (hw _ (List.mem_of_getElem? (i := 4) rfl))) (mvT hZ (hw _ (List.mem_of_getElem? (i := 5) rfl))) (mvT hZ (hw _ (List.mem_of_getElem? (i := 6) rfl))) (by decide) (backOf (W := 1) (rm1 l Z a0 hw [] b92 cc h92 n0 Z1 F_series F_times F_values F_ends F_size F_merged A92 g1 hcc.1 hcc.2.2) hZ (hw _ (List.mem_of_getElem? (i := 6) rfl)) (hw _ (List.mem_of_getElem? (i := 3) rfl)) (by decide) (by decide)) (g := (mkF m 22 #[.val (.int p1), .val (.int p2), .val (.int p3), .val (.long p4), .second, .val (.long p5), .second, .val (.int cc), .val (.int kk), .unset, .unset, .unset] [(.int cc), (.ref b92), (.ref b92)])) rfl (by rw [hml]; rfl) (Steps.refl _) (a := b92) (argsL := [(.int cc)]) (rest := [(.ref b92)]) (lenOf pd5 rfl) rfl (by show 2 * 0 + _ ≤ _; exact Nat.le_of_eq rfl) (hb hby at_22) (fun _ _ => ⟨rfl, e92, (by decide : 1 + 4 ≤ _), (by decide : 6 + 12 ≤ _)⟩)
  dsimp only [Pt.U, Pt.locs, Pt.cells, Pt.slots] at X94 l94 y94 z94 st94 hQ94
  subst l94 y94 z94
  obtain ⟨rfl, N94q, sa, ta, va, ea, P94, K94, fs, ft, fv, fe⟩ := hQ94
  have N94 := Fr.app N0 N94q
  have C94 : ∀ t, Steps p.tables e below (T94.setTop (mkF m 25 #[.val (.int p1), .val (.int p2), .val (.int p3), .val (.long p4), .second, .val (.long p5), .second, .val (.int cc), .val (.int kk), .unset, .unset, .unset] [(.ref b92)])) t → Steps p.tables e below (s₁.setTop (entryFrame m #[(.int p1), (.int p2), (.int p3), (.long p4), (.long p5)] maxLocals)) t := fun t k => C93 t (st94.trans k)
  have Z2 : n0 ≤ T94.heap.size := Nat.le_trans Z1 K94.1
  have gs := Nat.le_trans Z1 fs
  have gt := Nat.le_trans Z1 ft
  have gv := Nat.le_trans Z1 fv
  have ge := Nat.le_trans Z1 fe
  have C95 : ∀ t, Steps p.tables e below (T94.setTop (mkF m 27 #[.val (.int p1), .val (.int p2), .val (.int p3), .val (.long p4), .second, .val (.long p5), .second, .val (.int cc), .val (.int kk), .val (.ref b92), .unset, .unset] [])) t → Steps p.tables e below (s₁.setTop (entryFrame m #[(.int p1), (.int p2), (.int p3), (.long p4), (.long p5)] maxLocals)) t := by
    intro t k
    refine C94 t ?_
    show Steps p.tables e below (T94.setTop (mkF m 25 #[.val (.int p1), .val (.int p2), .val (.int p3), .val (.long p4), .second, .val (.long p5), .second, .val (.int cc), .val (.int kk), .unset, .unset, .unset] [(.ref b92)])) _
    refine XS.astore X94.here hx rfl (hb hby at_25) rfl rfl (l' := #[.val (.int p1), .val (.int p2), .val (.int p3), .val (.long p4), .second, .val (.long p5), .second, .val (.int cc), .val (.int kk), .val (.ref b92), .unset, .unset]) rfl ?_
    exact k
  obtain ⟨T96, h96, X96, e96, E96, A96, D96, -, st96⟩ := newO X94 hx hZ hown (hw _ (List.mem_of_getElem? (i := 22) rfl)) (hw _ (List.mem_of_getElem? (i := 23) rfl)) (hw _ (List.mem_of_getElem? (i := 24) rfl)) rfl (g := (mkF m 27 #[.val (.int p1), .val (.int p2), .val (.int p3), .val (.long p4), .second, .val (.long p5), .second, .val (.int cc), .val (.int kk), .val (.ref b92), .unset, .unset] [])) rfl (hb hby at_27) (by decide) (by decide)
  obtain ⟨b96, g96⟩ : ∃ z, z = T94.heap.size := ⟨_, rfl⟩
  rw [← g96] at A96 D96 st96
  have C96 : ∀ t, Steps p.tables e below (T96.setTop (mkF m 30 #[.val (.int p1), .val (.int p2), .val (.int p3), .val (.long p4), .second, .val (.long p5), .second, .val (.int cc), .val (.int kk), .val (.ref b92), .unset, .unset] [(.ref b96)])) t → Steps p.tables e below (s₁.setTop (entryFrame m #[(.int p1), (.int p2), (.int p3), (.long p4), (.long p5)] maxLocals)) t := fun t k => C95 t (st96 t k)
  have G_series : Fld Z h96 b96 "com/example/bucket/bucket/lineformat/Point" "series" "Lcom/example/bucket/bucket/lineformat/Series;" .null := D96 (Or.inr (hw _ (List.mem_of_getElem? (i := 30) rfl))) (ty := (.object "com/example/bucket/bucket/lineformat/Series")) (by decide)
  have G_time : Fld Z h96 b96 "com/example/bucket/bucket/lineformat/Point" "time" "J" (.long 0) := D96 (Or.inr (hw _ (List.mem_of_getElem? (i := 32) rfl))) (ty := .long) (by decide)
  have G_value : Fld Z h96 b96 "com/example/bucket/bucket/lineformat/Point" "value" "D" (.double 0) := D96 (Or.inr (hw _ (List.mem_of_getElem? (i := 34) rfl))) (ty := .double) (by decide)
  have Z3 : n0 ≤ h96.size := Nat.le_trans Z2 E96.1
  have g2 : n0 ≤ b96 := Nat.le_trans Z2 (Nat.le_of_eq g96.symm)
  have C97 : ∀ t, Steps p.tables e below (T96.setTop (mkF m 39 #[.val (.int p1), .val (.int p2), .val (.int p3), .val (.long p4), .second, .val (.long p5), .second, .val (.int cc), .val (.int kk), .val (.ref b92), .unset, .unset] [(.double (FP.i2d (p3 &&& (255 : Int32)))), (.long p4), .null, (.ref b96), (.ref b96)])) t → Steps p.tables e below (s₁.setTop (entryFrame m #[(.int p1), (.int p2), (.int p3), (.long p4), (.long p5)] maxLocals)) t := by
    intro t k
    refine C96 t ?_
    show Steps p.tables e below (T96.setTop (mkF m 30 #[.val (.int p1), .val (.int p2), .val (.int p3), .val (.long p4), .second, .val (.long p5), .second, .val (.int cc), .val (.int kk), .val (.ref b92), .unset, .unset] [(.ref b96)])) _
    refine XS.dup X96.here hx rfl (hb hby at_30) rfl rfl ?_
    show Steps p.tables e below (T96.setTop (mkF m 31 #[.val (.int p1), .val (.int p2), .val (.int p3), .val (.long p4), .second, .val (.long p5), .second, .val (.int cc), .val (.int kk), .val (.ref b92), .unset, .unset] [(.ref b96), (.ref b96)])) _
    refine XS.aconstNull X96.here hx rfl (hb hby at_31) ?_
    show Steps p.tables e below (T96.setTop (mkF m 32 #[.val (.int p1), .val (.int p2), .val (.int p3), .val (.long p4), .second, .val (.long p5), .second, .val (.int cc), .val (.int kk), .val (.ref b92), .unset, .unset] [.null, (.ref b96), (.ref b96)])) _
    refine XS.lloadN X96.here hx rfl (hb hby at_32) rfl ?_
    show Steps p.tables e below (T96.setTop (mkF m 33 #[.val (.int p1), .val (.int p2), .val (.int p3), .val (.long p4), .second, .val (.long p5), .second, .val (.int cc), .val (.int kk), .val (.ref b92), .unset, .unset] [(.long p4), .null, (.ref b96), (.ref b96)])) _
    refine XS.iloadN X96.here hx rfl (hb hby at_33) rfl ?_
    show Steps p.tables e below (T96.setTop (mkF m 34 #[.val (.int p1), .val (.int p2), .val (.int p3), .val (.long p4), .second, .val (.long p5), .second, .val (.int cc), .val (.int kk), .val (.ref b92), .unset, .unset] [(.int p3), (.long p4), .null, (.ref b96), (.ref b96)])) _
    refine XS.sipush X96.here hx rfl (hb hby at_34) ?_
    show Steps p.tables e below (T96.setTop (mkF m 37 #[.val (.int p1), .val (.int p2), .val (.int p3), .val (.long p4), .second, .val (.long p5), .second, .val (.int cc), .val (.int kk), .val (.ref b92), .unset, .unset] [(.int (255 : Int32)), (.int p3), (.long p4), .null, (.ref b96), (.ref b96)])) _
    refine XS.iand X96.here hx rfl (hb hby at_37) rfl ?_
    show Steps p.tables e below (T96.setTop (mkF m 38 #[.val (.int p1), .val (.int p2), .val (.int p3), .val (.long p4), .second, .val (.long p5), .second, .val (.int cc), .val (.int kk), .val (.ref b92), .unset, .unset] [(.int (p3 &&& (255 : Int32))), (.long p4), .null, (.ref b96), (.ref b96)])) _
    refine XS.i2dS X96.here hx rfl (hb hby at_38) rfl rfl ?_
    exact k
  obtain ⟨_, _, ⟨T98, L98, k98, n98⟩, -, X98, ⟨Lc98, hQ98, l98, y98, z98⟩, st98⟩ := X96.specialBack hx (y := (⟨"com/example/bucket/bucket/lineformat/Point", "<init>", "(Lcom/example/bucket/bucket/lineformat/Series;JD)V"⟩ : MethodName)) rfl hown (mvT hZ (hw _ (List.mem_of_getElem? (i := 25) rfl))) (mvT hZ (hw _ (List.mem_of_getElem? (i := 26) rfl))) (mvT hZ (hw _ (List.mem_of_getElem? (i := 27) rfl))) (by decide) (backOf (W := 1) (rm3 l Z a0 hw [] b96 p4 (FP.i2d (p3 &&& (255 : Int32))) h96 n0 Z3 G_series G_time G_value A96 g2) hZ (hw _ (List.mem_of_getElem? (i := 27) rfl)) (hw _ (List.mem_of_getElem? (i := 24) rfl)) (by decide) (by decide)) (g := (mkF m 39 #[.val (.int p1), .val (.int p2), .val (.int p3), .val (.long p4), .second, .val (.long p5), .second, .val (.int cc), .val (.int kk), .val (.ref b92), .unset, .unset] [(.double (FP.i2d (p3 &&& (255 : Int32)))), (.long p4), .null, (.ref b96), (.ref b96)])) rfl (by rw [hml]; rfl) (Steps.refl _) (a := b96) (argsL := [.null, (.long p4), (.double (FP.i2d (p3 &&& (255 : Int32))))]) (rest := [(.ref b96)]) (lenOf pd6 rfl) rfl (by show 2 * 0 + _ ≤ _; exact Nat.le_of_eq rfl) (hb hby at_39) (fun _ _ => ⟨rfl, e96, (by decide : 6 + 0 ≤ _), (by decide : 21 + 0 ≤ _)⟩)
  dsimp only [Pt.U, Pt.locs, Pt.cells, Pt.slots] at X98 l98 y98 z98 st98 hQ98
  subst l98 y98 z98
  obtain ⟨rfl, N98q, Q98, K98⟩ := hQ98
  have N98 := Fr.app N94 N98q
  have C98 : ∀ t, Steps p.tables e below (T98.setTop (mkF m 42 #[.val (.int p1), .val (.int p2), .val (.int p3), .val (.long p4), .second, .val (.long p5), .second, .val (.int cc), .val (.int kk), .val (.ref b92), .unset, .unset] [(.ref b96)])) t → Steps p.tables e below (s₁.setTop (entryFrame m #[(.int p1), (.int p2), (.int p3), (.long p4), (.long p5)] maxLocals)) t := fun t k => C97 t (st98.trans k)
  have Z4 : n0 ≤ T98.heap.size := Nat.le_trans Z3 K98.1
  have PA : OwnP Z T98.heap b92 sa ta va ea cc.toNatClampNeg 0 := (P94.ext E96).keep K98 (own_nin1 (own_natne (by have := own_natlt P94.lt.1; omega)))
  obtain ⟨r0, hr0⟩ : ∃ r : Int32, ((0 : Int32) = cc ∧ r = 1) ∨ (¬ (0 : Int32) = cc ∧ r = 0) := by
    by_cases q : (0 : Int32) = cc
    · exact ⟨1, Or.inl ⟨q, rfl⟩⟩
    · exact ⟨0, Or.inr ⟨q, rfl⟩⟩
  have C99 : ∀ t, Steps p.tables e below (T98.setTop (mkF m 46 #[.val (.int p1), .val (.int p2), .val (.int p3), .val (.long p4), .second, .val (.long p5), .second, .val (.int cc), .val (.int kk), .val (.ref b92), .val (.ref b96), .unset] [(.ref b92)])) t → Steps p.tables e below (s₁.setTop (entryFrame m #[(.int p1), (.int p2), (.int p3), (.long p4), (.long p5)] maxLocals)) t := by
    intro t k
    refine C98 t ?_
    show Steps p.tables e below (T98.setTop (mkF m 42 #[.val (.int p1), .val (.int p2), .val (.int p3), .val (.long p4), .second, .val (.long p5), .second, .val (.int cc), .val (.int kk), .val (.ref b92), .unset, .unset] [(.ref b96)])) _
    refine XS.astore X98.here hx rfl (hb hby at_42) rfl rfl (l' := #[.val (.int p1), .val (.int p2), .val (.int p3), .val (.long p4), .second, .val (.long p5), .second, .val (.int cc), .val (.int kk), .val (.ref b92), .val (.ref b96), .unset]) rfl ?_
    show Steps p.tables e below (T98.setTop (mkF m 44 #[.val (.int p1), .val (.int p2), .val (.int p3), .val (.long p4), .second, .val (.long p5), .second, .val (.int cc), .val (.int kk), .val (.ref b92), .val (.ref b96), .unset] [])) _
    refine XS.aload X98.here hx rfl (hb hby at_44) rfl rfl ?_
    exact k
  obtain ⟨cq100, kq100, q100a, q100b, q100c⟩ := isOf hZ rfl PA.1
  obtain ⟨_, _, ⟨T100, L100, k100, n100⟩, -, X100, ⟨Lc100, hQ100, l100, y100, z100⟩, st100⟩ := X98.virtualBack hx (y := (⟨"com/example/bucket/bucket/ingest/PointRun", "isFull", "()Z"⟩ : MethodName)) (z := (⟨"com/example/bucket/bucket/ingest/PointRun", "isFull", "()Z"⟩ : MethodName)) hown (mvT hZ (hw _ (List.mem_of_getElem? (i := 35) rfl))) (mvT hZ (hw _ (List.mem_of_getElem? (i := 36) rfl))) (notFace_of_selects (args := #[]) (mvT hZ (hw _ (List.mem_of_getElem? (i := 38) rfl)))) (mvT hZ (hw _ (List.mem_of_getElem? (i := 38) rfl))) (mvT hZ (hw _ (List.mem_of_getElem? (i := 37) rfl))) (by decide) (backOf (W := 0) (rm4 l Z a0 hw [] b92 sa ta va ea cc (0 : Int32) r0 T98.heap n0 Z4 PA hcc.1 hr0) hZ (hw _ (List.mem_of_getElem? (i := 39) rfl)) (hw _ (List.mem_of_getElem? (i := 3) rfl)) (by decide) (by decide)) q100a q100c (g := (mkF m 46 #[.val (.int p1), .val (.int p2), .val (.int p3), .val (.long p4), .second, .val (.long p5), .second, .val (.int cc), .val (.int kk), .val (.ref b92), .val (.ref b96), .unset] [(.ref b92)])) rfl (by rw [hml]; rfl) (Steps.refl _) (argsL := []) (rest := []) (lenOf pd7 rfl) rfl (by show 2 * 0 + _ ≤ _; exact Nat.le_of_eq rfl) (hb hby at_46) (fun _ _ => ⟨rfl, rfl, (by decide : 6 + 0 ≤ _), (by decide : 21 + 0 ≤ _)⟩)
  dsimp only [Pt.U, Pt.locs, Pt.cells, Pt.slots] at X100 l100 y100 z100 st100 hQ100
  subst l100 y100 z100
  obtain ⟨rfl, N100q, q100⟩ := hQ100
  have N100 := Fr.app N98 N100q
  have C100 : ∀ t, Steps p.tables e below (T100.setTop (mkF m 49 #[.val (.int p1), .val (.int p2), .val (.int p3), .val (.long p4), .second, .val (.long p5), .second, .val (.int cc), .val (.int kk), .val (.ref b92), .val (.ref b96), .unset] [(.int r0)])) t → Steps p.tables e below (s₁.setTop (entryFrame m #[(.int p1), (.int p2), (.int p3), (.long p4), (.long p5)] maxLocals)) t := fun t k => C99 t (st100.trans k)
  have C101 : ∀ t, Steps p.tables e below (T100.setTop (mkF m 51 #[.val (.int p1), .val (.int p2), .val (.int p3), .val (.long p4), .second, .val (.long p5), .second, .val (.int cc), .val (.int kk), .val (.ref b92), .val (.ref b96), .unset] [(.int cc), (.int r0)])) t → Steps p.tables e below (s₁.setTop (entryFrame m #[(.int p1), (.int p2), (.int p3), (.long p4), (.long p5)] maxLocals)) t := by
    intro t k
    refine C100 t ?_
    show Steps p.tables e below (T100.setTop (mkF m 49 #[.val (.int p1), .val (.int p2), .val (.int p3), .val (.long p4), .second, .val (.long p5), .second, .val (.int cc), .val (.int kk), .val (.ref b92), .val (.ref b96), .unset] [(.int r0)])) _
    refine XS.iload X100.here hx rfl (hb hby at_49) rfl ?_
    exact k
  have CC0 : ∀ t, Steps p.tables e below (T100.setTop (mkF m 67 #[.val (.int p1), .val (.int p2), .val (.int p3), .val (.long p4), .second, .val (.long p5), .second, .val (.int cc), .val (.int kk), .val (.ref b92), .val (.ref b96), .unset] [(.int (1 : Int32))])) t → Steps p.tables e below (s₁.setTop (entryFrame m #[(.int p1), (.int p2), (.int p3), (.long p4), (.long p5)] maxLocals)) t := by
    rcases hr0 with ⟨hc, er⟩ | ⟨hc, er⟩
    · intro t k
      refine C101 t ?_
      show Steps p.tables e below (T100.setTop (mkF m 51 #[.val (.int p1), .val (.int p2), .val (.int p3), .val (.long p4), .second, .val (.long p5), .second, .val (.int cc), .val (.int kk), .val (.ref b92), .val (.ref b96), .unset] [(.int cc), (.int r0)])) _
      refine XS.ifNo X100.here hx rfl (hb hby at_51) rfl (XT.i0_ne_f (by rw [← hc])) ?_
      show Steps p.tables e below (T100.setTop (mkF m 54 #[.val (.int p1), .val (.int p2), .val (.int p3), .val (.long p4), .second, .val (.long p5), .second, .val (.int cc), .val (.int kk), .val (.ref b92), .val (.ref b96), .unset] [(.int r0)])) _
      refine XS.iconst X100.here hx rfl (hb hby at_54) ?_
      show Steps p.tables e below (T100.setTop (mkF m 55 #[.val (.int p1), .val (.int p2), .val (.int p3), .val (.long p4), .second, .val (.long p5), .second, .val (.int cc), .val (.int kk), .val (.ref b92), .val (.ref b96), .unset] [(.int (1 : Int32)), (.int r0)])) _
      refine XS.goto X100.here hx rfl (pc0 := 55) (pc' := 59) rfl (hb hby at_55) (by decide) (by decide) ?_
      show Steps p.tables e below (T100.setTop (mkF m 59 #[.val (.int p1), .val (.int p2), .val (.int p3), .val (.long p4), .second, .val (.long p5), .second, .val (.int cc), .val (.int kk), .val (.ref b92), .val (.ref b96), .unset] [(.int (1 : Int32)), (.int r0)])) _
      refine XS.icmpNo X100.here hx rfl (hb hby at_59) rfl (XT.ii_ne_f er) ?_
      show Steps p.tables e below (T100.setTop (mkF m 62 #[.val (.int p1), .val (.int p2), .val (.int p3), .val (.long p4), .second, .val (.long p5), .second, .val (.int cc), .val (.int kk), .val (.ref b92), .val (.ref b96), .unset] [])) _
      refine XS.iconst X100.here hx rfl (hb hby at_62) ?_
      show Steps p.tables e below (T100.setTop (mkF m 63 #[.val (.int p1), .val (.int p2), .val (.int p3), .val (.long p4), .second, .val (.long p5), .second, .val (.int cc), .val (.int kk), .val (.ref b92), .val (.ref b96), .unset] [(.int (1 : Int32))])) _
      refine XS.goto X100.here hx rfl (pc0 := 63) (pc' := 67) rfl (hb hby at_63) (by decide) (by decide) ?_
      exact k
    · intro t k
      refine C101 t ?_
      show Steps p.tables e below (T100.setTop (mkF m 51 #[.val (.int p1), .val (.int p2), .val (.int p3), .val (.long p4), .second, .val (.long p5), .second, .val (.int cc), .val (.int kk), .val (.ref b92), .val (.ref b96), .unset] [(.int cc), (.int r0)])) _
      refine XS.ifYes X100.here hx rfl (pc0 := 51) (pc' := 58) rfl (hb hby at_51) rfl (XT.i0_ne_t (fun q => hc q.symm)) (by decide) (by decide) ?_
      show Steps p.tables e below (T100.setTop (mkF m 58 #[.val (.int p1), .val (.int p2), .val (.int p3), .val (.long p4), .second, .val (.long p5), .second, .val (.int cc), .val (.int kk), .val (.ref b92), .val (.ref b96), .unset] [(.int r0)])) _
      refine XS.iconst X100.here hx rfl (hb hby at_58) ?_
      show Steps p.tables e below (T100.setTop (mkF m 59 #[.val (.int p1), .val (.int p2), .val (.int p3), .val (.long p4), .second, .val (.long p5), .second, .val (.int cc), .val (.int kk), .val (.ref b92), .val (.ref b96), .unset] [(.int (0 : Int32)), (.int r0)])) _
      refine XS.icmpNo X100.here hx rfl (hb hby at_59) rfl (XT.ii_ne_f er) ?_
      show Steps p.tables e below (T100.setTop (mkF m 62 #[.val (.int p1), .val (.int p2), .val (.int p3), .val (.long p4), .second, .val (.long p5), .second, .val (.int cc), .val (.int kk), .val (.ref b92), .val (.ref b96), .unset] [])) _
      refine XS.iconst X100.here hx rfl (hb hby at_62) ?_
      show Steps p.tables e below (T100.setTop (mkF m 63 #[.val (.int p1), .val (.int p2), .val (.int p3), .val (.long p4), .second, .val (.long p5), .second, .val (.int cc), .val (.int kk), .val (.ref b92), .val (.ref b96), .unset] [(.int (1 : Int32))])) _
      refine XS.goto X100.here hx rfl (pc0 := 63) (pc' := 67) rfl (hb hby at_63) (by decide) (by decide) ?_
      exact k
  have C102 : ∀ t, Steps p.tables e below (T100.setTop (mkF m 244 #[.val (.int p1), .val (.int p2), .val (.int p3), .val (.long p4), .second, .val (.long p5), .second, .val (.int cc), .val (.int kk), .val (.ref b92), .val (.ref b96), .val (.int (1 : Int32))] [(.int (1 : Int32))])) t → Steps p.tables e below (s₁.setTop (entryFrame m #[(.int p1), (.int p2), (.int p3), (.long p4), (.long p5)] maxLocals)) t := by
    intro t k
    refine CC0 t ?_
    show Steps p.tables e below (T100.setTop (mkF m 67 #[.val (.int p1), .val (.int p2), .val (.int p3), .val (.long p4), .second, .val (.long p5), .second, .val (.int cc), .val (.int kk), .val (.ref b92), .val (.ref b96), .unset] [(.int (1 : Int32))])) _
    refine XS.istore X100.here hx rfl (hb hby at_67) rfl (l' := #[.val (.int p1), .val (.int p2), .val (.int p3), .val (.long p4), .second, .val (.long p5), .second, .val (.int cc), .val (.int kk), .val (.ref b92), .val (.ref b96), .val (.int (1 : Int32))]) rfl ?_
    show Steps p.tables e below (T100.setTop (mkF m 69 #[.val (.int p1), .val (.int p2), .val (.int p3), .val (.long p4), .second, .val (.long p5), .second, .val (.int cc), .val (.int kk), .val (.ref b92), .val (.ref b96), .val (.int (1 : Int32))] [])) _
    refine XS.iload X100.here hx rfl (hb hby at_69) rfl ?_
    show Steps p.tables e below (T100.setTop (mkF m 71 #[.val (.int p1), .val (.int p2), .val (.int p3), .val (.long p4), .second, .val (.long p5), .second, .val (.int cc), .val (.int kk), .val (.ref b92), .val (.ref b96), .val (.int (1 : Int32))] [(.int kk)])) _
    refine XS.iconst X100.here hx rfl (hb hby at_71) ?_
    show Steps p.tables e below (T100.setTop (mkF m 72 #[.val (.int p1), .val (.int p2), .val (.int p3), .val (.long p4), .second, .val (.long p5), .second, .val (.int cc), .val (.int kk), .val (.ref b92), .val (.ref b96), .val (.int (1 : Int32))] [(.int (1 : Int32)), (.int kk)])) _
    refine XS.icmpYes X100.here hx rfl (pc0 := 72) (pc' := 113) rfl (hb hby at_72) rfl (XT.ii_lt_t (by rw [hkk]; decide)) (by decide) (by decide) ?_
    show Steps p.tables e below (T100.setTop (mkF m 113 #[.val (.int p1), .val (.int p2), .val (.int p3), .val (.long p4), .second, .val (.long p5), .second, .val (.int cc), .val (.int kk), .val (.ref b92), .val (.ref b96), .val (.int (1 : Int32))] [])) _
    refine XS.iload X100.here hx rfl (hb hby at_113) rfl ?_
    show Steps p.tables e below (T100.setTop (mkF m 115 #[.val (.int p1), .val (.int p2), .val (.int p3), .val (.long p4), .second, .val (.long p5), .second, .val (.int cc), .val (.int kk), .val (.ref b92), .val (.ref b96), .val (.int (1 : Int32))] [(.int kk)])) _
    refine XS.iconst X100.here hx rfl (hb hby at_115) ?_
    show Steps p.tables e below (T100.setTop (mkF m 116 #[.val (.int p1), .val (.int p2), .val (.int p3), .val (.long p4), .second, .val (.long p5), .second, .val (.int cc), .val (.int kk), .val (.ref b92), .val (.ref b96), .val (.int (1 : Int32))] [(.int (2 : Int32)), (.int kk)])) _
    refine XS.icmpYes X100.here hx rfl (pc0 := 116) (pc' := 157) rfl (hb hby at_116) rfl (XT.ii_lt_t (by rw [hkk]; decide)) (by decide) (by decide) ?_
    show Steps p.tables e below (T100.setTop (mkF m 157 #[.val (.int p1), .val (.int p2), .val (.int p3), .val (.long p4), .second, .val (.long p5), .second, .val (.int cc), .val (.int kk), .val (.ref b92), .val (.ref b96), .val (.int (1 : Int32))] [])) _
    refine XS.iload X100.here hx rfl (hb hby at_157) rfl ?_
    show Steps p.tables e below (T100.setTop (mkF m 159 #[.val (.int p1), .val (.int p2), .val (.int p3), .val (.long p4), .second, .val (.long p5), .second, .val (.int cc), .val (.int kk), .val (.ref b92), .val (.ref b96), .val (.int (1 : Int32))] [(.int kk)])) _
    refine XS.iconst X100.here hx rfl (hb hby at_159) ?_
    show Steps p.tables e below (T100.setTop (mkF m 160 #[.val (.int p1), .val (.int p2), .val (.int p3), .val (.long p4), .second, .val (.long p5), .second, .val (.int cc), .val (.int kk), .val (.ref b92), .val (.ref b96), .val (.int (1 : Int32))] [(.int (3 : Int32)), (.int kk)])) _
    refine XS.icmpYes X100.here hx rfl (pc0 := 160) (pc' := 201) rfl (hb hby at_160) rfl (XT.ii_lt_t (by rw [hkk]; decide)) (by decide) (by decide) ?_
    show Steps p.tables e below (T100.setTop (mkF m 201 #[.val (.int p1), .val (.int p2), .val (.int p3), .val (.long p4), .second, .val (.long p5), .second, .val (.int cc), .val (.int kk), .val (.ref b92), .val (.ref b96), .val (.int (1 : Int32))] [])) _
    refine XS.iloadN X100.here hx rfl (hb hby at_201) rfl ?_
    show Steps p.tables e below (T100.setTop (mkF m 202 #[.val (.int p1), .val (.int p2), .val (.int p3), .val (.long p4), .second, .val (.long p5), .second, .val (.int cc), .val (.int kk), .val (.ref b92), .val (.ref b96), .val (.int (1 : Int32))] [(.int p3)])) _
    refine XS.sipush X100.here hx rfl (hb hby at_202) ?_
    show Steps p.tables e below (T100.setTop (mkF m 205 #[.val (.int p1), .val (.int p2), .val (.int p3), .val (.long p4), .second, .val (.long p5), .second, .val (.int cc), .val (.int kk), .val (.ref b92), .val (.ref b96), .val (.int (1 : Int32))] [(.int (256 : Int32)), (.int p3)])) _
    refine XS.iand X100.here hx rfl (hb hby at_205) rfl ?_
    show Steps p.tables e below (T100.setTop (mkF m 206 #[.val (.int p1), .val (.int p2), .val (.int p3), .val (.long p4), .second, .val (.long p5), .second, .val (.int cc), .val (.int kk), .val (.ref b92), .val (.ref b96), .val (.int (1 : Int32))] [(.int (p3 &&& (256 : Int32)))])) _
    refine XS.ifYes X100.here hx rfl (pc0 := 206) (pc' := 242) rfl (hb hby at_206) rfl (XT.i0_eq_t hf) (by decide) (by decide) ?_
    show Steps p.tables e below (T100.setTop (mkF m 242 #[.val (.int p1), .val (.int p2), .val (.int p3), .val (.long p4), .second, .val (.long p5), .second, .val (.int cc), .val (.int kk), .val (.ref b92), .val (.ref b96), .val (.int (1 : Int32))] [])) _
    refine XS.iload X100.here hx rfl (hb hby at_242) rfl ?_
    exact k
  obtain ⟨fs, hr, hrun, hended, hW, hsame⟩ := X100.leave (v := some (.int (1 : Int32))) (fun h => by rw [Bd.returns] at h; cases h)
  refine ⟨_, _, C102 _ ?_, hrun, hended, _, _, rfl, ?_, ⟨_, rfl⟩, hW, hsame.mono (by decide) (by decide)⟩
  · show Steps p.tables e below (T100.setTop (mkF m 244 #[.val (.int p1), .val (.int p2), .val (.int p3), .val (.long p4), .second, .val (.long p5), .second, .val (.int cc), .val (.int kk), .val (.ref b92), .val (.ref b96), .val (.int (1 : Int32))] [(.int (1 : Int32))])) _
    exact retN X100 hx (t := .boolean) Bd.returns (by simp) (hb hby at_244) hr
  · show Q0 Z p1 p2 p3 p4 p5 h0 n0 _ T100.heap _
    rw [q100]
    exact ⟨rfl, N100⟩
theorem pd8 : parseMethodDescriptor "()V" = some ⟨[], none⟩ := by decide +kernel
set_option maxRecDepth 65536 in
set_option maxHeartbeats 40000000 in
theorem rm0_01 (l : Launch) (Z : State) (a0 : Array Value) (hw : ∀ d ∈ tables_1, d.before a0 Z = true) (ws : List Jvm.Cond) (p1 p2 p3 : Int32) (p4 p5 : Int64) (h0 : Heap) (n0 : Nat) (Z0 : n0 ≤ h0.size) (hk : ((p2 &&& (2147483647 : Int32)) - ((p2 &&& (2147483647 : Int32)) / ((p1 &&& (3 : Int32)) + (1 : Int32))) * ((p1 &&& (3 : Int32)) + (1 : Int32))) = (0 : Int32)) (hf : ¬ (p3 &&& (256 : Int32)) = 0) :
    MetFree l x (head1 (Jvm.Cond.code x code maxLocals ret :: ws) room_1) (fun a U => a = #[(.int p1), (.int p2), (.int p3), (.long p4), (.long p5)] ∧ Z.Warmed39 U.vm ∧ U.heap = h0) (fun _ _ _ _ _ => True) (fun _ U o U' => ∃ v L, o = .returned v ∧ Q0 Z p1 p2 p3 p4 p5 h0 n0 v U'.heap L ∧ FrameEnd U o U' L room_1.cells room_1.slots) := by
  refine MetFree.of_bodySF (plainFor_of_name pn3) hisR ?_
  intro p e s m args below meth c s₁ Bd hml0 hP hK
  obtain ⟨rfl, hZ, hh⟩ := hP
  have hx := Bd.exec
  have hby := Bd.bytes
  have hml : c.maxLocals = 12 := hml0
  have hown : s.vm.findClass "com/example/bucket/bucket/ingest/PointRunIsFullPinLaw" = some m.cls := findClass_of_methodNamed Bd.named
  have hnm := (name_of_methodNamed Bd.named Bd.method).1
  have X0 : Stand p l e room_1 s m #[(.int p1), (.int p2), (.int p3), (.long p4), (.long p5)] below meth c s₁ [] 0 0 := Stand.of_body Bd
  have e0 : s₁.heap = h0 := by rw [← hh, Bd.state]; rfl
  have N0 := Fr.nil n0
  have pre0 : ∀ t, Steps p.tables e below (s₁.setTop (mkF m 0 #[.val (.int p1), .val (.int p2), .val (.int p3), .val (.long p4), .second, .val (.long p5), .second, .unset, .unset, .unset, .unset, .unset] [])) t → Steps p.tables e below (s₁.setTop (entryFrame m #[(.int p1), (.int p2), (.int p3), (.long p4), (.long p5)] maxLocals)) t := fun t k => castTop (ef0 m p1 p2 p3 p4 p5) k
  have C103 : ∀ t, Steps p.tables e below (s₁.setTop (mkF m 5 #[.val (.int p1), .val (.int p2), .val (.int p3), .val (.long p4), .second, .val (.long p5), .second, .val (.int (p1 &&& (3 : Int32))), .unset, .unset, .unset, .unset] [])) t → Steps p.tables e below (s₁.setTop (entryFrame m #[(.int p1), (.int p2), (.int p3), (.long p4), (.long p5)] maxLocals)) t := by
    intro t k
    refine pre0 t ?_
    show Steps p.tables e below (s₁.setTop (mkF m 0 #[.val (.int p1), .val (.int p2), .val (.int p3), .val (.long p4), .second, .val (.long p5), .second, .unset, .unset, .unset, .unset, .unset] [])) _
    refine XS.iloadN X0.here hx rfl (hb hby at_0) rfl ?_
    show Steps p.tables e below (s₁.setTop (mkF m 1 #[.val (.int p1), .val (.int p2), .val (.int p3), .val (.long p4), .second, .val (.long p5), .second, .unset, .unset, .unset, .unset, .unset] [(.int p1)])) _
    refine XS.iconst X0.here hx rfl (hb hby at_1) ?_
    show Steps p.tables e below (s₁.setTop (mkF m 2 #[.val (.int p1), .val (.int p2), .val (.int p3), .val (.long p4), .second, .val (.long p5), .second, .unset, .unset, .unset, .unset, .unset] [(.int (3 : Int32)), (.int p1)])) _
    refine XS.iand X0.here hx rfl (hb hby at_2) rfl ?_
    show Steps p.tables e below (s₁.setTop (mkF m 3 #[.val (.int p1), .val (.int p2), .val (.int p3), .val (.long p4), .second, .val (.long p5), .second, .unset, .unset, .unset, .unset, .unset] [(.int (p1 &&& (3 : Int32)))])) _
    refine XS.istore X0.here hx rfl (hb hby at_3) rfl (l' := #[.val (.int p1), .val (.int p2), .val (.int p3), .val (.long p4), .second, .val (.long p5), .second, .val (.int (p1 &&& (3 : Int32))), .unset, .unset, .unset, .unset]) rfl ?_
    exact k
  obtain ⟨cc, h_cc⟩ : ∃ z : Int32, z = (p1 &&& (3 : Int32)) := ⟨_, rfl⟩
  rw [← h_cc] at C103
  have hcc := own_cap p1
  rw [← h_cc] at hcc
  have C104 : ∀ t, Steps p.tables e below (s₁.setTop (mkF m 16 #[.val (.int p1), .val (.int p2), .val (.int p3), .val (.long p4), .second, .val (.long p5), .second, .val (.int cc), .val (.int ((p2 &&& (2147483647 : Int32)) - ((p2 &&& (2147483647 : Int32)) / (cc + (1 : Int32))) * (cc + (1 : Int32)))), .unset, .unset, .unset] [])) t → Steps p.tables e below (s₁.setTop (entryFrame m #[(.int p1), (.int p2), (.int p3), (.long p4), (.long p5)] maxLocals)) t := by
    intro t k
    refine C103 t ?_
    show Steps p.tables e below (s₁.setTop (mkF m 5 #[.val (.int p1), .val (.int p2), .val (.int p3), .val (.long p4), .second, .val (.long p5), .second, .val (.int cc), .unset, .unset, .unset, .unset] [])) _
    refine XS.iloadN X0.here hx rfl (hb hby at_5) rfl ?_
    show Steps p.tables e below (s₁.setTop (mkF m 6 #[.val (.int p1), .val (.int p2), .val (.int p3), .val (.long p4), .second, .val (.long p5), .second, .val (.int cc), .unset, .unset, .unset, .unset] [(.int p2)])) _
    refine X0.ldcInt hx hown (mvT hZ (hw _ (List.mem_of_getElem? (i := 0) rfl))) (g := (mkF m 6 #[.val (.int p1), .val (.int p2), .val (.int p3), .val (.long p4), .second, .val (.long p5), .second, .val (.int cc), .unset, .unset, .unset, .unset] [(.int p2)])) rfl (hb hby at_6) _ ?_
    show Steps p.tables e below (s₁.setTop (mkF m 8 #[.val (.int p1), .val (.int p2), .val (.int p3), .val (.long p4), .second, .val (.long p5), .second, .val (.int cc), .unset, .unset, .unset, .unset] [(.int (2147483647 : Int32)), (.int p2)])) _
    refine XS.iand X0.here hx rfl (hb hby at_8) rfl ?_
    show Steps p.tables e below (s₁.setTop (mkF m 9 #[.val (.int p1), .val (.int p2), .val (.int p3), .val (.long p4), .second, .val (.long p5), .second, .val (.int cc), .unset, .unset, .unset, .unset] [(.int (p2 &&& (2147483647 : Int32)))])) _
    refine XS.iload X0.here hx rfl (hb hby at_9) rfl ?_
    show Steps p.tables e below (s₁.setTop (mkF m 11 #[.val (.int p1), .val (.int p2), .val (.int p3), .val (.long p4), .second, .val (.long p5), .second, .val (.int cc), .unset, .unset, .unset, .unset] [(.int cc), (.int (p2 &&& (2147483647 : Int32)))])) _
    refine XS.iconst X0.here hx rfl (hb hby at_11) ?_
    show Steps p.tables e below (s₁.setTop (mkF m 12 #[.val (.int p1), .val (.int p2), .val (.int p3), .val (.long p4), .second, .val (.long p5), .second, .val (.int cc), .unset, .unset, .unset, .unset] [(.int (1 : Int32)), (.int cc), (.int (p2 &&& (2147483647 : Int32)))])) _
    refine XS.iadd X0.here hx rfl (hb hby at_12) rfl ?_
    show Steps p.tables e below (s₁.setTop (mkF m 13 #[.val (.int p1), .val (.int p2), .val (.int p3), .val (.long p4), .second, .val (.long p5), .second, .val (.int cc), .unset, .unset, .unset, .unset] [(.int (cc + (1 : Int32))), (.int (p2 &&& (2147483647 : Int32)))])) _
    refine XS.irem X0.here hx rfl (hb hby at_13) rfl (own_cap1 hcc) ?_
    show Steps p.tables e below (s₁.setTop (mkF m 14 #[.val (.int p1), .val (.int p2), .val (.int p3), .val (.long p4), .second, .val (.long p5), .second, .val (.int cc), .unset, .unset, .unset, .unset] [(.int ((p2 &&& (2147483647 : Int32)) - ((p2 &&& (2147483647 : Int32)) / (cc + (1 : Int32))) * (cc + (1 : Int32))))])) _
    refine XS.istore X0.here hx rfl (hb hby at_14) rfl (l' := #[.val (.int p1), .val (.int p2), .val (.int p3), .val (.long p4), .second, .val (.long p5), .second, .val (.int cc), .val (.int ((p2 &&& (2147483647 : Int32)) - ((p2 &&& (2147483647 : Int32)) / (cc + (1 : Int32))) * (cc + (1 : Int32)))), .unset, .unset, .unset]) rfl ?_
    exact k
  obtain ⟨kk, h_kk⟩ : ∃ z : Int32, z = ((p2 &&& (2147483647 : Int32)) - ((p2 &&& (2147483647 : Int32)) / (cc + (1 : Int32))) * (cc + (1 : Int32))) := ⟨_, rfl⟩
  rw [← h_kk] at C104
  have hkk : kk = (0 : Int32) := by rw [h_kk, h_cc]; exact hk
  have hkb : (0 : Int) ≤ cc.toInt := by have q := own_kle hcc p2; rw [← h_kk, hkk] at q; exact q
  obtain ⟨T105, h105, X105, e105, E105, A105, D105, -, st105⟩ := newO X0 hx hZ hown (hw _ (List.mem_of_getElem? (i := 1) rfl)) (hw _ (List.mem_of_getElem? (i := 2) rfl)) (hw _ (List.mem_of_getElem? (i := 3) rfl)) e0 (g := (mkF m 16 #[.val (.int p1), .val (.int p2), .val (.int p3), .val (.long p4), .second, .val (.long p5), .second, .val (.int cc), .val (.int kk), .unset, .unset, .unset] [])) rfl (hb hby at_16) (by decide) (by decide)
  obtain ⟨b105, g105⟩ : ∃ z, z = h0.size := ⟨_, rfl⟩
  rw [← g105] at A105 D105 st105
  have C105 : ∀ t, Steps p.tables e below (T105.setTop (mkF m 19 #[.val (.int p1), .val (.int p2), .val (.int p3), .val (.long p4), .second, .val (.long p5), .second, .val (.int cc), .val (.int kk), .unset, .unset, .unset] [(.ref b105)])) t → Steps p.tables e below (s₁.setTop (entryFrame m #[(.int p1), (.int p2), (.int p3), (.long p4), (.long p5)] maxLocals)) t := fun t k => C104 t (st105 t k)
  have F_series : Fld Z h105 b105 "com/example/bucket/bucket/ingest/PointRun" "series" "[Lcom/example/bucket/bucket/lineformat/Series;" .null := D105 (Or.inr (hw _ (List.mem_of_getElem? (i := 13) rfl))) (ty := (.array (.object "com/example/bucket/bucket/lineformat/Series"))) (by decide)
  have F_times : Fld Z h105 b105 "com/example/bucket/bucket/ingest/PointRun" "times" "[J" .null := D105 (Or.inr (hw _ (List.mem_of_getElem? (i := 16) rfl))) (ty := (.array .long)) (by decide)
  have F_values : Fld Z h105 b105 "com/example/bucket/bucket/ingest/PointRun" "values" "[D" .null := D105 (Or.inr (hw _ (List.mem_of_getElem? (i := 19) rfl))) (ty := (.array .double)) (by decide)
  have F_ends : Fld Z h105 b105 "com/example/bucket/bucket/ingest/PointRun" "ends" "[J" .null := D105 (Or.inr (hw _ (List.mem_of_getElem? (i := 21) rfl))) (ty := (.array .long)) (by decide)
  have F_size : Fld Z h105 b105 "com/example/bucket/bucket/ingest/PointRun" "size" "I" (.int 0) := D105 (Or.inl (hw _ (List.mem_of_getElem? (i := 41) rfl))) (ty := .int) (by decide)
  have F_merged : Fld Z h105 b105 "com/example/bucket/bucket/ingest/PointRun" "merged" "I" (.int 0) := D105 (Or.inl (hw _ (List.mem_of_getElem? (i := 75) rfl))) (ty := .int) (by decide)
  have Z1 : n0 ≤ h105.size := Nat.le_trans Z0 E105.1
  have g1 : n0 ≤ b105 := Nat.le_trans Z0 (Nat.le_of_eq g105.symm)
  have C106 : ∀ t, Steps p.tables e below (T105.setTop (mkF m 22 #[.val (.int p1), .val (.int p2), .val (.int p3), .val (.long p4), .second, .val (.long p5), .second, .val (.int cc), .val (.int kk), .unset, .unset, .unset] [(.int cc), (.ref b105), (.ref b105)])) t → Steps p.tables e below (s₁.setTop (entryFrame m #[(.int p1), (.int p2), (.int p3), (.long p4), (.long p5)] maxLocals)) t := by
    intro t k
    refine C105 t ?_
    show Steps p.tables e below (T105.setTop (mkF m 19 #[.val (.int p1), .val (.int p2), .val (.int p3), .val (.long p4), .second, .val (.long p5), .second, .val (.int cc), .val (.int kk), .unset, .unset, .unset] [(.ref b105)])) _
    refine XS.dup X105.here hx rfl (hb hby at_19) rfl rfl ?_
    show Steps p.tables e below (T105.setTop (mkF m 20 #[.val (.int p1), .val (.int p2), .val (.int p3), .val (.long p4), .second, .val (.long p5), .second, .val (.int cc), .val (.int kk), .unset, .unset, .unset] [(.ref b105), (.ref b105)])) _
    refine XS.iload X105.here hx rfl (hb hby at_20) rfl ?_
    exact k
  obtain ⟨_, _, ⟨T107, L107, k107, n107⟩, -, X107, ⟨Lc107, hQ107, l107, y107, z107⟩, st107⟩ := X105.specialBack hx (y := (⟨"com/example/bucket/bucket/ingest/PointRun", "<init>", "(I)V"⟩ : MethodName)) rfl hown (mvT hZ (hw _ (List.mem_of_getElem? (i := 4) rfl))) (mvT hZ (hw _ (List.mem_of_getElem? (i := 5) rfl))) (mvT hZ (hw _ (List.mem_of_getElem? (i := 6) rfl))) (by decide) (backOf (W := 1) (rm1 l Z a0 hw [] b105 cc h105 n0 Z1 F_series F_times F_values F_ends F_size F_merged A105 g1 hcc.1 hcc.2.2) hZ (hw _ (List.mem_of_getElem? (i := 6) rfl)) (hw _ (List.mem_of_getElem? (i := 3) rfl)) (by decide) (by decide)) (g := (mkF m 22 #[.val (.int p1), .val (.int p2), .val (.int p3), .val (.long p4), .second, .val (.long p5), .second, .val (.int cc), .val (.int kk), .unset, .unset, .unset] [(.int cc), (.ref b105), (.ref b105)])) rfl (by rw [hml]; rfl) (Steps.refl _) (a := b105) (argsL := [(.int cc)]) (rest := [(.ref b105)]) (lenOf pd5 rfl) rfl (by show 2 * 0 + _ ≤ _; exact Nat.le_of_eq rfl) (hb hby at_22) (fun _ _ => ⟨rfl, e105, (by decide : 1 + 4 ≤ _), (by decide : 6 + 12 ≤ _)⟩)
  dsimp only [Pt.U, Pt.locs, Pt.cells, Pt.slots] at X107 l107 y107 z107 st107 hQ107
  subst l107 y107 z107
  obtain ⟨rfl, N107q, sa, ta, va, ea, P107, K107, fs, ft, fv, fe⟩ := hQ107
  have N107 := Fr.app N0 N107q
  have C107 : ∀ t, Steps p.tables e below (T107.setTop (mkF m 25 #[.val (.int p1), .val (.int p2), .val (.int p3), .val (.long p4), .second, .val (.long p5), .second, .val (.int cc), .val (.int kk), .unset, .unset, .unset] [(.ref b105)])) t → Steps p.tables e below (s₁.setTop (entryFrame m #[(.int p1), (.int p2), (.int p3), (.long p4), (.long p5)] maxLocals)) t := fun t k => C106 t (st107.trans k)
  have Z2 : n0 ≤ T107.heap.size := Nat.le_trans Z1 K107.1
  have gs := Nat.le_trans Z1 fs
  have gt := Nat.le_trans Z1 ft
  have gv := Nat.le_trans Z1 fv
  have ge := Nat.le_trans Z1 fe
  have C108 : ∀ t, Steps p.tables e below (T107.setTop (mkF m 27 #[.val (.int p1), .val (.int p2), .val (.int p3), .val (.long p4), .second, .val (.long p5), .second, .val (.int cc), .val (.int kk), .val (.ref b105), .unset, .unset] [])) t → Steps p.tables e below (s₁.setTop (entryFrame m #[(.int p1), (.int p2), (.int p3), (.long p4), (.long p5)] maxLocals)) t := by
    intro t k
    refine C107 t ?_
    show Steps p.tables e below (T107.setTop (mkF m 25 #[.val (.int p1), .val (.int p2), .val (.int p3), .val (.long p4), .second, .val (.long p5), .second, .val (.int cc), .val (.int kk), .unset, .unset, .unset] [(.ref b105)])) _
    refine XS.astore X107.here hx rfl (hb hby at_25) rfl rfl (l' := #[.val (.int p1), .val (.int p2), .val (.int p3), .val (.long p4), .second, .val (.long p5), .second, .val (.int cc), .val (.int kk), .val (.ref b105), .unset, .unset]) rfl ?_
    exact k
  obtain ⟨T109, h109, X109, e109, E109, A109, D109, -, st109⟩ := newO X107 hx hZ hown (hw _ (List.mem_of_getElem? (i := 22) rfl)) (hw _ (List.mem_of_getElem? (i := 23) rfl)) (hw _ (List.mem_of_getElem? (i := 24) rfl)) rfl (g := (mkF m 27 #[.val (.int p1), .val (.int p2), .val (.int p3), .val (.long p4), .second, .val (.long p5), .second, .val (.int cc), .val (.int kk), .val (.ref b105), .unset, .unset] [])) rfl (hb hby at_27) (by decide) (by decide)
  obtain ⟨b109, g109⟩ : ∃ z, z = T107.heap.size := ⟨_, rfl⟩
  rw [← g109] at A109 D109 st109
  have C109 : ∀ t, Steps p.tables e below (T109.setTop (mkF m 30 #[.val (.int p1), .val (.int p2), .val (.int p3), .val (.long p4), .second, .val (.long p5), .second, .val (.int cc), .val (.int kk), .val (.ref b105), .unset, .unset] [(.ref b109)])) t → Steps p.tables e below (s₁.setTop (entryFrame m #[(.int p1), (.int p2), (.int p3), (.long p4), (.long p5)] maxLocals)) t := fun t k => C108 t (st109 t k)
  have G_series : Fld Z h109 b109 "com/example/bucket/bucket/lineformat/Point" "series" "Lcom/example/bucket/bucket/lineformat/Series;" .null := D109 (Or.inr (hw _ (List.mem_of_getElem? (i := 30) rfl))) (ty := (.object "com/example/bucket/bucket/lineformat/Series")) (by decide)
  have G_time : Fld Z h109 b109 "com/example/bucket/bucket/lineformat/Point" "time" "J" (.long 0) := D109 (Or.inr (hw _ (List.mem_of_getElem? (i := 32) rfl))) (ty := .long) (by decide)
  have G_value : Fld Z h109 b109 "com/example/bucket/bucket/lineformat/Point" "value" "D" (.double 0) := D109 (Or.inr (hw _ (List.mem_of_getElem? (i := 34) rfl))) (ty := .double) (by decide)
  have Z3 : n0 ≤ h109.size := Nat.le_trans Z2 E109.1
  have g2 : n0 ≤ b109 := Nat.le_trans Z2 (Nat.le_of_eq g109.symm)
  have C110 : ∀ t, Steps p.tables e below (T109.setTop (mkF m 39 #[.val (.int p1), .val (.int p2), .val (.int p3), .val (.long p4), .second, .val (.long p5), .second, .val (.int cc), .val (.int kk), .val (.ref b105), .unset, .unset] [(.double (FP.i2d (p3 &&& (255 : Int32)))), (.long p4), .null, (.ref b109), (.ref b109)])) t → Steps p.tables e below (s₁.setTop (entryFrame m #[(.int p1), (.int p2), (.int p3), (.long p4), (.long p5)] maxLocals)) t := by
    intro t k
    refine C109 t ?_
    show Steps p.tables e below (T109.setTop (mkF m 30 #[.val (.int p1), .val (.int p2), .val (.int p3), .val (.long p4), .second, .val (.long p5), .second, .val (.int cc), .val (.int kk), .val (.ref b105), .unset, .unset] [(.ref b109)])) _
    refine XS.dup X109.here hx rfl (hb hby at_30) rfl rfl ?_
    show Steps p.tables e below (T109.setTop (mkF m 31 #[.val (.int p1), .val (.int p2), .val (.int p3), .val (.long p4), .second, .val (.long p5), .second, .val (.int cc), .val (.int kk), .val (.ref b105), .unset, .unset] [(.ref b109), (.ref b109)])) _
    refine XS.aconstNull X109.here hx rfl (hb hby at_31) ?_
    show Steps p.tables e below (T109.setTop (mkF m 32 #[.val (.int p1), .val (.int p2), .val (.int p3), .val (.long p4), .second, .val (.long p5), .second, .val (.int cc), .val (.int kk), .val (.ref b105), .unset, .unset] [.null, (.ref b109), (.ref b109)])) _
    refine XS.lloadN X109.here hx rfl (hb hby at_32) rfl ?_
    show Steps p.tables e below (T109.setTop (mkF m 33 #[.val (.int p1), .val (.int p2), .val (.int p3), .val (.long p4), .second, .val (.long p5), .second, .val (.int cc), .val (.int kk), .val (.ref b105), .unset, .unset] [(.long p4), .null, (.ref b109), (.ref b109)])) _
    refine XS.iloadN X109.here hx rfl (hb hby at_33) rfl ?_
    show Steps p.tables e below (T109.setTop (mkF m 34 #[.val (.int p1), .val (.int p2), .val (.int p3), .val (.long p4), .second, .val (.long p5), .second, .val (.int cc), .val (.int kk), .val (.ref b105), .unset, .unset] [(.int p3), (.long p4), .null, (.ref b109), (.ref b109)])) _
    refine XS.sipush X109.here hx rfl (hb hby at_34) ?_
    show Steps p.tables e below (T109.setTop (mkF m 37 #[.val (.int p1), .val (.int p2), .val (.int p3), .val (.long p4), .second, .val (.long p5), .second, .val (.int cc), .val (.int kk), .val (.ref b105), .unset, .unset] [(.int (255 : Int32)), (.int p3), (.long p4), .null, (.ref b109), (.ref b109)])) _
    refine XS.iand X109.here hx rfl (hb hby at_37) rfl ?_
    show Steps p.tables e below (T109.setTop (mkF m 38 #[.val (.int p1), .val (.int p2), .val (.int p3), .val (.long p4), .second, .val (.long p5), .second, .val (.int cc), .val (.int kk), .val (.ref b105), .unset, .unset] [(.int (p3 &&& (255 : Int32))), (.long p4), .null, (.ref b109), (.ref b109)])) _
    refine XS.i2dS X109.here hx rfl (hb hby at_38) rfl rfl ?_
    exact k
  obtain ⟨_, _, ⟨T111, L111, k111, n111⟩, -, X111, ⟨Lc111, hQ111, l111, y111, z111⟩, st111⟩ := X109.specialBack hx (y := (⟨"com/example/bucket/bucket/lineformat/Point", "<init>", "(Lcom/example/bucket/bucket/lineformat/Series;JD)V"⟩ : MethodName)) rfl hown (mvT hZ (hw _ (List.mem_of_getElem? (i := 25) rfl))) (mvT hZ (hw _ (List.mem_of_getElem? (i := 26) rfl))) (mvT hZ (hw _ (List.mem_of_getElem? (i := 27) rfl))) (by decide) (backOf (W := 1) (rm3 l Z a0 hw [] b109 p4 (FP.i2d (p3 &&& (255 : Int32))) h109 n0 Z3 G_series G_time G_value A109 g2) hZ (hw _ (List.mem_of_getElem? (i := 27) rfl)) (hw _ (List.mem_of_getElem? (i := 24) rfl)) (by decide) (by decide)) (g := (mkF m 39 #[.val (.int p1), .val (.int p2), .val (.int p3), .val (.long p4), .second, .val (.long p5), .second, .val (.int cc), .val (.int kk), .val (.ref b105), .unset, .unset] [(.double (FP.i2d (p3 &&& (255 : Int32)))), (.long p4), .null, (.ref b109), (.ref b109)])) rfl (by rw [hml]; rfl) (Steps.refl _) (a := b109) (argsL := [.null, (.long p4), (.double (FP.i2d (p3 &&& (255 : Int32))))]) (rest := [(.ref b109)]) (lenOf pd6 rfl) rfl (by show 2 * 0 + _ ≤ _; exact Nat.le_of_eq rfl) (hb hby at_39) (fun _ _ => ⟨rfl, e109, (by decide : 6 + 0 ≤ _), (by decide : 21 + 0 ≤ _)⟩)
  dsimp only [Pt.U, Pt.locs, Pt.cells, Pt.slots] at X111 l111 y111 z111 st111 hQ111
  subst l111 y111 z111
  obtain ⟨rfl, N111q, Q111, K111⟩ := hQ111
  have N111 := Fr.app N107 N111q
  have C111 : ∀ t, Steps p.tables e below (T111.setTop (mkF m 42 #[.val (.int p1), .val (.int p2), .val (.int p3), .val (.long p4), .second, .val (.long p5), .second, .val (.int cc), .val (.int kk), .val (.ref b105), .unset, .unset] [(.ref b109)])) t → Steps p.tables e below (s₁.setTop (entryFrame m #[(.int p1), (.int p2), (.int p3), (.long p4), (.long p5)] maxLocals)) t := fun t k => C110 t (st111.trans k)
  have Z4 : n0 ≤ T111.heap.size := Nat.le_trans Z3 K111.1
  have PA : OwnP Z T111.heap b105 sa ta va ea cc.toNatClampNeg 0 := (P107.ext E109).keep K111 (own_nin1 (own_natne (by have := own_natlt P107.lt.1; omega)))
  obtain ⟨r0, hr0⟩ : ∃ r : Int32, ((0 : Int32) = cc ∧ r = 1) ∨ (¬ (0 : Int32) = cc ∧ r = 0) := by
    by_cases q : (0 : Int32) = cc
    · exact ⟨1, Or.inl ⟨q, rfl⟩⟩
    · exact ⟨0, Or.inr ⟨q, rfl⟩⟩
  have C112 : ∀ t, Steps p.tables e below (T111.setTop (mkF m 46 #[.val (.int p1), .val (.int p2), .val (.int p3), .val (.long p4), .second, .val (.long p5), .second, .val (.int cc), .val (.int kk), .val (.ref b105), .val (.ref b109), .unset] [(.ref b105)])) t → Steps p.tables e below (s₁.setTop (entryFrame m #[(.int p1), (.int p2), (.int p3), (.long p4), (.long p5)] maxLocals)) t := by
    intro t k
    refine C111 t ?_
    show Steps p.tables e below (T111.setTop (mkF m 42 #[.val (.int p1), .val (.int p2), .val (.int p3), .val (.long p4), .second, .val (.long p5), .second, .val (.int cc), .val (.int kk), .val (.ref b105), .unset, .unset] [(.ref b109)])) _
    refine XS.astore X111.here hx rfl (hb hby at_42) rfl rfl (l' := #[.val (.int p1), .val (.int p2), .val (.int p3), .val (.long p4), .second, .val (.long p5), .second, .val (.int cc), .val (.int kk), .val (.ref b105), .val (.ref b109), .unset]) rfl ?_
    show Steps p.tables e below (T111.setTop (mkF m 44 #[.val (.int p1), .val (.int p2), .val (.int p3), .val (.long p4), .second, .val (.long p5), .second, .val (.int cc), .val (.int kk), .val (.ref b105), .val (.ref b109), .unset] [])) _
    refine XS.aload X111.here hx rfl (hb hby at_44) rfl rfl ?_
    exact k
  obtain ⟨cq113, kq113, q113a, q113b, q113c⟩ := isOf hZ rfl PA.1
  obtain ⟨_, _, ⟨T113, L113, k113, n113⟩, -, X113, ⟨Lc113, hQ113, l113, y113, z113⟩, st113⟩ := X111.virtualBack hx (y := (⟨"com/example/bucket/bucket/ingest/PointRun", "isFull", "()Z"⟩ : MethodName)) (z := (⟨"com/example/bucket/bucket/ingest/PointRun", "isFull", "()Z"⟩ : MethodName)) hown (mvT hZ (hw _ (List.mem_of_getElem? (i := 35) rfl))) (mvT hZ (hw _ (List.mem_of_getElem? (i := 36) rfl))) (notFace_of_selects (args := #[]) (mvT hZ (hw _ (List.mem_of_getElem? (i := 38) rfl)))) (mvT hZ (hw _ (List.mem_of_getElem? (i := 38) rfl))) (mvT hZ (hw _ (List.mem_of_getElem? (i := 37) rfl))) (by decide) (backOf (W := 0) (rm4 l Z a0 hw [] b105 sa ta va ea cc (0 : Int32) r0 T111.heap n0 Z4 PA hcc.1 hr0) hZ (hw _ (List.mem_of_getElem? (i := 39) rfl)) (hw _ (List.mem_of_getElem? (i := 3) rfl)) (by decide) (by decide)) q113a q113c (g := (mkF m 46 #[.val (.int p1), .val (.int p2), .val (.int p3), .val (.long p4), .second, .val (.long p5), .second, .val (.int cc), .val (.int kk), .val (.ref b105), .val (.ref b109), .unset] [(.ref b105)])) rfl (by rw [hml]; rfl) (Steps.refl _) (argsL := []) (rest := []) (lenOf pd7 rfl) rfl (by show 2 * 0 + _ ≤ _; exact Nat.le_of_eq rfl) (hb hby at_46) (fun _ _ => ⟨rfl, rfl, (by decide : 6 + 0 ≤ _), (by decide : 21 + 0 ≤ _)⟩)
  dsimp only [Pt.U, Pt.locs, Pt.cells, Pt.slots] at X113 l113 y113 z113 st113 hQ113
  subst l113 y113 z113
  obtain ⟨rfl, N113q, q113⟩ := hQ113
  have N113 := Fr.app N111 N113q
  have C113 : ∀ t, Steps p.tables e below (T113.setTop (mkF m 49 #[.val (.int p1), .val (.int p2), .val (.int p3), .val (.long p4), .second, .val (.long p5), .second, .val (.int cc), .val (.int kk), .val (.ref b105), .val (.ref b109), .unset] [(.int r0)])) t → Steps p.tables e below (s₁.setTop (entryFrame m #[(.int p1), (.int p2), (.int p3), (.long p4), (.long p5)] maxLocals)) t := fun t k => C112 t (st113.trans k)
  have C114 : ∀ t, Steps p.tables e below (T113.setTop (mkF m 51 #[.val (.int p1), .val (.int p2), .val (.int p3), .val (.long p4), .second, .val (.long p5), .second, .val (.int cc), .val (.int kk), .val (.ref b105), .val (.ref b109), .unset] [(.int cc), (.int r0)])) t → Steps p.tables e below (s₁.setTop (entryFrame m #[(.int p1), (.int p2), (.int p3), (.long p4), (.long p5)] maxLocals)) t := by
    intro t k
    refine C113 t ?_
    show Steps p.tables e below (T113.setTop (mkF m 49 #[.val (.int p1), .val (.int p2), .val (.int p3), .val (.long p4), .second, .val (.long p5), .second, .val (.int cc), .val (.int kk), .val (.ref b105), .val (.ref b109), .unset] [(.int r0)])) _
    refine XS.iload X113.here hx rfl (hb hby at_49) rfl ?_
    exact k
  have CC0 : ∀ t, Steps p.tables e below (T113.setTop (mkF m 67 #[.val (.int p1), .val (.int p2), .val (.int p3), .val (.long p4), .second, .val (.long p5), .second, .val (.int cc), .val (.int kk), .val (.ref b105), .val (.ref b109), .unset] [(.int (1 : Int32))])) t → Steps p.tables e below (s₁.setTop (entryFrame m #[(.int p1), (.int p2), (.int p3), (.long p4), (.long p5)] maxLocals)) t := by
    rcases hr0 with ⟨hc, er⟩ | ⟨hc, er⟩
    · intro t k
      refine C114 t ?_
      show Steps p.tables e below (T113.setTop (mkF m 51 #[.val (.int p1), .val (.int p2), .val (.int p3), .val (.long p4), .second, .val (.long p5), .second, .val (.int cc), .val (.int kk), .val (.ref b105), .val (.ref b109), .unset] [(.int cc), (.int r0)])) _
      refine XS.ifNo X113.here hx rfl (hb hby at_51) rfl (XT.i0_ne_f (by rw [← hc])) ?_
      show Steps p.tables e below (T113.setTop (mkF m 54 #[.val (.int p1), .val (.int p2), .val (.int p3), .val (.long p4), .second, .val (.long p5), .second, .val (.int cc), .val (.int kk), .val (.ref b105), .val (.ref b109), .unset] [(.int r0)])) _
      refine XS.iconst X113.here hx rfl (hb hby at_54) ?_
      show Steps p.tables e below (T113.setTop (mkF m 55 #[.val (.int p1), .val (.int p2), .val (.int p3), .val (.long p4), .second, .val (.long p5), .second, .val (.int cc), .val (.int kk), .val (.ref b105), .val (.ref b109), .unset] [(.int (1 : Int32)), (.int r0)])) _
      refine XS.goto X113.here hx rfl (pc0 := 55) (pc' := 59) rfl (hb hby at_55) (by decide) (by decide) ?_
      show Steps p.tables e below (T113.setTop (mkF m 59 #[.val (.int p1), .val (.int p2), .val (.int p3), .val (.long p4), .second, .val (.long p5), .second, .val (.int cc), .val (.int kk), .val (.ref b105), .val (.ref b109), .unset] [(.int (1 : Int32)), (.int r0)])) _
      refine XS.icmpNo X113.here hx rfl (hb hby at_59) rfl (XT.ii_ne_f er) ?_
      show Steps p.tables e below (T113.setTop (mkF m 62 #[.val (.int p1), .val (.int p2), .val (.int p3), .val (.long p4), .second, .val (.long p5), .second, .val (.int cc), .val (.int kk), .val (.ref b105), .val (.ref b109), .unset] [])) _
      refine XS.iconst X113.here hx rfl (hb hby at_62) ?_
      show Steps p.tables e below (T113.setTop (mkF m 63 #[.val (.int p1), .val (.int p2), .val (.int p3), .val (.long p4), .second, .val (.long p5), .second, .val (.int cc), .val (.int kk), .val (.ref b105), .val (.ref b109), .unset] [(.int (1 : Int32))])) _
      refine XS.goto X113.here hx rfl (pc0 := 63) (pc' := 67) rfl (hb hby at_63) (by decide) (by decide) ?_
      exact k
    · intro t k
      refine C114 t ?_
      show Steps p.tables e below (T113.setTop (mkF m 51 #[.val (.int p1), .val (.int p2), .val (.int p3), .val (.long p4), .second, .val (.long p5), .second, .val (.int cc), .val (.int kk), .val (.ref b105), .val (.ref b109), .unset] [(.int cc), (.int r0)])) _
      refine XS.ifYes X113.here hx rfl (pc0 := 51) (pc' := 58) rfl (hb hby at_51) rfl (XT.i0_ne_t (fun q => hc q.symm)) (by decide) (by decide) ?_
      show Steps p.tables e below (T113.setTop (mkF m 58 #[.val (.int p1), .val (.int p2), .val (.int p3), .val (.long p4), .second, .val (.long p5), .second, .val (.int cc), .val (.int kk), .val (.ref b105), .val (.ref b109), .unset] [(.int r0)])) _
      refine XS.iconst X113.here hx rfl (hb hby at_58) ?_
      show Steps p.tables e below (T113.setTop (mkF m 59 #[.val (.int p1), .val (.int p2), .val (.int p3), .val (.long p4), .second, .val (.long p5), .second, .val (.int cc), .val (.int kk), .val (.ref b105), .val (.ref b109), .unset] [(.int (0 : Int32)), (.int r0)])) _
      refine XS.icmpNo X113.here hx rfl (hb hby at_59) rfl (XT.ii_ne_f er) ?_
      show Steps p.tables e below (T113.setTop (mkF m 62 #[.val (.int p1), .val (.int p2), .val (.int p3), .val (.long p4), .second, .val (.long p5), .second, .val (.int cc), .val (.int kk), .val (.ref b105), .val (.ref b109), .unset] [])) _
      refine XS.iconst X113.here hx rfl (hb hby at_62) ?_
      show Steps p.tables e below (T113.setTop (mkF m 63 #[.val (.int p1), .val (.int p2), .val (.int p3), .val (.long p4), .second, .val (.long p5), .second, .val (.int cc), .val (.int kk), .val (.ref b105), .val (.ref b109), .unset] [(.int (1 : Int32))])) _
      refine XS.goto X113.here hx rfl (pc0 := 63) (pc' := 67) rfl (hb hby at_63) (by decide) (by decide) ?_
      exact k
  have C115 : ∀ t, Steps p.tables e below (T113.setTop (mkF m 211 #[.val (.int p1), .val (.int p2), .val (.int p3), .val (.long p4), .second, .val (.long p5), .second, .val (.int cc), .val (.int kk), .val (.ref b105), .val (.ref b109), .val (.int (1 : Int32))] [(.ref b105)])) t → Steps p.tables e below (s₁.setTop (entryFrame m #[(.int p1), (.int p2), (.int p3), (.long p4), (.long p5)] maxLocals)) t := by
    intro t k
    refine CC0 t ?_
    show Steps p.tables e below (T113.setTop (mkF m 67 #[.val (.int p1), .val (.int p2), .val (.int p3), .val (.long p4), .second, .val (.long p5), .second, .val (.int cc), .val (.int kk), .val (.ref b105), .val (.ref b109), .unset] [(.int (1 : Int32))])) _
    refine XS.istore X113.here hx rfl (hb hby at_67) rfl (l' := #[.val (.int p1), .val (.int p2), .val (.int p3), .val (.long p4), .second, .val (.long p5), .second, .val (.int cc), .val (.int kk), .val (.ref b105), .val (.ref b109), .val (.int (1 : Int32))]) rfl ?_
    show Steps p.tables e below (T113.setTop (mkF m 69 #[.val (.int p1), .val (.int p2), .val (.int p3), .val (.long p4), .second, .val (.long p5), .second, .val (.int cc), .val (.int kk), .val (.ref b105), .val (.ref b109), .val (.int (1 : Int32))] [])) _
    refine XS.iload X113.here hx rfl (hb hby at_69) rfl ?_
    show Steps p.tables e below (T113.setTop (mkF m 71 #[.val (.int p1), .val (.int p2), .val (.int p3), .val (.long p4), .second, .val (.long p5), .second, .val (.int cc), .val (.int kk), .val (.ref b105), .val (.ref b109), .val (.int (1 : Int32))] [(.int kk)])) _
    refine XS.iconst X113.here hx rfl (hb hby at_71) ?_
    show Steps p.tables e below (T113.setTop (mkF m 72 #[.val (.int p1), .val (.int p2), .val (.int p3), .val (.long p4), .second, .val (.long p5), .second, .val (.int cc), .val (.int kk), .val (.ref b105), .val (.ref b109), .val (.int (1 : Int32))] [(.int (1 : Int32)), (.int kk)])) _
    refine XS.icmpYes X113.here hx rfl (pc0 := 72) (pc' := 113) rfl (hb hby at_72) rfl (XT.ii_lt_t (by rw [hkk]; decide)) (by decide) (by decide) ?_
    show Steps p.tables e below (T113.setTop (mkF m 113 #[.val (.int p1), .val (.int p2), .val (.int p3), .val (.long p4), .second, .val (.long p5), .second, .val (.int cc), .val (.int kk), .val (.ref b105), .val (.ref b109), .val (.int (1 : Int32))] [])) _
    refine XS.iload X113.here hx rfl (hb hby at_113) rfl ?_
    show Steps p.tables e below (T113.setTop (mkF m 115 #[.val (.int p1), .val (.int p2), .val (.int p3), .val (.long p4), .second, .val (.long p5), .second, .val (.int cc), .val (.int kk), .val (.ref b105), .val (.ref b109), .val (.int (1 : Int32))] [(.int kk)])) _
    refine XS.iconst X113.here hx rfl (hb hby at_115) ?_
    show Steps p.tables e below (T113.setTop (mkF m 116 #[.val (.int p1), .val (.int p2), .val (.int p3), .val (.long p4), .second, .val (.long p5), .second, .val (.int cc), .val (.int kk), .val (.ref b105), .val (.ref b109), .val (.int (1 : Int32))] [(.int (2 : Int32)), (.int kk)])) _
    refine XS.icmpYes X113.here hx rfl (pc0 := 116) (pc' := 157) rfl (hb hby at_116) rfl (XT.ii_lt_t (by rw [hkk]; decide)) (by decide) (by decide) ?_
    show Steps p.tables e below (T113.setTop (mkF m 157 #[.val (.int p1), .val (.int p2), .val (.int p3), .val (.long p4), .second, .val (.long p5), .second, .val (.int cc), .val (.int kk), .val (.ref b105), .val (.ref b109), .val (.int (1 : Int32))] [])) _
    refine XS.iload X113.here hx rfl (hb hby at_157) rfl ?_
    show Steps p.tables e below (T113.setTop (mkF m 159 #[.val (.int p1), .val (.int p2), .val (.int p3), .val (.long p4), .second, .val (.long p5), .second, .val (.int cc), .val (.int kk), .val (.ref b105), .val (.ref b109), .val (.int (1 : Int32))] [(.int kk)])) _
    refine XS.iconst X113.here hx rfl (hb hby at_159) ?_
    show Steps p.tables e below (T113.setTop (mkF m 160 #[.val (.int p1), .val (.int p2), .val (.int p3), .val (.long p4), .second, .val (.long p5), .second, .val (.int cc), .val (.int kk), .val (.ref b105), .val (.ref b109), .val (.int (1 : Int32))] [(.int (3 : Int32)), (.int kk)])) _
    refine XS.icmpYes X113.here hx rfl (pc0 := 160) (pc' := 201) rfl (hb hby at_160) rfl (XT.ii_lt_t (by rw [hkk]; decide)) (by decide) (by decide) ?_
    show Steps p.tables e below (T113.setTop (mkF m 201 #[.val (.int p1), .val (.int p2), .val (.int p3), .val (.long p4), .second, .val (.long p5), .second, .val (.int cc), .val (.int kk), .val (.ref b105), .val (.ref b109), .val (.int (1 : Int32))] [])) _
    refine XS.iloadN X113.here hx rfl (hb hby at_201) rfl ?_
    show Steps p.tables e below (T113.setTop (mkF m 202 #[.val (.int p1), .val (.int p2), .val (.int p3), .val (.long p4), .second, .val (.long p5), .second, .val (.int cc), .val (.int kk), .val (.ref b105), .val (.ref b109), .val (.int (1 : Int32))] [(.int p3)])) _
    refine XS.sipush X113.here hx rfl (hb hby at_202) ?_
    show Steps p.tables e below (T113.setTop (mkF m 205 #[.val (.int p1), .val (.int p2), .val (.int p3), .val (.long p4), .second, .val (.long p5), .second, .val (.int cc), .val (.int kk), .val (.ref b105), .val (.ref b109), .val (.int (1 : Int32))] [(.int (256 : Int32)), (.int p3)])) _
    refine XS.iand X113.here hx rfl (hb hby at_205) rfl ?_
    show Steps p.tables e below (T113.setTop (mkF m 206 #[.val (.int p1), .val (.int p2), .val (.int p3), .val (.long p4), .second, .val (.long p5), .second, .val (.int cc), .val (.int kk), .val (.ref b105), .val (.ref b109), .val (.int (1 : Int32))] [(.int (p3 &&& (256 : Int32)))])) _
    refine XS.ifNo X113.here hx rfl (hb hby at_206) rfl (XT.i0_eq_f hf) ?_
    show Steps p.tables e below (T113.setTop (mkF m 209 #[.val (.int p1), .val (.int p2), .val (.int p3), .val (.long p4), .second, .val (.long p5), .second, .val (.int cc), .val (.int kk), .val (.ref b105), .val (.ref b109), .val (.int (1 : Int32))] [])) _
    refine XS.aload X113.here hx rfl (hb hby at_209) rfl rfl ?_
    exact k
  obtain ⟨cq116, kq116, q116a, q116b, q116c⟩ := isOf hZ q113 PA.1
  obtain ⟨_, _, ⟨T116, L116, k116, n116⟩, -, X116, ⟨Lc116, hQ116, l116, y116, z116⟩, st116⟩ := X113.virtualBack hx (y := (⟨"com/example/bucket/bucket/ingest/PointRun", "clear", "()V"⟩ : MethodName)) (z := (⟨"com/example/bucket/bucket/ingest/PointRun", "clear", "()V"⟩ : MethodName)) hown (mvT hZ (hw _ (List.mem_of_getElem? (i := 62) rfl))) (mvT hZ (hw _ (List.mem_of_getElem? (i := 63) rfl))) (notFace_of_selects (args := #[]) (mvT hZ (hw _ (List.mem_of_getElem? (i := 65) rfl)))) (mvT hZ (hw _ (List.mem_of_getElem? (i := 65) rfl))) (mvT hZ (hw _ (List.mem_of_getElem? (i := 64) rfl))) (by decide) (backOf (W := 0) (rm9 l Z a0 hw [] b105 sa ta va ea cc 0 T111.heap n0 Z4 PA hcc.1 (by decide) (own_nlt hkb) g1 gs) hZ (hw _ (List.mem_of_getElem? (i := 66) rfl)) (hw _ (List.mem_of_getElem? (i := 3) rfl)) (by decide) (by decide)) q116a q116c (g := (mkF m 211 #[.val (.int p1), .val (.int p2), .val (.int p3), .val (.long p4), .second, .val (.long p5), .second, .val (.int cc), .val (.int kk), .val (.ref b105), .val (.ref b109), .val (.int (1 : Int32))] [(.ref b105)])) rfl (by rw [hml]; rfl) (Steps.refl _) (argsL := []) (rest := []) (lenOf pd8 rfl) rfl (by show 2 * 0 + _ ≤ _; exact Nat.le_of_eq rfl) (hb hby at_211) (fun _ _ => ⟨rfl, q113, (by decide : 6 + 0 ≤ _), (by decide : 21 + 0 ≤ _)⟩)
  dsimp only [Pt.U, Pt.locs, Pt.cells, Pt.slots] at X116 l116 y116 z116 st116 hQ116
  subst l116 y116 z116
  obtain ⟨rfl, N116q, P116, s116⟩ := hQ116
  have N116 := Fr.app N113 N116q
  have C116 : ∀ t, Steps p.tables e below (T116.setTop (mkF m 214 #[.val (.int p1), .val (.int p2), .val (.int p3), .val (.long p4), .second, .val (.long p5), .second, .val (.int cc), .val (.int kk), .val (.ref b105), .val (.ref b109), .val (.int (1 : Int32))] [])) t → Steps p.tables e below (s₁.setTop (entryFrame m #[(.int p1), (.int p2), (.int p3), (.long p4), (.long p5)] maxLocals)) t := fun t k => C115 t (st116.trans k)
  have ZZ116 : n0 ≤ T116.heap.size := Nat.le_trans Z4 s116
  obtain ⟨r9, hr9⟩ : ∃ r : Int32, ((0 : Int32) = cc ∧ r = 1) ∨ (¬ (0 : Int32) = cc ∧ r = 0) := by
    by_cases q : (0 : Int32) = cc
    · exact ⟨1, Or.inl ⟨q, rfl⟩⟩
    · exact ⟨0, Or.inr ⟨q, rfl⟩⟩
  have C117 : ∀ t, Steps p.tables e below (T116.setTop (mkF m 218 #[.val (.int p1), .val (.int p2), .val (.int p3), .val (.long p4), .second, .val (.long p5), .second, .val (.int cc), .val (.int kk), .val (.ref b105), .val (.ref b109), .val (.int (1 : Int32))] [(.ref b105), (.int (1 : Int32))])) t → Steps p.tables e below (s₁.setTop (entryFrame m #[(.int p1), (.int p2), (.int p3), (.long p4), (.long p5)] maxLocals)) t := by
    intro t k
    refine C116 t ?_
    show Steps p.tables e below (T116.setTop (mkF m 214 #[.val (.int p1), .val (.int p2), .val (.int p3), .val (.long p4), .second, .val (.long p5), .second, .val (.int cc), .val (.int kk), .val (.ref b105), .val (.ref b109), .val (.int (1 : Int32))] [])) _
    refine XS.iload X116.here hx rfl (hb hby at_214) rfl ?_
    show Steps p.tables e below (T116.setTop (mkF m 216 #[.val (.int p1), .val (.int p2), .val (.int p3), .val (.long p4), .second, .val (.long p5), .second, .val (.int cc), .val (.int kk), .val (.ref b105), .val (.ref b109), .val (.int (1 : Int32))] [(.int (1 : Int32))])) _
    refine XS.aload X116.here hx rfl (hb hby at_216) rfl rfl ?_
    exact k
  obtain ⟨cq118, kq118, q118a, q118b, q118c⟩ := isOf hZ rfl P116.1
  obtain ⟨_, _, ⟨T118, L118, k118, n118⟩, -, X118, ⟨Lc118, hQ118, l118, y118, z118⟩, st118⟩ := X116.virtualBack hx (y := (⟨"com/example/bucket/bucket/ingest/PointRun", "isFull", "()Z"⟩ : MethodName)) (z := (⟨"com/example/bucket/bucket/ingest/PointRun", "isFull", "()Z"⟩ : MethodName)) hown (mvT hZ (hw _ (List.mem_of_getElem? (i := 35) rfl))) (mvT hZ (hw _ (List.mem_of_getElem? (i := 36) rfl))) (notFace_of_selects (args := #[]) (mvT hZ (hw _ (List.mem_of_getElem? (i := 38) rfl)))) (mvT hZ (hw _ (List.mem_of_getElem? (i := 38) rfl))) (mvT hZ (hw _ (List.mem_of_getElem? (i := 37) rfl))) (by decide) (backOf (W := 1) (rm4 l Z a0 hw [] b105 sa ta va ea cc (0 : Int32) r9 T116.heap n0 ZZ116 P116 hcc.1 hr9) hZ (hw _ (List.mem_of_getElem? (i := 39) rfl)) (hw _ (List.mem_of_getElem? (i := 3) rfl)) (by decide) (by decide)) q118a q118c (g := (mkF m 218 #[.val (.int p1), .val (.int p2), .val (.int p3), .val (.long p4), .second, .val (.long p5), .second, .val (.int cc), .val (.int kk), .val (.ref b105), .val (.ref b109), .val (.int (1 : Int32))] [(.ref b105), (.int (1 : Int32))])) rfl (by rw [hml]; rfl) (Steps.refl _) (argsL := []) (rest := [(.int (1 : Int32))]) (lenOf pd7 rfl) rfl (by show 2 * 0 + _ ≤ _; exact Nat.le_of_eq rfl) (hb hby at_218) (fun _ _ => ⟨rfl, rfl, (by decide : 6 + 0 ≤ _), (by decide : 21 + 0 ≤ _)⟩)
  dsimp only [Pt.U, Pt.locs, Pt.cells, Pt.slots] at X118 l118 y118 z118 st118 hQ118
  subst l118 y118 z118
  obtain ⟨rfl, N118q, q118⟩ := hQ118
  have N118 := Fr.app N116 N118q
  have C118 : ∀ t, Steps p.tables e below (T118.setTop (mkF m 221 #[.val (.int p1), .val (.int p2), .val (.int p3), .val (.long p4), .second, .val (.long p5), .second, .val (.int cc), .val (.int kk), .val (.ref b105), .val (.ref b109), .val (.int (1 : Int32))] [(.int r9), (.int (1 : Int32))])) t → Steps p.tables e below (s₁.setTop (entryFrame m #[(.int p1), (.int p2), (.int p3), (.long p4), (.long p5)] maxLocals)) t := fun t k => C117 t (st118.trans k)
  have C119 : ∀ t, Steps p.tables e below (T118.setTop (mkF m 223 #[.val (.int p1), .val (.int p2), .val (.int p3), .val (.long p4), .second, .val (.long p5), .second, .val (.int cc), .val (.int kk), .val (.ref b105), .val (.ref b109), .val (.int (1 : Int32))] [(.int cc), (.int r9), (.int (1 : Int32))])) t → Steps p.tables e below (s₁.setTop (entryFrame m #[(.int p1), (.int p2), (.int p3), (.long p4), (.long p5)] maxLocals)) t := by
    intro t k
    refine C118 t ?_
    show Steps p.tables e below (T118.setTop (mkF m 221 #[.val (.int p1), .val (.int p2), .val (.int p3), .val (.long p4), .second, .val (.long p5), .second, .val (.int cc), .val (.int kk), .val (.ref b105), .val (.ref b109), .val (.int (1 : Int32))] [(.int r9), (.int (1 : Int32))])) _
    refine XS.iload X118.here hx rfl (hb hby at_221) rfl ?_
    exact k
  have CC9 : ∀ t, Steps p.tables e below (T118.setTop (mkF m 239 #[.val (.int p1), .val (.int p2), .val (.int p3), .val (.long p4), .second, .val (.long p5), .second, .val (.int cc), .val (.int kk), .val (.ref b105), .val (.ref b109), .val (.int (1 : Int32))] [(.int (1 : Int32)), (.int (1 : Int32))])) t → Steps p.tables e below (s₁.setTop (entryFrame m #[(.int p1), (.int p2), (.int p3), (.long p4), (.long p5)] maxLocals)) t := by
    rcases hr9 with ⟨hc, er⟩ | ⟨hc, er⟩
    · intro t k
      refine C119 t ?_
      show Steps p.tables e below (T118.setTop (mkF m 223 #[.val (.int p1), .val (.int p2), .val (.int p3), .val (.long p4), .second, .val (.long p5), .second, .val (.int cc), .val (.int kk), .val (.ref b105), .val (.ref b109), .val (.int (1 : Int32))] [(.int cc), (.int r9), (.int (1 : Int32))])) _
      refine XS.ifNo X118.here hx rfl (hb hby at_223) rfl (XT.i0_ne_f (by rw [← hc])) ?_
      show Steps p.tables e below (T118.setTop (mkF m 226 #[.val (.int p1), .val (.int p2), .val (.int p3), .val (.long p4), .second, .val (.long p5), .second, .val (.int cc), .val (.int kk), .val (.ref b105), .val (.ref b109), .val (.int (1 : Int32))] [(.int r9), (.int (1 : Int32))])) _
      refine XS.iconst X118.here hx rfl (hb hby at_226) ?_
      show Steps p.tables e below (T118.setTop (mkF m 227 #[.val (.int p1), .val (.int p2), .val (.int p3), .val (.long p4), .second, .val (.long p5), .second, .val (.int cc), .val (.int kk), .val (.ref b105), .val (.ref b109), .val (.int (1 : Int32))] [(.int (1 : Int32)), (.int r9), (.int (1 : Int32))])) _
      refine XS.goto X118.here hx rfl (pc0 := 227) (pc' := 231) rfl (hb hby at_227) (by decide) (by decide) ?_
      show Steps p.tables e below (T118.setTop (mkF m 231 #[.val (.int p1), .val (.int p2), .val (.int p3), .val (.long p4), .second, .val (.long p5), .second, .val (.int cc), .val (.int kk), .val (.ref b105), .val (.ref b109), .val (.int (1 : Int32))] [(.int (1 : Int32)), (.int r9), (.int (1 : Int32))])) _
      refine XS.icmpNo X118.here hx rfl (hb hby at_231) rfl (XT.ii_ne_f er) ?_
      show Steps p.tables e below (T118.setTop (mkF m 234 #[.val (.int p1), .val (.int p2), .val (.int p3), .val (.long p4), .second, .val (.long p5), .second, .val (.int cc), .val (.int kk), .val (.ref b105), .val (.ref b109), .val (.int (1 : Int32))] [(.int (1 : Int32))])) _
      refine XS.iconst X118.here hx rfl (hb hby at_234) ?_
      show Steps p.tables e below (T118.setTop (mkF m 235 #[.val (.int p1), .val (.int p2), .val (.int p3), .val (.long p4), .second, .val (.long p5), .second, .val (.int cc), .val (.int kk), .val (.ref b105), .val (.ref b109), .val (.int (1 : Int32))] [(.int (1 : Int32)), (.int (1 : Int32))])) _
      refine XS.goto X118.here hx rfl (pc0 := 235) (pc' := 239) rfl (hb hby at_235) (by decide) (by decide) ?_
      exact k
    · intro t k
      refine C119 t ?_
      show Steps p.tables e below (T118.setTop (mkF m 223 #[.val (.int p1), .val (.int p2), .val (.int p3), .val (.long p4), .second, .val (.long p5), .second, .val (.int cc), .val (.int kk), .val (.ref b105), .val (.ref b109), .val (.int (1 : Int32))] [(.int cc), (.int r9), (.int (1 : Int32))])) _
      refine XS.ifYes X118.here hx rfl (pc0 := 223) (pc' := 230) rfl (hb hby at_223) rfl (XT.i0_ne_t (fun q => hc q.symm)) (by decide) (by decide) ?_
      show Steps p.tables e below (T118.setTop (mkF m 230 #[.val (.int p1), .val (.int p2), .val (.int p3), .val (.long p4), .second, .val (.long p5), .second, .val (.int cc), .val (.int kk), .val (.ref b105), .val (.ref b109), .val (.int (1 : Int32))] [(.int r9), (.int (1 : Int32))])) _
      refine XS.iconst X118.here hx rfl (hb hby at_230) ?_
      show Steps p.tables e below (T118.setTop (mkF m 231 #[.val (.int p1), .val (.int p2), .val (.int p3), .val (.long p4), .second, .val (.long p5), .second, .val (.int cc), .val (.int kk), .val (.ref b105), .val (.ref b109), .val (.int (1 : Int32))] [(.int (0 : Int32)), (.int r9), (.int (1 : Int32))])) _
      refine XS.icmpNo X118.here hx rfl (hb hby at_231) rfl (XT.ii_ne_f er) ?_
      show Steps p.tables e below (T118.setTop (mkF m 234 #[.val (.int p1), .val (.int p2), .val (.int p3), .val (.long p4), .second, .val (.long p5), .second, .val (.int cc), .val (.int kk), .val (.ref b105), .val (.ref b109), .val (.int (1 : Int32))] [(.int (1 : Int32))])) _
      refine XS.iconst X118.here hx rfl (hb hby at_234) ?_
      show Steps p.tables e below (T118.setTop (mkF m 235 #[.val (.int p1), .val (.int p2), .val (.int p3), .val (.long p4), .second, .val (.long p5), .second, .val (.int cc), .val (.int kk), .val (.ref b105), .val (.ref b109), .val (.int (1 : Int32))] [(.int (1 : Int32)), (.int (1 : Int32))])) _
      refine XS.goto X118.here hx rfl (pc0 := 235) (pc' := 239) rfl (hb hby at_235) (by decide) (by decide) ?_
      exact k
  have C120 : ∀ t, Steps p.tables e below (T118.setTop (mkF m 244 #[.val (.int p1), .val (.int p2), .val (.int p3), .val (.long p4), .second, .val (.long p5), .second, .val (.int cc), .val (.int kk), .val (.ref b105), .val (.ref b109), .val (.int (1 : Int32))] [(.int (1 : Int32))])) t → Steps p.tables e below (s₁.setTop (entryFrame m #[(.int p1), (.int p2), (.int p3), (.long p4), (.long p5)] maxLocals)) t := by
    intro t k
    refine CC9 t ?_
    show Steps p.tables e below (T118.setTop (mkF m 239 #[.val (.int p1), .val (.int p2), .val (.int p3), .val (.long p4), .second, .val (.long p5), .second, .val (.int cc), .val (.int kk), .val (.ref b105), .val (.ref b109), .val (.int (1 : Int32))] [(.int (1 : Int32)), (.int (1 : Int32))])) _
    refine XS.iand X118.here hx rfl (hb hby at_239) rfl ?_
    show Steps p.tables e below (T118.setTop (mkF m 240 #[.val (.int p1), .val (.int p2), .val (.int p3), .val (.long p4), .second, .val (.long p5), .second, .val (.int cc), .val (.int kk), .val (.ref b105), .val (.ref b109), .val (.int (1 : Int32))] [(.int (1 : Int32))])) _
    refine XS.istore X118.here hx rfl (hb hby at_240) rfl (l' := #[.val (.int p1), .val (.int p2), .val (.int p3), .val (.long p4), .second, .val (.long p5), .second, .val (.int cc), .val (.int kk), .val (.ref b105), .val (.ref b109), .val (.int (1 : Int32))]) rfl ?_
    show Steps p.tables e below (T118.setTop (mkF m 242 #[.val (.int p1), .val (.int p2), .val (.int p3), .val (.long p4), .second, .val (.long p5), .second, .val (.int cc), .val (.int kk), .val (.ref b105), .val (.ref b109), .val (.int (1 : Int32))] [])) _
    refine XS.iload X118.here hx rfl (hb hby at_242) rfl ?_
    exact k
  obtain ⟨fs, hr, hrun, hended, hW, hsame⟩ := X118.leave (v := some (.int (1 : Int32))) (fun h => by rw [Bd.returns] at h; cases h)
  refine ⟨_, _, C120 _ ?_, hrun, hended, _, _, rfl, ?_, ⟨_, rfl⟩, hW, hsame.mono (by decide) (by decide)⟩
  · show Steps p.tables e below (T118.setTop (mkF m 244 #[.val (.int p1), .val (.int p2), .val (.int p3), .val (.long p4), .second, .val (.long p5), .second, .val (.int cc), .val (.int kk), .val (.ref b105), .val (.ref b109), .val (.int (1 : Int32))] [(.int (1 : Int32))])) _
    exact retN X118 hx (t := .boolean) Bd.returns (by simp) (hb hby at_244) hr
  · show Q0 Z p1 p2 p3 p4 p5 h0 n0 _ T118.heap _
    rw [q118]
    exact ⟨rfl, N118⟩
theorem pd9 : parseMethodDescriptor "(Lcom/example/bucket/bucket/lineformat/Point;J)V" = some ⟨[(.object "com/example/bucket/bucket/lineformat/Point"), .long], none⟩ := by decide +kernel
set_option maxRecDepth 65536 in
set_option maxHeartbeats 40000000 in
theorem rm0_10 (l : Launch) (Z : State) (a0 : Array Value) (hw : ∀ d ∈ tables_1, d.before a0 Z = true) (ws : List Jvm.Cond) (p1 p2 p3 : Int32) (p4 p5 : Int64) (h0 : Heap) (n0 : Nat) (Z0 : n0 ≤ h0.size) (hk : ((p2 &&& (2147483647 : Int32)) - ((p2 &&& (2147483647 : Int32)) / ((p1 &&& (3 : Int32)) + (1 : Int32))) * ((p1 &&& (3 : Int32)) + (1 : Int32))) = (1 : Int32)) (hf : (p3 &&& (256 : Int32)) = 0) :
    MetFree l x (head1 (Jvm.Cond.code x code maxLocals ret :: ws) room_1) (fun a U => a = #[(.int p1), (.int p2), (.int p3), (.long p4), (.long p5)] ∧ Z.Warmed39 U.vm ∧ U.heap = h0) (fun _ _ _ _ _ => True) (fun _ U o U' => ∃ v L, o = .returned v ∧ Q0 Z p1 p2 p3 p4 p5 h0 n0 v U'.heap L ∧ FrameEnd U o U' L room_1.cells room_1.slots) := by
  refine MetFree.of_bodySF (plainFor_of_name pn3) hisR ?_
  intro p e s m args below meth c s₁ Bd hml0 hP hK
  obtain ⟨rfl, hZ, hh⟩ := hP
  have hx := Bd.exec
  have hby := Bd.bytes
  have hml : c.maxLocals = 12 := hml0
  have hown : s.vm.findClass "com/example/bucket/bucket/ingest/PointRunIsFullPinLaw" = some m.cls := findClass_of_methodNamed Bd.named
  have hnm := (name_of_methodNamed Bd.named Bd.method).1
  have X0 : Stand p l e room_1 s m #[(.int p1), (.int p2), (.int p3), (.long p4), (.long p5)] below meth c s₁ [] 0 0 := Stand.of_body Bd
  have e0 : s₁.heap = h0 := by rw [← hh, Bd.state]; rfl
  have N0 := Fr.nil n0
  have pre0 : ∀ t, Steps p.tables e below (s₁.setTop (mkF m 0 #[.val (.int p1), .val (.int p2), .val (.int p3), .val (.long p4), .second, .val (.long p5), .second, .unset, .unset, .unset, .unset, .unset] [])) t → Steps p.tables e below (s₁.setTop (entryFrame m #[(.int p1), (.int p2), (.int p3), (.long p4), (.long p5)] maxLocals)) t := fun t k => castTop (ef0 m p1 p2 p3 p4 p5) k
  have C121 : ∀ t, Steps p.tables e below (s₁.setTop (mkF m 5 #[.val (.int p1), .val (.int p2), .val (.int p3), .val (.long p4), .second, .val (.long p5), .second, .val (.int (p1 &&& (3 : Int32))), .unset, .unset, .unset, .unset] [])) t → Steps p.tables e below (s₁.setTop (entryFrame m #[(.int p1), (.int p2), (.int p3), (.long p4), (.long p5)] maxLocals)) t := by
    intro t k
    refine pre0 t ?_
    show Steps p.tables e below (s₁.setTop (mkF m 0 #[.val (.int p1), .val (.int p2), .val (.int p3), .val (.long p4), .second, .val (.long p5), .second, .unset, .unset, .unset, .unset, .unset] [])) _
    refine XS.iloadN X0.here hx rfl (hb hby at_0) rfl ?_
    show Steps p.tables e below (s₁.setTop (mkF m 1 #[.val (.int p1), .val (.int p2), .val (.int p3), .val (.long p4), .second, .val (.long p5), .second, .unset, .unset, .unset, .unset, .unset] [(.int p1)])) _
    refine XS.iconst X0.here hx rfl (hb hby at_1) ?_
    show Steps p.tables e below (s₁.setTop (mkF m 2 #[.val (.int p1), .val (.int p2), .val (.int p3), .val (.long p4), .second, .val (.long p5), .second, .unset, .unset, .unset, .unset, .unset] [(.int (3 : Int32)), (.int p1)])) _
    refine XS.iand X0.here hx rfl (hb hby at_2) rfl ?_
    show Steps p.tables e below (s₁.setTop (mkF m 3 #[.val (.int p1), .val (.int p2), .val (.int p3), .val (.long p4), .second, .val (.long p5), .second, .unset, .unset, .unset, .unset, .unset] [(.int (p1 &&& (3 : Int32)))])) _
    refine XS.istore X0.here hx rfl (hb hby at_3) rfl (l' := #[.val (.int p1), .val (.int p2), .val (.int p3), .val (.long p4), .second, .val (.long p5), .second, .val (.int (p1 &&& (3 : Int32))), .unset, .unset, .unset, .unset]) rfl ?_
    exact k
  obtain ⟨cc, h_cc⟩ : ∃ z : Int32, z = (p1 &&& (3 : Int32)) := ⟨_, rfl⟩
  rw [← h_cc] at C121
  have hcc := own_cap p1
  rw [← h_cc] at hcc
  have C122 : ∀ t, Steps p.tables e below (s₁.setTop (mkF m 16 #[.val (.int p1), .val (.int p2), .val (.int p3), .val (.long p4), .second, .val (.long p5), .second, .val (.int cc), .val (.int ((p2 &&& (2147483647 : Int32)) - ((p2 &&& (2147483647 : Int32)) / (cc + (1 : Int32))) * (cc + (1 : Int32)))), .unset, .unset, .unset] [])) t → Steps p.tables e below (s₁.setTop (entryFrame m #[(.int p1), (.int p2), (.int p3), (.long p4), (.long p5)] maxLocals)) t := by
    intro t k
    refine C121 t ?_
    show Steps p.tables e below (s₁.setTop (mkF m 5 #[.val (.int p1), .val (.int p2), .val (.int p3), .val (.long p4), .second, .val (.long p5), .second, .val (.int cc), .unset, .unset, .unset, .unset] [])) _
    refine XS.iloadN X0.here hx rfl (hb hby at_5) rfl ?_
    show Steps p.tables e below (s₁.setTop (mkF m 6 #[.val (.int p1), .val (.int p2), .val (.int p3), .val (.long p4), .second, .val (.long p5), .second, .val (.int cc), .unset, .unset, .unset, .unset] [(.int p2)])) _
    refine X0.ldcInt hx hown (mvT hZ (hw _ (List.mem_of_getElem? (i := 0) rfl))) (g := (mkF m 6 #[.val (.int p1), .val (.int p2), .val (.int p3), .val (.long p4), .second, .val (.long p5), .second, .val (.int cc), .unset, .unset, .unset, .unset] [(.int p2)])) rfl (hb hby at_6) _ ?_
    show Steps p.tables e below (s₁.setTop (mkF m 8 #[.val (.int p1), .val (.int p2), .val (.int p3), .val (.long p4), .second, .val (.long p5), .second, .val (.int cc), .unset, .unset, .unset, .unset] [(.int (2147483647 : Int32)), (.int p2)])) _
    refine XS.iand X0.here hx rfl (hb hby at_8) rfl ?_
    show Steps p.tables e below (s₁.setTop (mkF m 9 #[.val (.int p1), .val (.int p2), .val (.int p3), .val (.long p4), .second, .val (.long p5), .second, .val (.int cc), .unset, .unset, .unset, .unset] [(.int (p2 &&& (2147483647 : Int32)))])) _
    refine XS.iload X0.here hx rfl (hb hby at_9) rfl ?_
    show Steps p.tables e below (s₁.setTop (mkF m 11 #[.val (.int p1), .val (.int p2), .val (.int p3), .val (.long p4), .second, .val (.long p5), .second, .val (.int cc), .unset, .unset, .unset, .unset] [(.int cc), (.int (p2 &&& (2147483647 : Int32)))])) _
    refine XS.iconst X0.here hx rfl (hb hby at_11) ?_
    show Steps p.tables e below (s₁.setTop (mkF m 12 #[.val (.int p1), .val (.int p2), .val (.int p3), .val (.long p4), .second, .val (.long p5), .second, .val (.int cc), .unset, .unset, .unset, .unset] [(.int (1 : Int32)), (.int cc), (.int (p2 &&& (2147483647 : Int32)))])) _
    refine XS.iadd X0.here hx rfl (hb hby at_12) rfl ?_
    show Steps p.tables e below (s₁.setTop (mkF m 13 #[.val (.int p1), .val (.int p2), .val (.int p3), .val (.long p4), .second, .val (.long p5), .second, .val (.int cc), .unset, .unset, .unset, .unset] [(.int (cc + (1 : Int32))), (.int (p2 &&& (2147483647 : Int32)))])) _
    refine XS.irem X0.here hx rfl (hb hby at_13) rfl (own_cap1 hcc) ?_
    show Steps p.tables e below (s₁.setTop (mkF m 14 #[.val (.int p1), .val (.int p2), .val (.int p3), .val (.long p4), .second, .val (.long p5), .second, .val (.int cc), .unset, .unset, .unset, .unset] [(.int ((p2 &&& (2147483647 : Int32)) - ((p2 &&& (2147483647 : Int32)) / (cc + (1 : Int32))) * (cc + (1 : Int32))))])) _
    refine XS.istore X0.here hx rfl (hb hby at_14) rfl (l' := #[.val (.int p1), .val (.int p2), .val (.int p3), .val (.long p4), .second, .val (.long p5), .second, .val (.int cc), .val (.int ((p2 &&& (2147483647 : Int32)) - ((p2 &&& (2147483647 : Int32)) / (cc + (1 : Int32))) * (cc + (1 : Int32)))), .unset, .unset, .unset]) rfl ?_
    exact k
  obtain ⟨kk, h_kk⟩ : ∃ z : Int32, z = ((p2 &&& (2147483647 : Int32)) - ((p2 &&& (2147483647 : Int32)) / (cc + (1 : Int32))) * (cc + (1 : Int32))) := ⟨_, rfl⟩
  rw [← h_kk] at C122
  have hkk : kk = (1 : Int32) := by rw [h_kk, h_cc]; exact hk
  have hkb : (1 : Int) ≤ cc.toInt := by have q := own_kle hcc p2; rw [← h_kk, hkk] at q; exact q
  obtain ⟨T123, h123, X123, e123, E123, A123, D123, -, st123⟩ := newO X0 hx hZ hown (hw _ (List.mem_of_getElem? (i := 1) rfl)) (hw _ (List.mem_of_getElem? (i := 2) rfl)) (hw _ (List.mem_of_getElem? (i := 3) rfl)) e0 (g := (mkF m 16 #[.val (.int p1), .val (.int p2), .val (.int p3), .val (.long p4), .second, .val (.long p5), .second, .val (.int cc), .val (.int kk), .unset, .unset, .unset] [])) rfl (hb hby at_16) (by decide) (by decide)
  obtain ⟨b123, g123⟩ : ∃ z, z = h0.size := ⟨_, rfl⟩
  rw [← g123] at A123 D123 st123
  have C123 : ∀ t, Steps p.tables e below (T123.setTop (mkF m 19 #[.val (.int p1), .val (.int p2), .val (.int p3), .val (.long p4), .second, .val (.long p5), .second, .val (.int cc), .val (.int kk), .unset, .unset, .unset] [(.ref b123)])) t → Steps p.tables e below (s₁.setTop (entryFrame m #[(.int p1), (.int p2), (.int p3), (.long p4), (.long p5)] maxLocals)) t := fun t k => C122 t (st123 t k)
  have F_series : Fld Z h123 b123 "com/example/bucket/bucket/ingest/PointRun" "series" "[Lcom/example/bucket/bucket/lineformat/Series;" .null := D123 (Or.inr (hw _ (List.mem_of_getElem? (i := 13) rfl))) (ty := (.array (.object "com/example/bucket/bucket/lineformat/Series"))) (by decide)
  have F_times : Fld Z h123 b123 "com/example/bucket/bucket/ingest/PointRun" "times" "[J" .null := D123 (Or.inr (hw _ (List.mem_of_getElem? (i := 16) rfl))) (ty := (.array .long)) (by decide)
  have F_values : Fld Z h123 b123 "com/example/bucket/bucket/ingest/PointRun" "values" "[D" .null := D123 (Or.inr (hw _ (List.mem_of_getElem? (i := 19) rfl))) (ty := (.array .double)) (by decide)
  have F_ends : Fld Z h123 b123 "com/example/bucket/bucket/ingest/PointRun" "ends" "[J" .null := D123 (Or.inr (hw _ (List.mem_of_getElem? (i := 21) rfl))) (ty := (.array .long)) (by decide)
  have F_size : Fld Z h123 b123 "com/example/bucket/bucket/ingest/PointRun" "size" "I" (.int 0) := D123 (Or.inl (hw _ (List.mem_of_getElem? (i := 41) rfl))) (ty := .int) (by decide)
  have F_merged : Fld Z h123 b123 "com/example/bucket/bucket/ingest/PointRun" "merged" "I" (.int 0) := D123 (Or.inl (hw _ (List.mem_of_getElem? (i := 75) rfl))) (ty := .int) (by decide)
  have Z1 : n0 ≤ h123.size := Nat.le_trans Z0 E123.1
  have g1 : n0 ≤ b123 := Nat.le_trans Z0 (Nat.le_of_eq g123.symm)
  have C124 : ∀ t, Steps p.tables e below (T123.setTop (mkF m 22 #[.val (.int p1), .val (.int p2), .val (.int p3), .val (.long p4), .second, .val (.long p5), .second, .val (.int cc), .val (.int kk), .unset, .unset, .unset] [(.int cc), (.ref b123), (.ref b123)])) t → Steps p.tables e below (s₁.setTop (entryFrame m #[(.int p1), (.int p2), (.int p3), (.long p4), (.long p5)] maxLocals)) t := by
    intro t k
    refine C123 t ?_
    show Steps p.tables e below (T123.setTop (mkF m 19 #[.val (.int p1), .val (.int p2), .val (.int p3), .val (.long p4), .second, .val (.long p5), .second, .val (.int cc), .val (.int kk), .unset, .unset, .unset] [(.ref b123)])) _
    refine XS.dup X123.here hx rfl (hb hby at_19) rfl rfl ?_
    show Steps p.tables e below (T123.setTop (mkF m 20 #[.val (.int p1), .val (.int p2), .val (.int p3), .val (.long p4), .second, .val (.long p5), .second, .val (.int cc), .val (.int kk), .unset, .unset, .unset] [(.ref b123), (.ref b123)])) _
    refine XS.iload X123.here hx rfl (hb hby at_20) rfl ?_
    exact k
  obtain ⟨_, _, ⟨T125, L125, k125, n125⟩, -, X125, ⟨Lc125, hQ125, l125, y125, z125⟩, st125⟩ := X123.specialBack hx (y := (⟨"com/example/bucket/bucket/ingest/PointRun", "<init>", "(I)V"⟩ : MethodName)) rfl hown (mvT hZ (hw _ (List.mem_of_getElem? (i := 4) rfl))) (mvT hZ (hw _ (List.mem_of_getElem? (i := 5) rfl))) (mvT hZ (hw _ (List.mem_of_getElem? (i := 6) rfl))) (by decide) (backOf (W := 1) (rm1 l Z a0 hw [] b123 cc h123 n0 Z1 F_series F_times F_values F_ends F_size F_merged A123 g1 hcc.1 hcc.2.2) hZ (hw _ (List.mem_of_getElem? (i := 6) rfl)) (hw _ (List.mem_of_getElem? (i := 3) rfl)) (by decide) (by decide)) (g := (mkF m 22 #[.val (.int p1), .val (.int p2), .val (.int p3), .val (.long p4), .second, .val (.long p5), .second, .val (.int cc), .val (.int kk), .unset, .unset, .unset] [(.int cc), (.ref b123), (.ref b123)])) rfl (by rw [hml]; rfl) (Steps.refl _) (a := b123) (argsL := [(.int cc)]) (rest := [(.ref b123)]) (lenOf pd5 rfl) rfl (by show 2 * 0 + _ ≤ _; exact Nat.le_of_eq rfl) (hb hby at_22) (fun _ _ => ⟨rfl, e123, (by decide : 1 + 4 ≤ _), (by decide : 6 + 12 ≤ _)⟩)
  dsimp only [Pt.U, Pt.locs, Pt.cells, Pt.slots] at X125 l125 y125 z125 st125 hQ125
  subst l125 y125 z125
  obtain ⟨rfl, N125q, sa, ta, va, ea, P125, K125, fs, ft, fv, fe⟩ := hQ125
  have N125 := Fr.app N0 N125q
  have C125 : ∀ t, Steps p.tables e below (T125.setTop (mkF m 25 #[.val (.int p1), .val (.int p2), .val (.int p3), .val (.long p4), .second, .val (.long p5), .second, .val (.int cc), .val (.int kk), .unset, .unset, .unset] [(.ref b123)])) t → Steps p.tables e below (s₁.setTop (entryFrame m #[(.int p1), (.int p2), (.int p3), (.long p4), (.long p5)] maxLocals)) t := fun t k => C124 t (st125.trans k)
  have Z2 : n0 ≤ T125.heap.size := Nat.le_trans Z1 K125.1
  have gs := Nat.le_trans Z1 fs
  have gt := Nat.le_trans Z1 ft
  have gv := Nat.le_trans Z1 fv
  have ge := Nat.le_trans Z1 fe
  have C126 : ∀ t, Steps p.tables e below (T125.setTop (mkF m 27 #[.val (.int p1), .val (.int p2), .val (.int p3), .val (.long p4), .second, .val (.long p5), .second, .val (.int cc), .val (.int kk), .val (.ref b123), .unset, .unset] [])) t → Steps p.tables e below (s₁.setTop (entryFrame m #[(.int p1), (.int p2), (.int p3), (.long p4), (.long p5)] maxLocals)) t := by
    intro t k
    refine C125 t ?_
    show Steps p.tables e below (T125.setTop (mkF m 25 #[.val (.int p1), .val (.int p2), .val (.int p3), .val (.long p4), .second, .val (.long p5), .second, .val (.int cc), .val (.int kk), .unset, .unset, .unset] [(.ref b123)])) _
    refine XS.astore X125.here hx rfl (hb hby at_25) rfl rfl (l' := #[.val (.int p1), .val (.int p2), .val (.int p3), .val (.long p4), .second, .val (.long p5), .second, .val (.int cc), .val (.int kk), .val (.ref b123), .unset, .unset]) rfl ?_
    exact k
  obtain ⟨T127, h127, X127, e127, E127, A127, D127, -, st127⟩ := newO X125 hx hZ hown (hw _ (List.mem_of_getElem? (i := 22) rfl)) (hw _ (List.mem_of_getElem? (i := 23) rfl)) (hw _ (List.mem_of_getElem? (i := 24) rfl)) rfl (g := (mkF m 27 #[.val (.int p1), .val (.int p2), .val (.int p3), .val (.long p4), .second, .val (.long p5), .second, .val (.int cc), .val (.int kk), .val (.ref b123), .unset, .unset] [])) rfl (hb hby at_27) (by decide) (by decide)
  obtain ⟨b127, g127⟩ : ∃ z, z = T125.heap.size := ⟨_, rfl⟩
  rw [← g127] at A127 D127 st127
  have C127 : ∀ t, Steps p.tables e below (T127.setTop (mkF m 30 #[.val (.int p1), .val (.int p2), .val (.int p3), .val (.long p4), .second, .val (.long p5), .second, .val (.int cc), .val (.int kk), .val (.ref b123), .unset, .unset] [(.ref b127)])) t → Steps p.tables e below (s₁.setTop (entryFrame m #[(.int p1), (.int p2), (.int p3), (.long p4), (.long p5)] maxLocals)) t := fun t k => C126 t (st127 t k)
  have G_series : Fld Z h127 b127 "com/example/bucket/bucket/lineformat/Point" "series" "Lcom/example/bucket/bucket/lineformat/Series;" .null := D127 (Or.inr (hw _ (List.mem_of_getElem? (i := 30) rfl))) (ty := (.object "com/example/bucket/bucket/lineformat/Series")) (by decide)
  have G_time : Fld Z h127 b127 "com/example/bucket/bucket/lineformat/Point" "time" "J" (.long 0) := D127 (Or.inr (hw _ (List.mem_of_getElem? (i := 32) rfl))) (ty := .long) (by decide)
  have G_value : Fld Z h127 b127 "com/example/bucket/bucket/lineformat/Point" "value" "D" (.double 0) := D127 (Or.inr (hw _ (List.mem_of_getElem? (i := 34) rfl))) (ty := .double) (by decide)
  have Z3 : n0 ≤ h127.size := Nat.le_trans Z2 E127.1
  have g2 : n0 ≤ b127 := Nat.le_trans Z2 (Nat.le_of_eq g127.symm)
  have C128 : ∀ t, Steps p.tables e below (T127.setTop (mkF m 39 #[.val (.int p1), .val (.int p2), .val (.int p3), .val (.long p4), .second, .val (.long p5), .second, .val (.int cc), .val (.int kk), .val (.ref b123), .unset, .unset] [(.double (FP.i2d (p3 &&& (255 : Int32)))), (.long p4), .null, (.ref b127), (.ref b127)])) t → Steps p.tables e below (s₁.setTop (entryFrame m #[(.int p1), (.int p2), (.int p3), (.long p4), (.long p5)] maxLocals)) t := by
    intro t k
    refine C127 t ?_
    show Steps p.tables e below (T127.setTop (mkF m 30 #[.val (.int p1), .val (.int p2), .val (.int p3), .val (.long p4), .second, .val (.long p5), .second, .val (.int cc), .val (.int kk), .val (.ref b123), .unset, .unset] [(.ref b127)])) _
    refine XS.dup X127.here hx rfl (hb hby at_30) rfl rfl ?_
    show Steps p.tables e below (T127.setTop (mkF m 31 #[.val (.int p1), .val (.int p2), .val (.int p3), .val (.long p4), .second, .val (.long p5), .second, .val (.int cc), .val (.int kk), .val (.ref b123), .unset, .unset] [(.ref b127), (.ref b127)])) _
    refine XS.aconstNull X127.here hx rfl (hb hby at_31) ?_
    show Steps p.tables e below (T127.setTop (mkF m 32 #[.val (.int p1), .val (.int p2), .val (.int p3), .val (.long p4), .second, .val (.long p5), .second, .val (.int cc), .val (.int kk), .val (.ref b123), .unset, .unset] [.null, (.ref b127), (.ref b127)])) _
    refine XS.lloadN X127.here hx rfl (hb hby at_32) rfl ?_
    show Steps p.tables e below (T127.setTop (mkF m 33 #[.val (.int p1), .val (.int p2), .val (.int p3), .val (.long p4), .second, .val (.long p5), .second, .val (.int cc), .val (.int kk), .val (.ref b123), .unset, .unset] [(.long p4), .null, (.ref b127), (.ref b127)])) _
    refine XS.iloadN X127.here hx rfl (hb hby at_33) rfl ?_
    show Steps p.tables e below (T127.setTop (mkF m 34 #[.val (.int p1), .val (.int p2), .val (.int p3), .val (.long p4), .second, .val (.long p5), .second, .val (.int cc), .val (.int kk), .val (.ref b123), .unset, .unset] [(.int p3), (.long p4), .null, (.ref b127), (.ref b127)])) _
    refine XS.sipush X127.here hx rfl (hb hby at_34) ?_
    show Steps p.tables e below (T127.setTop (mkF m 37 #[.val (.int p1), .val (.int p2), .val (.int p3), .val (.long p4), .second, .val (.long p5), .second, .val (.int cc), .val (.int kk), .val (.ref b123), .unset, .unset] [(.int (255 : Int32)), (.int p3), (.long p4), .null, (.ref b127), (.ref b127)])) _
    refine XS.iand X127.here hx rfl (hb hby at_37) rfl ?_
    show Steps p.tables e below (T127.setTop (mkF m 38 #[.val (.int p1), .val (.int p2), .val (.int p3), .val (.long p4), .second, .val (.long p5), .second, .val (.int cc), .val (.int kk), .val (.ref b123), .unset, .unset] [(.int (p3 &&& (255 : Int32))), (.long p4), .null, (.ref b127), (.ref b127)])) _
    refine XS.i2dS X127.here hx rfl (hb hby at_38) rfl rfl ?_
    exact k
  obtain ⟨_, _, ⟨T129, L129, k129, n129⟩, -, X129, ⟨Lc129, hQ129, l129, y129, z129⟩, st129⟩ := X127.specialBack hx (y := (⟨"com/example/bucket/bucket/lineformat/Point", "<init>", "(Lcom/example/bucket/bucket/lineformat/Series;JD)V"⟩ : MethodName)) rfl hown (mvT hZ (hw _ (List.mem_of_getElem? (i := 25) rfl))) (mvT hZ (hw _ (List.mem_of_getElem? (i := 26) rfl))) (mvT hZ (hw _ (List.mem_of_getElem? (i := 27) rfl))) (by decide) (backOf (W := 1) (rm3 l Z a0 hw [] b127 p4 (FP.i2d (p3 &&& (255 : Int32))) h127 n0 Z3 G_series G_time G_value A127 g2) hZ (hw _ (List.mem_of_getElem? (i := 27) rfl)) (hw _ (List.mem_of_getElem? (i := 24) rfl)) (by decide) (by decide)) (g := (mkF m 39 #[.val (.int p1), .val (.int p2), .val (.int p3), .val (.long p4), .second, .val (.long p5), .second, .val (.int cc), .val (.int kk), .val (.ref b123), .unset, .unset] [(.double (FP.i2d (p3 &&& (255 : Int32)))), (.long p4), .null, (.ref b127), (.ref b127)])) rfl (by rw [hml]; rfl) (Steps.refl _) (a := b127) (argsL := [.null, (.long p4), (.double (FP.i2d (p3 &&& (255 : Int32))))]) (rest := [(.ref b127)]) (lenOf pd6 rfl) rfl (by show 2 * 0 + _ ≤ _; exact Nat.le_of_eq rfl) (hb hby at_39) (fun _ _ => ⟨rfl, e127, (by decide : 6 + 0 ≤ _), (by decide : 21 + 0 ≤ _)⟩)
  dsimp only [Pt.U, Pt.locs, Pt.cells, Pt.slots] at X129 l129 y129 z129 st129 hQ129
  subst l129 y129 z129
  obtain ⟨rfl, N129q, Q129, K129⟩ := hQ129
  have N129 := Fr.app N125 N129q
  have C129 : ∀ t, Steps p.tables e below (T129.setTop (mkF m 42 #[.val (.int p1), .val (.int p2), .val (.int p3), .val (.long p4), .second, .val (.long p5), .second, .val (.int cc), .val (.int kk), .val (.ref b123), .unset, .unset] [(.ref b127)])) t → Steps p.tables e below (s₁.setTop (entryFrame m #[(.int p1), (.int p2), (.int p3), (.long p4), (.long p5)] maxLocals)) t := fun t k => C128 t (st129.trans k)
  have Z4 : n0 ≤ T129.heap.size := Nat.le_trans Z3 K129.1
  have PA : OwnP Z T129.heap b123 sa ta va ea cc.toNatClampNeg 0 := (P125.ext E127).keep K129 (own_nin1 (own_natne (by have := own_natlt P125.lt.1; omega)))
  obtain ⟨r0, hr0⟩ : ∃ r : Int32, ((0 : Int32) = cc ∧ r = 1) ∨ (¬ (0 : Int32) = cc ∧ r = 0) := by
    by_cases q : (0 : Int32) = cc
    · exact ⟨1, Or.inl ⟨q, rfl⟩⟩
    · exact ⟨0, Or.inr ⟨q, rfl⟩⟩
  have C130 : ∀ t, Steps p.tables e below (T129.setTop (mkF m 46 #[.val (.int p1), .val (.int p2), .val (.int p3), .val (.long p4), .second, .val (.long p5), .second, .val (.int cc), .val (.int kk), .val (.ref b123), .val (.ref b127), .unset] [(.ref b123)])) t → Steps p.tables e below (s₁.setTop (entryFrame m #[(.int p1), (.int p2), (.int p3), (.long p4), (.long p5)] maxLocals)) t := by
    intro t k
    refine C129 t ?_
    show Steps p.tables e below (T129.setTop (mkF m 42 #[.val (.int p1), .val (.int p2), .val (.int p3), .val (.long p4), .second, .val (.long p5), .second, .val (.int cc), .val (.int kk), .val (.ref b123), .unset, .unset] [(.ref b127)])) _
    refine XS.astore X129.here hx rfl (hb hby at_42) rfl rfl (l' := #[.val (.int p1), .val (.int p2), .val (.int p3), .val (.long p4), .second, .val (.long p5), .second, .val (.int cc), .val (.int kk), .val (.ref b123), .val (.ref b127), .unset]) rfl ?_
    show Steps p.tables e below (T129.setTop (mkF m 44 #[.val (.int p1), .val (.int p2), .val (.int p3), .val (.long p4), .second, .val (.long p5), .second, .val (.int cc), .val (.int kk), .val (.ref b123), .val (.ref b127), .unset] [])) _
    refine XS.aload X129.here hx rfl (hb hby at_44) rfl rfl ?_
    exact k
  obtain ⟨cq131, kq131, q131a, q131b, q131c⟩ := isOf hZ rfl PA.1
  obtain ⟨_, _, ⟨T131, L131, k131, n131⟩, -, X131, ⟨Lc131, hQ131, l131, y131, z131⟩, st131⟩ := X129.virtualBack hx (y := (⟨"com/example/bucket/bucket/ingest/PointRun", "isFull", "()Z"⟩ : MethodName)) (z := (⟨"com/example/bucket/bucket/ingest/PointRun", "isFull", "()Z"⟩ : MethodName)) hown (mvT hZ (hw _ (List.mem_of_getElem? (i := 35) rfl))) (mvT hZ (hw _ (List.mem_of_getElem? (i := 36) rfl))) (notFace_of_selects (args := #[]) (mvT hZ (hw _ (List.mem_of_getElem? (i := 38) rfl)))) (mvT hZ (hw _ (List.mem_of_getElem? (i := 38) rfl))) (mvT hZ (hw _ (List.mem_of_getElem? (i := 37) rfl))) (by decide) (backOf (W := 0) (rm4 l Z a0 hw [] b123 sa ta va ea cc (0 : Int32) r0 T129.heap n0 Z4 PA hcc.1 hr0) hZ (hw _ (List.mem_of_getElem? (i := 39) rfl)) (hw _ (List.mem_of_getElem? (i := 3) rfl)) (by decide) (by decide)) q131a q131c (g := (mkF m 46 #[.val (.int p1), .val (.int p2), .val (.int p3), .val (.long p4), .second, .val (.long p5), .second, .val (.int cc), .val (.int kk), .val (.ref b123), .val (.ref b127), .unset] [(.ref b123)])) rfl (by rw [hml]; rfl) (Steps.refl _) (argsL := []) (rest := []) (lenOf pd7 rfl) rfl (by show 2 * 0 + _ ≤ _; exact Nat.le_of_eq rfl) (hb hby at_46) (fun _ _ => ⟨rfl, rfl, (by decide : 6 + 0 ≤ _), (by decide : 21 + 0 ≤ _)⟩)
  dsimp only [Pt.U, Pt.locs, Pt.cells, Pt.slots] at X131 l131 y131 z131 st131 hQ131
  subst l131 y131 z131
  obtain ⟨rfl, N131q, q131⟩ := hQ131
  have N131 := Fr.app N129 N131q
  have C131 : ∀ t, Steps p.tables e below (T131.setTop (mkF m 49 #[.val (.int p1), .val (.int p2), .val (.int p3), .val (.long p4), .second, .val (.long p5), .second, .val (.int cc), .val (.int kk), .val (.ref b123), .val (.ref b127), .unset] [(.int r0)])) t → Steps p.tables e below (s₁.setTop (entryFrame m #[(.int p1), (.int p2), (.int p3), (.long p4), (.long p5)] maxLocals)) t := fun t k => C130 t (st131.trans k)
  have C132 : ∀ t, Steps p.tables e below (T131.setTop (mkF m 51 #[.val (.int p1), .val (.int p2), .val (.int p3), .val (.long p4), .second, .val (.long p5), .second, .val (.int cc), .val (.int kk), .val (.ref b123), .val (.ref b127), .unset] [(.int cc), (.int r0)])) t → Steps p.tables e below (s₁.setTop (entryFrame m #[(.int p1), (.int p2), (.int p3), (.long p4), (.long p5)] maxLocals)) t := by
    intro t k
    refine C131 t ?_
    show Steps p.tables e below (T131.setTop (mkF m 49 #[.val (.int p1), .val (.int p2), .val (.int p3), .val (.long p4), .second, .val (.long p5), .second, .val (.int cc), .val (.int kk), .val (.ref b123), .val (.ref b127), .unset] [(.int r0)])) _
    refine XS.iload X131.here hx rfl (hb hby at_49) rfl ?_
    exact k
  have CC0 : ∀ t, Steps p.tables e below (T131.setTop (mkF m 67 #[.val (.int p1), .val (.int p2), .val (.int p3), .val (.long p4), .second, .val (.long p5), .second, .val (.int cc), .val (.int kk), .val (.ref b123), .val (.ref b127), .unset] [(.int (1 : Int32))])) t → Steps p.tables e below (s₁.setTop (entryFrame m #[(.int p1), (.int p2), (.int p3), (.long p4), (.long p5)] maxLocals)) t := by
    rcases hr0 with ⟨hc, er⟩ | ⟨hc, er⟩
    · intro t k
      refine C132 t ?_
      show Steps p.tables e below (T131.setTop (mkF m 51 #[.val (.int p1), .val (.int p2), .val (.int p3), .val (.long p4), .second, .val (.long p5), .second, .val (.int cc), .val (.int kk), .val (.ref b123), .val (.ref b127), .unset] [(.int cc), (.int r0)])) _
      refine XS.ifNo X131.here hx rfl (hb hby at_51) rfl (XT.i0_ne_f (by rw [← hc])) ?_
      show Steps p.tables e below (T131.setTop (mkF m 54 #[.val (.int p1), .val (.int p2), .val (.int p3), .val (.long p4), .second, .val (.long p5), .second, .val (.int cc), .val (.int kk), .val (.ref b123), .val (.ref b127), .unset] [(.int r0)])) _
      refine XS.iconst X131.here hx rfl (hb hby at_54) ?_
      show Steps p.tables e below (T131.setTop (mkF m 55 #[.val (.int p1), .val (.int p2), .val (.int p3), .val (.long p4), .second, .val (.long p5), .second, .val (.int cc), .val (.int kk), .val (.ref b123), .val (.ref b127), .unset] [(.int (1 : Int32)), (.int r0)])) _
      refine XS.goto X131.here hx rfl (pc0 := 55) (pc' := 59) rfl (hb hby at_55) (by decide) (by decide) ?_
      show Steps p.tables e below (T131.setTop (mkF m 59 #[.val (.int p1), .val (.int p2), .val (.int p3), .val (.long p4), .second, .val (.long p5), .second, .val (.int cc), .val (.int kk), .val (.ref b123), .val (.ref b127), .unset] [(.int (1 : Int32)), (.int r0)])) _
      refine XS.icmpNo X131.here hx rfl (hb hby at_59) rfl (XT.ii_ne_f er) ?_
      show Steps p.tables e below (T131.setTop (mkF m 62 #[.val (.int p1), .val (.int p2), .val (.int p3), .val (.long p4), .second, .val (.long p5), .second, .val (.int cc), .val (.int kk), .val (.ref b123), .val (.ref b127), .unset] [])) _
      refine XS.iconst X131.here hx rfl (hb hby at_62) ?_
      show Steps p.tables e below (T131.setTop (mkF m 63 #[.val (.int p1), .val (.int p2), .val (.int p3), .val (.long p4), .second, .val (.long p5), .second, .val (.int cc), .val (.int kk), .val (.ref b123), .val (.ref b127), .unset] [(.int (1 : Int32))])) _
      refine XS.goto X131.here hx rfl (pc0 := 63) (pc' := 67) rfl (hb hby at_63) (by decide) (by decide) ?_
      exact k
    · intro t k
      refine C132 t ?_
      show Steps p.tables e below (T131.setTop (mkF m 51 #[.val (.int p1), .val (.int p2), .val (.int p3), .val (.long p4), .second, .val (.long p5), .second, .val (.int cc), .val (.int kk), .val (.ref b123), .val (.ref b127), .unset] [(.int cc), (.int r0)])) _
      refine XS.ifYes X131.here hx rfl (pc0 := 51) (pc' := 58) rfl (hb hby at_51) rfl (XT.i0_ne_t (fun q => hc q.symm)) (by decide) (by decide) ?_
      show Steps p.tables e below (T131.setTop (mkF m 58 #[.val (.int p1), .val (.int p2), .val (.int p3), .val (.long p4), .second, .val (.long p5), .second, .val (.int cc), .val (.int kk), .val (.ref b123), .val (.ref b127), .unset] [(.int r0)])) _
      refine XS.iconst X131.here hx rfl (hb hby at_58) ?_
      show Steps p.tables e below (T131.setTop (mkF m 59 #[.val (.int p1), .val (.int p2), .val (.int p3), .val (.long p4), .second, .val (.long p5), .second, .val (.int cc), .val (.int kk), .val (.ref b123), .val (.ref b127), .unset] [(.int (0 : Int32)), (.int r0)])) _
      refine XS.icmpNo X131.here hx rfl (hb hby at_59) rfl (XT.ii_ne_f er) ?_
      show Steps p.tables e below (T131.setTop (mkF m 62 #[.val (.int p1), .val (.int p2), .val (.int p3), .val (.long p4), .second, .val (.long p5), .second, .val (.int cc), .val (.int kk), .val (.ref b123), .val (.ref b127), .unset] [])) _
      refine XS.iconst X131.here hx rfl (hb hby at_62) ?_
      show Steps p.tables e below (T131.setTop (mkF m 63 #[.val (.int p1), .val (.int p2), .val (.int p3), .val (.long p4), .second, .val (.long p5), .second, .val (.int cc), .val (.int kk), .val (.ref b123), .val (.ref b127), .unset] [(.int (1 : Int32))])) _
      refine XS.goto X131.here hx rfl (pc0 := 63) (pc' := 67) rfl (hb hby at_63) (by decide) (by decide) ?_
      exact k
  have C133 : ∀ t, Steps p.tables e below (T131.setTop (mkF m 81 #[.val (.int p1), .val (.int p2), .val (.int p3), .val (.long p4), .second, .val (.long p5), .second, .val (.int cc), .val (.int kk), .val (.ref b123), .val (.ref b127), .val (.int (1 : Int32))] [(.long p5), (.ref b127), (.ref b123)])) t → Steps p.tables e below (s₁.setTop (entryFrame m #[(.int p1), (.int p2), (.int p3), (.long p4), (.long p5)] maxLocals)) t := by
    intro t k
    refine CC0 t ?_
    show Steps p.tables e below (T131.setTop (mkF m 67 #[.val (.int p1), .val (.int p2), .val (.int p3), .val (.long p4), .second, .val (.long p5), .second, .val (.int cc), .val (.int kk), .val (.ref b123), .val (.ref b127), .unset] [(.int (1 : Int32))])) _
    refine XS.istore X131.here hx rfl (hb hby at_67) rfl (l' := #[.val (.int p1), .val (.int p2), .val (.int p3), .val (.long p4), .second, .val (.long p5), .second, .val (.int cc), .val (.int kk), .val (.ref b123), .val (.ref b127), .val (.int (1 : Int32))]) rfl ?_
    show Steps p.tables e below (T131.setTop (mkF m 69 #[.val (.int p1), .val (.int p2), .val (.int p3), .val (.long p4), .second, .val (.long p5), .second, .val (.int cc), .val (.int kk), .val (.ref b123), .val (.ref b127), .val (.int (1 : Int32))] [])) _
    refine XS.iload X131.here hx rfl (hb hby at_69) rfl ?_
    show Steps p.tables e below (T131.setTop (mkF m 71 #[.val (.int p1), .val (.int p2), .val (.int p3), .val (.long p4), .second, .val (.long p5), .second, .val (.int cc), .val (.int kk), .val (.ref b123), .val (.ref b127), .val (.int (1 : Int32))] [(.int kk)])) _
    refine XS.iconst X131.here hx rfl (hb hby at_71) ?_
    show Steps p.tables e below (T131.setTop (mkF m 72 #[.val (.int p1), .val (.int p2), .val (.int p3), .val (.long p4), .second, .val (.long p5), .second, .val (.int cc), .val (.int kk), .val (.ref b123), .val (.ref b127), .val (.int (1 : Int32))] [(.int (1 : Int32)), (.int kk)])) _
    refine XS.icmpNo X131.here hx rfl (hb hby at_72) rfl (XT.ii_lt_f (by rw [hkk]; decide)) ?_
    show Steps p.tables e below (T131.setTop (mkF m 75 #[.val (.int p1), .val (.int p2), .val (.int p3), .val (.long p4), .second, .val (.long p5), .second, .val (.int cc), .val (.int kk), .val (.ref b123), .val (.ref b127), .val (.int (1 : Int32))] [])) _
    refine XS.aload X131.here hx rfl (hb hby at_75) rfl rfl ?_
    show Steps p.tables e below (T131.setTop (mkF m 77 #[.val (.int p1), .val (.int p2), .val (.int p3), .val (.long p4), .second, .val (.long p5), .second, .val (.int cc), .val (.int kk), .val (.ref b123), .val (.ref b127), .val (.int (1 : Int32))] [(.ref b123)])) _
    refine XS.aload X131.here hx rfl (hb hby at_77) rfl rfl ?_
    show Steps p.tables e below (T131.setTop (mkF m 79 #[.val (.int p1), .val (.int p2), .val (.int p3), .val (.long p4), .second, .val (.long p5), .second, .val (.int cc), .val (.int kk), .val (.ref b123), .val (.ref b127), .val (.int (1 : Int32))] [(.ref b127), (.ref b123)])) _
    refine XS.lload X131.here hx rfl (hb hby at_79) rfl ?_
    exact k
  obtain ⟨cq134, kq134, q134a, q134b, q134c⟩ := isOf hZ q131 PA.1
  obtain ⟨_, _, ⟨T134, L134, k134, n134⟩, -, X134, ⟨Lc134, hQ134, l134, y134, z134⟩, st134⟩ := X131.virtualBack hx (y := (⟨"com/example/bucket/bucket/ingest/PointRun", "add", "(Lcom/example/bucket/bucket/lineformat/Point;J)V"⟩ : MethodName)) (z := (⟨"com/example/bucket/bucket/ingest/PointRun", "add", "(Lcom/example/bucket/bucket/lineformat/Point;J)V"⟩ : MethodName)) hown (mvT hZ (hw _ (List.mem_of_getElem? (i := 42) rfl))) (mvT hZ (hw _ (List.mem_of_getElem? (i := 43) rfl))) (notFace_of_selects (args := #[]) (mvT hZ (hw _ (List.mem_of_getElem? (i := 45) rfl)))) (mvT hZ (hw _ (List.mem_of_getElem? (i := 45) rfl))) (mvT hZ (hw _ (List.mem_of_getElem? (i := 44) rfl))) (by decide) (backOf (W := 0) (rm5 l Z a0 hw [] b123 b127 p5 sa ta va ea cc.toNatClampNeg 0 1 p4 (FP.i2d (p3 &&& (255 : Int32))) T129.heap n0 Z4 PA Q129 (own_room hkb (by decide)) (by decide) g1 gs gt gv ge) hZ (hw _ (List.mem_of_getElem? (i := 46) rfl)) (hw _ (List.mem_of_getElem? (i := 3) rfl)) (by decide) (by decide)) q134a q134c (g := (mkF m 81 #[.val (.int p1), .val (.int p2), .val (.int p3), .val (.long p4), .second, .val (.long p5), .second, .val (.int cc), .val (.int kk), .val (.ref b123), .val (.ref b127), .val (.int (1 : Int32))] [(.long p5), (.ref b127), (.ref b123)])) rfl (by rw [hml]; rfl) (Steps.refl _) (argsL := [(.ref b127), (.long p5)]) (rest := []) (lenOf pd9 rfl) rfl (by show 2 * 0 + _ ≤ _; exact Nat.le_of_eq rfl) (hb hby at_81) (fun _ _ => ⟨rfl, q131, (by decide : 6 + 0 ≤ _), (by decide : 21 + 0 ≤ _)⟩)
  dsimp only [Pt.U, Pt.locs, Pt.cells, Pt.slots] at X134 l134 y134 z134 st134 hQ134
  subst l134 y134 z134
  obtain ⟨rfl, N134q, P134, Q134, s134⟩ := hQ134
  have N134 := Fr.app N131 N134q
  have C134 : ∀ t, Steps p.tables e below (T134.setTop (mkF m 84 #[.val (.int p1), .val (.int p2), .val (.int p3), .val (.long p4), .second, .val (.long p5), .second, .val (.int cc), .val (.int kk), .val (.ref b123), .val (.ref b127), .val (.int (1 : Int32))] [])) t → Steps p.tables e below (s₁.setTop (entryFrame m #[(.int p1), (.int p2), (.int p3), (.long p4), (.long p5)] maxLocals)) t := fun t k => C133 t (st134.trans k)
  have ZZ134 : n0 ≤ T134.heap.size := Nat.le_trans Z4 s134
  obtain ⟨r1, hr1⟩ : ∃ r : Int32, ((1 : Int32) = cc ∧ r = 1) ∨ (¬ (1 : Int32) = cc ∧ r = 0) := by
    by_cases q : (1 : Int32) = cc
    · exact ⟨1, Or.inl ⟨q, rfl⟩⟩
    · exact ⟨0, Or.inr ⟨q, rfl⟩⟩
  have C135 : ∀ t, Steps p.tables e below (T134.setTop (mkF m 88 #[.val (.int p1), .val (.int p2), .val (.int p3), .val (.long p4), .second, .val (.long p5), .second, .val (.int cc), .val (.int kk), .val (.ref b123), .val (.ref b127), .val (.int (1 : Int32))] [(.ref b123), (.int (1 : Int32))])) t → Steps p.tables e below (s₁.setTop (entryFrame m #[(.int p1), (.int p2), (.int p3), (.long p4), (.long p5)] maxLocals)) t := by
    intro t k
    refine C134 t ?_
    show Steps p.tables e below (T134.setTop (mkF m 84 #[.val (.int p1), .val (.int p2), .val (.int p3), .val (.long p4), .second, .val (.long p5), .second, .val (.int cc), .val (.int kk), .val (.ref b123), .val (.ref b127), .val (.int (1 : Int32))] [])) _
    refine XS.iload X134.here hx rfl (hb hby at_84) rfl ?_
    show Steps p.tables e below (T134.setTop (mkF m 86 #[.val (.int p1), .val (.int p2), .val (.int p3), .val (.long p4), .second, .val (.long p5), .second, .val (.int cc), .val (.int kk), .val (.ref b123), .val (.ref b127), .val (.int (1 : Int32))] [(.int (1 : Int32))])) _
    refine XS.aload X134.here hx rfl (hb hby at_86) rfl rfl ?_
    exact k
  obtain ⟨cq136, kq136, q136a, q136b, q136c⟩ := isOf hZ rfl P134.1
  obtain ⟨_, _, ⟨T136, L136, k136, n136⟩, -, X136, ⟨Lc136, hQ136, l136, y136, z136⟩, st136⟩ := X134.virtualBack hx (y := (⟨"com/example/bucket/bucket/ingest/PointRun", "isFull", "()Z"⟩ : MethodName)) (z := (⟨"com/example/bucket/bucket/ingest/PointRun", "isFull", "()Z"⟩ : MethodName)) hown (mvT hZ (hw _ (List.mem_of_getElem? (i := 35) rfl))) (mvT hZ (hw _ (List.mem_of_getElem? (i := 36) rfl))) (notFace_of_selects (args := #[]) (mvT hZ (hw _ (List.mem_of_getElem? (i := 38) rfl)))) (mvT hZ (hw _ (List.mem_of_getElem? (i := 38) rfl))) (mvT hZ (hw _ (List.mem_of_getElem? (i := 37) rfl))) (by decide) (backOf (W := 1) (rm4 l Z a0 hw [] b123 sa ta va ea cc (1 : Int32) r1 T134.heap n0 ZZ134 P134 hcc.1 hr1) hZ (hw _ (List.mem_of_getElem? (i := 39) rfl)) (hw _ (List.mem_of_getElem? (i := 3) rfl)) (by decide) (by decide)) q136a q136c (g := (mkF m 88 #[.val (.int p1), .val (.int p2), .val (.int p3), .val (.long p4), .second, .val (.long p5), .second, .val (.int cc), .val (.int kk), .val (.ref b123), .val (.ref b127), .val (.int (1 : Int32))] [(.ref b123), (.int (1 : Int32))])) rfl (by rw [hml]; rfl) (Steps.refl _) (argsL := []) (rest := [(.int (1 : Int32))]) (lenOf pd7 rfl) rfl (by show 2 * 0 + _ ≤ _; exact Nat.le_of_eq rfl) (hb hby at_88) (fun _ _ => ⟨rfl, rfl, (by decide : 6 + 0 ≤ _), (by decide : 21 + 0 ≤ _)⟩)
  dsimp only [Pt.U, Pt.locs, Pt.cells, Pt.slots] at X136 l136 y136 z136 st136 hQ136
  subst l136 y136 z136
  obtain ⟨rfl, N136q, q136⟩ := hQ136
  have N136 := Fr.app N134 N136q
  have C136 : ∀ t, Steps p.tables e below (T136.setTop (mkF m 91 #[.val (.int p1), .val (.int p2), .val (.int p3), .val (.long p4), .second, .val (.long p5), .second, .val (.int cc), .val (.int kk), .val (.ref b123), .val (.ref b127), .val (.int (1 : Int32))] [(.int r1), (.int (1 : Int32))])) t → Steps p.tables e below (s₁.setTop (entryFrame m #[(.int p1), (.int p2), (.int p3), (.long p4), (.long p5)] maxLocals)) t := fun t k => C135 t (st136.trans k)
  have C137 : ∀ t, Steps p.tables e below (T136.setTop (mkF m 94 #[.val (.int p1), .val (.int p2), .val (.int p3), .val (.long p4), .second, .val (.long p5), .second, .val (.int cc), .val (.int kk), .val (.ref b123), .val (.ref b127), .val (.int (1 : Int32))] [(.int (1 : Int32)), (.int cc), (.int r1), (.int (1 : Int32))])) t → Steps p.tables e below (s₁.setTop (entryFrame m #[(.int p1), (.int p2), (.int p3), (.long p4), (.long p5)] maxLocals)) t := by
    intro t k
    refine C136 t ?_
    show Steps p.tables e below (T136.setTop (mkF m 91 #[.val (.int p1), .val (.int p2), .val (.int p3), .val (.long p4), .second, .val (.long p5), .second, .val (.int cc), .val (.int kk), .val (.ref b123), .val (.ref b127), .val (.int (1 : Int32))] [(.int r1), (.int (1 : Int32))])) _
    refine XS.iload X136.here hx rfl (hb hby at_91) rfl ?_
    show Steps p.tables e below (T136.setTop (mkF m 93 #[.val (.int p1), .val (.int p2), .val (.int p3), .val (.long p4), .second, .val (.long p5), .second, .val (.int cc), .val (.int kk), .val (.ref b123), .val (.ref b127), .val (.int (1 : Int32))] [(.int cc), (.int r1), (.int (1 : Int32))])) _
    refine XS.iconst X136.here hx rfl (hb hby at_93) ?_
    exact k
  have CC1 : ∀ t, Steps p.tables e below (T136.setTop (mkF m 110 #[.val (.int p1), .val (.int p2), .val (.int p3), .val (.long p4), .second, .val (.long p5), .second, .val (.int cc), .val (.int kk), .val (.ref b123), .val (.ref b127), .val (.int (1 : Int32))] [(.int (1 : Int32)), (.int (1 : Int32))])) t → Steps p.tables e below (s₁.setTop (entryFrame m #[(.int p1), (.int p2), (.int p3), (.long p4), (.long p5)] maxLocals)) t := by
    rcases hr1 with ⟨hc, er⟩ | ⟨hc, er⟩
    · intro t k
      refine C137 t ?_
      show Steps p.tables e below (T136.setTop (mkF m 94 #[.val (.int p1), .val (.int p2), .val (.int p3), .val (.long p4), .second, .val (.long p5), .second, .val (.int cc), .val (.int kk), .val (.ref b123), .val (.ref b127), .val (.int (1 : Int32))] [(.int (1 : Int32)), (.int cc), (.int r1), (.int (1 : Int32))])) _
      refine XS.icmpNo X136.here hx rfl (hb hby at_94) rfl (XT.ii_ne_f hc.symm) ?_
      show Steps p.tables e below (T136.setTop (mkF m 97 #[.val (.int p1), .val (.int p2), .val (.int p3), .val (.long p4), .second, .val (.long p5), .second, .val (.int cc), .val (.int kk), .val (.ref b123), .val (.ref b127), .val (.int (1 : Int32))] [(.int r1), (.int (1 : Int32))])) _
      refine XS.iconst X136.here hx rfl (hb hby at_97) ?_
      show Steps p.tables e below (T136.setTop (mkF m 98 #[.val (.int p1), .val (.int p2), .val (.int p3), .val (.long p4), .second, .val (.long p5), .second, .val (.int cc), .val (.int kk), .val (.ref b123), .val (.ref b127), .val (.int (1 : Int32))] [(.int (1 : Int32)), (.int r1), (.int (1 : Int32))])) _
      refine XS.goto X136.here hx rfl (pc0 := 98) (pc' := 102) rfl (hb hby at_98) (by decide) (by decide) ?_
      show Steps p.tables e below (T136.setTop (mkF m 102 #[.val (.int p1), .val (.int p2), .val (.int p3), .val (.long p4), .second, .val (.long p5), .second, .val (.int cc), .val (.int kk), .val (.ref b123), .val (.ref b127), .val (.int (1 : Int32))] [(.int (1 : Int32)), (.int r1), (.int (1 : Int32))])) _
      refine XS.icmpNo X136.here hx rfl (hb hby at_102) rfl (XT.ii_ne_f er) ?_
      show Steps p.tables e below (T136.setTop (mkF m 105 #[.val (.int p1), .val (.int p2), .val (.int p3), .val (.long p4), .second, .val (.long p5), .second, .val (.int cc), .val (.int kk), .val (.ref b123), .val (.ref b127), .val (.int (1 : Int32))] [(.int (1 : Int32))])) _
      refine XS.iconst X136.here hx rfl (hb hby at_105) ?_
      show Steps p.tables e below (T136.setTop (mkF m 106 #[.val (.int p1), .val (.int p2), .val (.int p3), .val (.long p4), .second, .val (.long p5), .second, .val (.int cc), .val (.int kk), .val (.ref b123), .val (.ref b127), .val (.int (1 : Int32))] [(.int (1 : Int32)), (.int (1 : Int32))])) _
      refine XS.goto X136.here hx rfl (pc0 := 106) (pc' := 110) rfl (hb hby at_106) (by decide) (by decide) ?_
      exact k
    · intro t k
      refine C137 t ?_
      show Steps p.tables e below (T136.setTop (mkF m 94 #[.val (.int p1), .val (.int p2), .val (.int p3), .val (.long p4), .second, .val (.long p5), .second, .val (.int cc), .val (.int kk), .val (.ref b123), .val (.ref b127), .val (.int (1 : Int32))] [(.int (1 : Int32)), (.int cc), (.int r1), (.int (1 : Int32))])) _
      refine XS.icmpYes X136.here hx rfl (pc0 := 94) (pc' := 101) rfl (hb hby at_94) rfl (XT.ii_ne_t (fun q => hc q.symm)) (by decide) (by decide) ?_
      show Steps p.tables e below (T136.setTop (mkF m 101 #[.val (.int p1), .val (.int p2), .val (.int p3), .val (.long p4), .second, .val (.long p5), .second, .val (.int cc), .val (.int kk), .val (.ref b123), .val (.ref b127), .val (.int (1 : Int32))] [(.int r1), (.int (1 : Int32))])) _
      refine XS.iconst X136.here hx rfl (hb hby at_101) ?_
      show Steps p.tables e below (T136.setTop (mkF m 102 #[.val (.int p1), .val (.int p2), .val (.int p3), .val (.long p4), .second, .val (.long p5), .second, .val (.int cc), .val (.int kk), .val (.ref b123), .val (.ref b127), .val (.int (1 : Int32))] [(.int (0 : Int32)), (.int r1), (.int (1 : Int32))])) _
      refine XS.icmpNo X136.here hx rfl (hb hby at_102) rfl (XT.ii_ne_f er) ?_
      show Steps p.tables e below (T136.setTop (mkF m 105 #[.val (.int p1), .val (.int p2), .val (.int p3), .val (.long p4), .second, .val (.long p5), .second, .val (.int cc), .val (.int kk), .val (.ref b123), .val (.ref b127), .val (.int (1 : Int32))] [(.int (1 : Int32))])) _
      refine XS.iconst X136.here hx rfl (hb hby at_105) ?_
      show Steps p.tables e below (T136.setTop (mkF m 106 #[.val (.int p1), .val (.int p2), .val (.int p3), .val (.long p4), .second, .val (.long p5), .second, .val (.int cc), .val (.int kk), .val (.ref b123), .val (.ref b127), .val (.int (1 : Int32))] [(.int (1 : Int32)), (.int (1 : Int32))])) _
      refine XS.goto X136.here hx rfl (pc0 := 106) (pc' := 110) rfl (hb hby at_106) (by decide) (by decide) ?_
      exact k
  have C138 : ∀ t, Steps p.tables e below (T136.setTop (mkF m 244 #[.val (.int p1), .val (.int p2), .val (.int p3), .val (.long p4), .second, .val (.long p5), .second, .val (.int cc), .val (.int kk), .val (.ref b123), .val (.ref b127), .val (.int (1 : Int32))] [(.int (1 : Int32))])) t → Steps p.tables e below (s₁.setTop (entryFrame m #[(.int p1), (.int p2), (.int p3), (.long p4), (.long p5)] maxLocals)) t := by
    intro t k
    refine CC1 t ?_
    show Steps p.tables e below (T136.setTop (mkF m 110 #[.val (.int p1), .val (.int p2), .val (.int p3), .val (.long p4), .second, .val (.long p5), .second, .val (.int cc), .val (.int kk), .val (.ref b123), .val (.ref b127), .val (.int (1 : Int32))] [(.int (1 : Int32)), (.int (1 : Int32))])) _
    refine XS.iand X136.here hx rfl (hb hby at_110) rfl ?_
    show Steps p.tables e below (T136.setTop (mkF m 111 #[.val (.int p1), .val (.int p2), .val (.int p3), .val (.long p4), .second, .val (.long p5), .second, .val (.int cc), .val (.int kk), .val (.ref b123), .val (.ref b127), .val (.int (1 : Int32))] [(.int (1 : Int32))])) _
    refine XS.istore X136.here hx rfl (hb hby at_111) rfl (l' := #[.val (.int p1), .val (.int p2), .val (.int p3), .val (.long p4), .second, .val (.long p5), .second, .val (.int cc), .val (.int kk), .val (.ref b123), .val (.ref b127), .val (.int (1 : Int32))]) rfl ?_
    show Steps p.tables e below (T136.setTop (mkF m 113 #[.val (.int p1), .val (.int p2), .val (.int p3), .val (.long p4), .second, .val (.long p5), .second, .val (.int cc), .val (.int kk), .val (.ref b123), .val (.ref b127), .val (.int (1 : Int32))] [])) _
    refine XS.iload X136.here hx rfl (hb hby at_113) rfl ?_
    show Steps p.tables e below (T136.setTop (mkF m 115 #[.val (.int p1), .val (.int p2), .val (.int p3), .val (.long p4), .second, .val (.long p5), .second, .val (.int cc), .val (.int kk), .val (.ref b123), .val (.ref b127), .val (.int (1 : Int32))] [(.int kk)])) _
    refine XS.iconst X136.here hx rfl (hb hby at_115) ?_
    show Steps p.tables e below (T136.setTop (mkF m 116 #[.val (.int p1), .val (.int p2), .val (.int p3), .val (.long p4), .second, .val (.long p5), .second, .val (.int cc), .val (.int kk), .val (.ref b123), .val (.ref b127), .val (.int (1 : Int32))] [(.int (2 : Int32)), (.int kk)])) _
    refine XS.icmpYes X136.here hx rfl (pc0 := 116) (pc' := 157) rfl (hb hby at_116) rfl (XT.ii_lt_t (by rw [hkk]; decide)) (by decide) (by decide) ?_
    show Steps p.tables e below (T136.setTop (mkF m 157 #[.val (.int p1), .val (.int p2), .val (.int p3), .val (.long p4), .second, .val (.long p5), .second, .val (.int cc), .val (.int kk), .val (.ref b123), .val (.ref b127), .val (.int (1 : Int32))] [])) _
    refine XS.iload X136.here hx rfl (hb hby at_157) rfl ?_
    show Steps p.tables e below (T136.setTop (mkF m 159 #[.val (.int p1), .val (.int p2), .val (.int p3), .val (.long p4), .second, .val (.long p5), .second, .val (.int cc), .val (.int kk), .val (.ref b123), .val (.ref b127), .val (.int (1 : Int32))] [(.int kk)])) _
    refine XS.iconst X136.here hx rfl (hb hby at_159) ?_
    show Steps p.tables e below (T136.setTop (mkF m 160 #[.val (.int p1), .val (.int p2), .val (.int p3), .val (.long p4), .second, .val (.long p5), .second, .val (.int cc), .val (.int kk), .val (.ref b123), .val (.ref b127), .val (.int (1 : Int32))] [(.int (3 : Int32)), (.int kk)])) _
    refine XS.icmpYes X136.here hx rfl (pc0 := 160) (pc' := 201) rfl (hb hby at_160) rfl (XT.ii_lt_t (by rw [hkk]; decide)) (by decide) (by decide) ?_
    show Steps p.tables e below (T136.setTop (mkF m 201 #[.val (.int p1), .val (.int p2), .val (.int p3), .val (.long p4), .second, .val (.long p5), .second, .val (.int cc), .val (.int kk), .val (.ref b123), .val (.ref b127), .val (.int (1 : Int32))] [])) _
    refine XS.iloadN X136.here hx rfl (hb hby at_201) rfl ?_
    show Steps p.tables e below (T136.setTop (mkF m 202 #[.val (.int p1), .val (.int p2), .val (.int p3), .val (.long p4), .second, .val (.long p5), .second, .val (.int cc), .val (.int kk), .val (.ref b123), .val (.ref b127), .val (.int (1 : Int32))] [(.int p3)])) _
    refine XS.sipush X136.here hx rfl (hb hby at_202) ?_
    show Steps p.tables e below (T136.setTop (mkF m 205 #[.val (.int p1), .val (.int p2), .val (.int p3), .val (.long p4), .second, .val (.long p5), .second, .val (.int cc), .val (.int kk), .val (.ref b123), .val (.ref b127), .val (.int (1 : Int32))] [(.int (256 : Int32)), (.int p3)])) _
    refine XS.iand X136.here hx rfl (hb hby at_205) rfl ?_
    show Steps p.tables e below (T136.setTop (mkF m 206 #[.val (.int p1), .val (.int p2), .val (.int p3), .val (.long p4), .second, .val (.long p5), .second, .val (.int cc), .val (.int kk), .val (.ref b123), .val (.ref b127), .val (.int (1 : Int32))] [(.int (p3 &&& (256 : Int32)))])) _
    refine XS.ifYes X136.here hx rfl (pc0 := 206) (pc' := 242) rfl (hb hby at_206) rfl (XT.i0_eq_t hf) (by decide) (by decide) ?_
    show Steps p.tables e below (T136.setTop (mkF m 242 #[.val (.int p1), .val (.int p2), .val (.int p3), .val (.long p4), .second, .val (.long p5), .second, .val (.int cc), .val (.int kk), .val (.ref b123), .val (.ref b127), .val (.int (1 : Int32))] [])) _
    refine XS.iload X136.here hx rfl (hb hby at_242) rfl ?_
    exact k
  obtain ⟨fs, hr, hrun, hended, hW, hsame⟩ := X136.leave (v := some (.int (1 : Int32))) (fun h => by rw [Bd.returns] at h; cases h)
  refine ⟨_, _, C138 _ ?_, hrun, hended, _, _, rfl, ?_, ⟨_, rfl⟩, hW, hsame.mono (by decide) (by decide)⟩
  · show Steps p.tables e below (T136.setTop (mkF m 244 #[.val (.int p1), .val (.int p2), .val (.int p3), .val (.long p4), .second, .val (.long p5), .second, .val (.int cc), .val (.int kk), .val (.ref b123), .val (.ref b127), .val (.int (1 : Int32))] [(.int (1 : Int32))])) _
    exact retN X136 hx (t := .boolean) Bd.returns (by simp) (hb hby at_244) hr
  · show Q0 Z p1 p2 p3 p4 p5 h0 n0 _ T136.heap _
    rw [q136]
    exact ⟨rfl, N136⟩
set_option maxRecDepth 65536 in
set_option maxHeartbeats 40000000 in
theorem rm0_11 (l : Launch) (Z : State) (a0 : Array Value) (hw : ∀ d ∈ tables_1, d.before a0 Z = true) (ws : List Jvm.Cond) (p1 p2 p3 : Int32) (p4 p5 : Int64) (h0 : Heap) (n0 : Nat) (Z0 : n0 ≤ h0.size) (hk : ((p2 &&& (2147483647 : Int32)) - ((p2 &&& (2147483647 : Int32)) / ((p1 &&& (3 : Int32)) + (1 : Int32))) * ((p1 &&& (3 : Int32)) + (1 : Int32))) = (1 : Int32)) (hf : ¬ (p3 &&& (256 : Int32)) = 0) :
    MetFree l x (head1 (Jvm.Cond.code x code maxLocals ret :: ws) room_1) (fun a U => a = #[(.int p1), (.int p2), (.int p3), (.long p4), (.long p5)] ∧ Z.Warmed39 U.vm ∧ U.heap = h0) (fun _ _ _ _ _ => True) (fun _ U o U' => ∃ v L, o = .returned v ∧ Q0 Z p1 p2 p3 p4 p5 h0 n0 v U'.heap L ∧ FrameEnd U o U' L room_1.cells room_1.slots) := by
  refine MetFree.of_bodySF (plainFor_of_name pn3) hisR ?_
  intro p e s m args below meth c s₁ Bd hml0 hP hK
  obtain ⟨rfl, hZ, hh⟩ := hP
  have hx := Bd.exec
  have hby := Bd.bytes
  have hml : c.maxLocals = 12 := hml0
  have hown : s.vm.findClass "com/example/bucket/bucket/ingest/PointRunIsFullPinLaw" = some m.cls := findClass_of_methodNamed Bd.named
  have hnm := (name_of_methodNamed Bd.named Bd.method).1
  have X0 : Stand p l e room_1 s m #[(.int p1), (.int p2), (.int p3), (.long p4), (.long p5)] below meth c s₁ [] 0 0 := Stand.of_body Bd
  have e0 : s₁.heap = h0 := by rw [← hh, Bd.state]; rfl
  have N0 := Fr.nil n0
  have pre0 : ∀ t, Steps p.tables e below (s₁.setTop (mkF m 0 #[.val (.int p1), .val (.int p2), .val (.int p3), .val (.long p4), .second, .val (.long p5), .second, .unset, .unset, .unset, .unset, .unset] [])) t → Steps p.tables e below (s₁.setTop (entryFrame m #[(.int p1), (.int p2), (.int p3), (.long p4), (.long p5)] maxLocals)) t := fun t k => castTop (ef0 m p1 p2 p3 p4 p5) k
  have C139 : ∀ t, Steps p.tables e below (s₁.setTop (mkF m 5 #[.val (.int p1), .val (.int p2), .val (.int p3), .val (.long p4), .second, .val (.long p5), .second, .val (.int (p1 &&& (3 : Int32))), .unset, .unset, .unset, .unset] [])) t → Steps p.tables e below (s₁.setTop (entryFrame m #[(.int p1), (.int p2), (.int p3), (.long p4), (.long p5)] maxLocals)) t := by
    intro t k
    refine pre0 t ?_
    show Steps p.tables e below (s₁.setTop (mkF m 0 #[.val (.int p1), .val (.int p2), .val (.int p3), .val (.long p4), .second, .val (.long p5), .second, .unset, .unset, .unset, .unset, .unset] [])) _
    refine XS.iloadN X0.here hx rfl (hb hby at_0) rfl ?_
    show Steps p.tables e below (s₁.setTop (mkF m 1 #[.val (.int p1), .val (.int p2), .val (.int p3), .val (.long p4), .second, .val (.long p5), .second, .unset, .unset, .unset, .unset, .unset] [(.int p1)])) _
    refine XS.iconst X0.here hx rfl (hb hby at_1) ?_
    show Steps p.tables e below (s₁.setTop (mkF m 2 #[.val (.int p1), .val (.int p2), .val (.int p3), .val (.long p4), .second, .val (.long p5), .second, .unset, .unset, .unset, .unset, .unset] [(.int (3 : Int32)), (.int p1)])) _
    refine XS.iand X0.here hx rfl (hb hby at_2) rfl ?_
    show Steps p.tables e below (s₁.setTop (mkF m 3 #[.val (.int p1), .val (.int p2), .val (.int p3), .val (.long p4), .second, .val (.long p5), .second, .unset, .unset, .unset, .unset, .unset] [(.int (p1 &&& (3 : Int32)))])) _
    refine XS.istore X0.here hx rfl (hb hby at_3) rfl (l' := #[.val (.int p1), .val (.int p2), .val (.int p3), .val (.long p4), .second, .val (.long p5), .second, .val (.int (p1 &&& (3 : Int32))), .unset, .unset, .unset, .unset]) rfl ?_
    exact k
  obtain ⟨cc, h_cc⟩ : ∃ z : Int32, z = (p1 &&& (3 : Int32)) := ⟨_, rfl⟩
  rw [← h_cc] at C139
  have hcc := own_cap p1
  rw [← h_cc] at hcc
  have C140 : ∀ t, Steps p.tables e below (s₁.setTop (mkF m 16 #[.val (.int p1), .val (.int p2), .val (.int p3), .val (.long p4), .second, .val (.long p5), .second, .val (.int cc), .val (.int ((p2 &&& (2147483647 : Int32)) - ((p2 &&& (2147483647 : Int32)) / (cc + (1 : Int32))) * (cc + (1 : Int32)))), .unset, .unset, .unset] [])) t → Steps p.tables e below (s₁.setTop (entryFrame m #[(.int p1), (.int p2), (.int p3), (.long p4), (.long p5)] maxLocals)) t := by
    intro t k
    refine C139 t ?_
    show Steps p.tables e below (s₁.setTop (mkF m 5 #[.val (.int p1), .val (.int p2), .val (.int p3), .val (.long p4), .second, .val (.long p5), .second, .val (.int cc), .unset, .unset, .unset, .unset] [])) _
    refine XS.iloadN X0.here hx rfl (hb hby at_5) rfl ?_
    show Steps p.tables e below (s₁.setTop (mkF m 6 #[.val (.int p1), .val (.int p2), .val (.int p3), .val (.long p4), .second, .val (.long p5), .second, .val (.int cc), .unset, .unset, .unset, .unset] [(.int p2)])) _
    refine X0.ldcInt hx hown (mvT hZ (hw _ (List.mem_of_getElem? (i := 0) rfl))) (g := (mkF m 6 #[.val (.int p1), .val (.int p2), .val (.int p3), .val (.long p4), .second, .val (.long p5), .second, .val (.int cc), .unset, .unset, .unset, .unset] [(.int p2)])) rfl (hb hby at_6) _ ?_
    show Steps p.tables e below (s₁.setTop (mkF m 8 #[.val (.int p1), .val (.int p2), .val (.int p3), .val (.long p4), .second, .val (.long p5), .second, .val (.int cc), .unset, .unset, .unset, .unset] [(.int (2147483647 : Int32)), (.int p2)])) _
    refine XS.iand X0.here hx rfl (hb hby at_8) rfl ?_
    show Steps p.tables e below (s₁.setTop (mkF m 9 #[.val (.int p1), .val (.int p2), .val (.int p3), .val (.long p4), .second, .val (.long p5), .second, .val (.int cc), .unset, .unset, .unset, .unset] [(.int (p2 &&& (2147483647 : Int32)))])) _
    refine XS.iload X0.here hx rfl (hb hby at_9) rfl ?_
    show Steps p.tables e below (s₁.setTop (mkF m 11 #[.val (.int p1), .val (.int p2), .val (.int p3), .val (.long p4), .second, .val (.long p5), .second, .val (.int cc), .unset, .unset, .unset, .unset] [(.int cc), (.int (p2 &&& (2147483647 : Int32)))])) _
    refine XS.iconst X0.here hx rfl (hb hby at_11) ?_
    show Steps p.tables e below (s₁.setTop (mkF m 12 #[.val (.int p1), .val (.int p2), .val (.int p3), .val (.long p4), .second, .val (.long p5), .second, .val (.int cc), .unset, .unset, .unset, .unset] [(.int (1 : Int32)), (.int cc), (.int (p2 &&& (2147483647 : Int32)))])) _
    refine XS.iadd X0.here hx rfl (hb hby at_12) rfl ?_
    show Steps p.tables e below (s₁.setTop (mkF m 13 #[.val (.int p1), .val (.int p2), .val (.int p3), .val (.long p4), .second, .val (.long p5), .second, .val (.int cc), .unset, .unset, .unset, .unset] [(.int (cc + (1 : Int32))), (.int (p2 &&& (2147483647 : Int32)))])) _
    refine XS.irem X0.here hx rfl (hb hby at_13) rfl (own_cap1 hcc) ?_
    show Steps p.tables e below (s₁.setTop (mkF m 14 #[.val (.int p1), .val (.int p2), .val (.int p3), .val (.long p4), .second, .val (.long p5), .second, .val (.int cc), .unset, .unset, .unset, .unset] [(.int ((p2 &&& (2147483647 : Int32)) - ((p2 &&& (2147483647 : Int32)) / (cc + (1 : Int32))) * (cc + (1 : Int32))))])) _
    refine XS.istore X0.here hx rfl (hb hby at_14) rfl (l' := #[.val (.int p1), .val (.int p2), .val (.int p3), .val (.long p4), .second, .val (.long p5), .second, .val (.int cc), .val (.int ((p2 &&& (2147483647 : Int32)) - ((p2 &&& (2147483647 : Int32)) / (cc + (1 : Int32))) * (cc + (1 : Int32)))), .unset, .unset, .unset]) rfl ?_
    exact k
  obtain ⟨kk, h_kk⟩ : ∃ z : Int32, z = ((p2 &&& (2147483647 : Int32)) - ((p2 &&& (2147483647 : Int32)) / (cc + (1 : Int32))) * (cc + (1 : Int32))) := ⟨_, rfl⟩
  rw [← h_kk] at C140
  have hkk : kk = (1 : Int32) := by rw [h_kk, h_cc]; exact hk
  have hkb : (1 : Int) ≤ cc.toInt := by have q := own_kle hcc p2; rw [← h_kk, hkk] at q; exact q
  obtain ⟨T141, h141, X141, e141, E141, A141, D141, -, st141⟩ := newO X0 hx hZ hown (hw _ (List.mem_of_getElem? (i := 1) rfl)) (hw _ (List.mem_of_getElem? (i := 2) rfl)) (hw _ (List.mem_of_getElem? (i := 3) rfl)) e0 (g := (mkF m 16 #[.val (.int p1), .val (.int p2), .val (.int p3), .val (.long p4), .second, .val (.long p5), .second, .val (.int cc), .val (.int kk), .unset, .unset, .unset] [])) rfl (hb hby at_16) (by decide) (by decide)
  obtain ⟨b141, g141⟩ : ∃ z, z = h0.size := ⟨_, rfl⟩
  rw [← g141] at A141 D141 st141
  have C141 : ∀ t, Steps p.tables e below (T141.setTop (mkF m 19 #[.val (.int p1), .val (.int p2), .val (.int p3), .val (.long p4), .second, .val (.long p5), .second, .val (.int cc), .val (.int kk), .unset, .unset, .unset] [(.ref b141)])) t → Steps p.tables e below (s₁.setTop (entryFrame m #[(.int p1), (.int p2), (.int p3), (.long p4), (.long p5)] maxLocals)) t := fun t k => C140 t (st141 t k)
  have F_series : Fld Z h141 b141 "com/example/bucket/bucket/ingest/PointRun" "series" "[Lcom/example/bucket/bucket/lineformat/Series;" .null := D141 (Or.inr (hw _ (List.mem_of_getElem? (i := 13) rfl))) (ty := (.array (.object "com/example/bucket/bucket/lineformat/Series"))) (by decide)
  have F_times : Fld Z h141 b141 "com/example/bucket/bucket/ingest/PointRun" "times" "[J" .null := D141 (Or.inr (hw _ (List.mem_of_getElem? (i := 16) rfl))) (ty := (.array .long)) (by decide)
  have F_values : Fld Z h141 b141 "com/example/bucket/bucket/ingest/PointRun" "values" "[D" .null := D141 (Or.inr (hw _ (List.mem_of_getElem? (i := 19) rfl))) (ty := (.array .double)) (by decide)
  have F_ends : Fld Z h141 b141 "com/example/bucket/bucket/ingest/PointRun" "ends" "[J" .null := D141 (Or.inr (hw _ (List.mem_of_getElem? (i := 21) rfl))) (ty := (.array .long)) (by decide)
  have F_size : Fld Z h141 b141 "com/example/bucket/bucket/ingest/PointRun" "size" "I" (.int 0) := D141 (Or.inl (hw _ (List.mem_of_getElem? (i := 41) rfl))) (ty := .int) (by decide)
  have F_merged : Fld Z h141 b141 "com/example/bucket/bucket/ingest/PointRun" "merged" "I" (.int 0) := D141 (Or.inl (hw _ (List.mem_of_getElem? (i := 75) rfl))) (ty := .int) (by decide)
  have Z1 : n0 ≤ h141.size := Nat.le_trans Z0 E141.1
  have g1 : n0 ≤ b141 := Nat.le_trans Z0 (Nat.le_of_eq g141.symm)
  have C142 : ∀ t, Steps p.tables e below (T141.setTop (mkF m 22 #[.val (.int p1), .val (.int p2), .val (.int p3), .val (.long p4), .second, .val (.long p5), .second, .val (.int cc), .val (.int kk), .unset, .unset, .unset] [(.int cc), (.ref b141), (.ref b141)])) t → Steps p.tables e below (s₁.setTop (entryFrame m #[(.int p1), (.int p2), (.int p3), (.long p4), (.long p5)] maxLocals)) t := by
    intro t k
    refine C141 t ?_
    show Steps p.tables e below (T141.setTop (mkF m 19 #[.val (.int p1), .val (.int p2), .val (.int p3), .val (.long p4), .second, .val (.long p5), .second, .val (.int cc), .val (.int kk), .unset, .unset, .unset] [(.ref b141)])) _
    refine XS.dup X141.here hx rfl (hb hby at_19) rfl rfl ?_
    show Steps p.tables e below (T141.setTop (mkF m 20 #[.val (.int p1), .val (.int p2), .val (.int p3), .val (.long p4), .second, .val (.long p5), .second, .val (.int cc), .val (.int kk), .unset, .unset, .unset] [(.ref b141), (.ref b141)])) _
    refine XS.iload X141.here hx rfl (hb hby at_20) rfl ?_
    exact k
  obtain ⟨_, _, ⟨T143, L143, k143, n143⟩, -, X143, ⟨Lc143, hQ143, l143, y143, z143⟩, st143⟩ := X141.specialBack hx (y := (⟨"com/example/bucket/bucket/ingest/PointRun", "<init>", "(I)V"⟩ : MethodName)) rfl hown (mvT hZ (hw _ (List.mem_of_getElem? (i := 4) rfl))) (mvT hZ (hw _ (List.mem_of_getElem? (i := 5) rfl))) (mvT hZ (hw _ (List.mem_of_getElem? (i := 6) rfl))) (by decide) (backOf (W := 1) (rm1 l Z a0 hw [] b141 cc h141 n0 Z1 F_series F_times F_values F_ends F_size F_merged A141 g1 hcc.1 hcc.2.2) hZ (hw _ (List.mem_of_getElem? (i := 6) rfl)) (hw _ (List.mem_of_getElem? (i := 3) rfl)) (by decide) (by decide)) (g := (mkF m 22 #[.val (.int p1), .val (.int p2), .val (.int p3), .val (.long p4), .second, .val (.long p5), .second, .val (.int cc), .val (.int kk), .unset, .unset, .unset] [(.int cc), (.ref b141), (.ref b141)])) rfl (by rw [hml]; rfl) (Steps.refl _) (a := b141) (argsL := [(.int cc)]) (rest := [(.ref b141)]) (lenOf pd5 rfl) rfl (by show 2 * 0 + _ ≤ _; exact Nat.le_of_eq rfl) (hb hby at_22) (fun _ _ => ⟨rfl, e141, (by decide : 1 + 4 ≤ _), (by decide : 6 + 12 ≤ _)⟩)
  dsimp only [Pt.U, Pt.locs, Pt.cells, Pt.slots] at X143 l143 y143 z143 st143 hQ143
  subst l143 y143 z143
  obtain ⟨rfl, N143q, sa, ta, va, ea, P143, K143, fs, ft, fv, fe⟩ := hQ143
  have N143 := Fr.app N0 N143q
  have C143 : ∀ t, Steps p.tables e below (T143.setTop (mkF m 25 #[.val (.int p1), .val (.int p2), .val (.int p3), .val (.long p4), .second, .val (.long p5), .second, .val (.int cc), .val (.int kk), .unset, .unset, .unset] [(.ref b141)])) t → Steps p.tables e below (s₁.setTop (entryFrame m #[(.int p1), (.int p2), (.int p3), (.long p4), (.long p5)] maxLocals)) t := fun t k => C142 t (st143.trans k)
  have Z2 : n0 ≤ T143.heap.size := Nat.le_trans Z1 K143.1
  have gs := Nat.le_trans Z1 fs
  have gt := Nat.le_trans Z1 ft
  have gv := Nat.le_trans Z1 fv
  have ge := Nat.le_trans Z1 fe
  have C144 : ∀ t, Steps p.tables e below (T143.setTop (mkF m 27 #[.val (.int p1), .val (.int p2), .val (.int p3), .val (.long p4), .second, .val (.long p5), .second, .val (.int cc), .val (.int kk), .val (.ref b141), .unset, .unset] [])) t → Steps p.tables e below (s₁.setTop (entryFrame m #[(.int p1), (.int p2), (.int p3), (.long p4), (.long p5)] maxLocals)) t := by
    intro t k
    refine C143 t ?_
    show Steps p.tables e below (T143.setTop (mkF m 25 #[.val (.int p1), .val (.int p2), .val (.int p3), .val (.long p4), .second, .val (.long p5), .second, .val (.int cc), .val (.int kk), .unset, .unset, .unset] [(.ref b141)])) _
    refine XS.astore X143.here hx rfl (hb hby at_25) rfl rfl (l' := #[.val (.int p1), .val (.int p2), .val (.int p3), .val (.long p4), .second, .val (.long p5), .second, .val (.int cc), .val (.int kk), .val (.ref b141), .unset, .unset]) rfl ?_
    exact k
  obtain ⟨T145, h145, X145, e145, E145, A145, D145, -, st145⟩ := newO X143 hx hZ hown (hw _ (List.mem_of_getElem? (i := 22) rfl)) (hw _ (List.mem_of_getElem? (i := 23) rfl)) (hw _ (List.mem_of_getElem? (i := 24) rfl)) rfl (g := (mkF m 27 #[.val (.int p1), .val (.int p2), .val (.int p3), .val (.long p4), .second, .val (.long p5), .second, .val (.int cc), .val (.int kk), .val (.ref b141), .unset, .unset] [])) rfl (hb hby at_27) (by decide) (by decide)
  obtain ⟨b145, g145⟩ : ∃ z, z = T143.heap.size := ⟨_, rfl⟩
  rw [← g145] at A145 D145 st145
  have C145 : ∀ t, Steps p.tables e below (T145.setTop (mkF m 30 #[.val (.int p1), .val (.int p2), .val (.int p3), .val (.long p4), .second, .val (.long p5), .second, .val (.int cc), .val (.int kk), .val (.ref b141), .unset, .unset] [(.ref b145)])) t → Steps p.tables e below (s₁.setTop (entryFrame m #[(.int p1), (.int p2), (.int p3), (.long p4), (.long p5)] maxLocals)) t := fun t k => C144 t (st145 t k)
  have G_series : Fld Z h145 b145 "com/example/bucket/bucket/lineformat/Point" "series" "Lcom/example/bucket/bucket/lineformat/Series;" .null := D145 (Or.inr (hw _ (List.mem_of_getElem? (i := 30) rfl))) (ty := (.object "com/example/bucket/bucket/lineformat/Series")) (by decide)
  have G_time : Fld Z h145 b145 "com/example/bucket/bucket/lineformat/Point" "time" "J" (.long 0) := D145 (Or.inr (hw _ (List.mem_of_getElem? (i := 32) rfl))) (ty := .long) (by decide)
  have G_value : Fld Z h145 b145 "com/example/bucket/bucket/lineformat/Point" "value" "D" (.double 0) := D145 (Or.inr (hw _ (List.mem_of_getElem? (i := 34) rfl))) (ty := .double) (by decide)
  have Z3 : n0 ≤ h145.size := Nat.le_trans Z2 E145.1
  have g2 : n0 ≤ b145 := Nat.le_trans Z2 (Nat.le_of_eq g145.symm)
  have C146 : ∀ t, Steps p.tables e below (T145.setTop (mkF m 39 #[.val (.int p1), .val (.int p2), .val (.int p3), .val (.long p4), .second, .val (.long p5), .second, .val (.int cc), .val (.int kk), .val (.ref b141), .unset, .unset] [(.double (FP.i2d (p3 &&& (255 : Int32)))), (.long p4), .null, (.ref b145), (.ref b145)])) t → Steps p.tables e below (s₁.setTop (entryFrame m #[(.int p1), (.int p2), (.int p3), (.long p4), (.long p5)] maxLocals)) t := by
    intro t k
    refine C145 t ?_
    show Steps p.tables e below (T145.setTop (mkF m 30 #[.val (.int p1), .val (.int p2), .val (.int p3), .val (.long p4), .second, .val (.long p5), .second, .val (.int cc), .val (.int kk), .val (.ref b141), .unset, .unset] [(.ref b145)])) _
    refine XS.dup X145.here hx rfl (hb hby at_30) rfl rfl ?_
    show Steps p.tables e below (T145.setTop (mkF m 31 #[.val (.int p1), .val (.int p2), .val (.int p3), .val (.long p4), .second, .val (.long p5), .second, .val (.int cc), .val (.int kk), .val (.ref b141), .unset, .unset] [(.ref b145), (.ref b145)])) _
    refine XS.aconstNull X145.here hx rfl (hb hby at_31) ?_
    show Steps p.tables e below (T145.setTop (mkF m 32 #[.val (.int p1), .val (.int p2), .val (.int p3), .val (.long p4), .second, .val (.long p5), .second, .val (.int cc), .val (.int kk), .val (.ref b141), .unset, .unset] [.null, (.ref b145), (.ref b145)])) _
    refine XS.lloadN X145.here hx rfl (hb hby at_32) rfl ?_
    show Steps p.tables e below (T145.setTop (mkF m 33 #[.val (.int p1), .val (.int p2), .val (.int p3), .val (.long p4), .second, .val (.long p5), .second, .val (.int cc), .val (.int kk), .val (.ref b141), .unset, .unset] [(.long p4), .null, (.ref b145), (.ref b145)])) _
    refine XS.iloadN X145.here hx rfl (hb hby at_33) rfl ?_
    show Steps p.tables e below (T145.setTop (mkF m 34 #[.val (.int p1), .val (.int p2), .val (.int p3), .val (.long p4), .second, .val (.long p5), .second, .val (.int cc), .val (.int kk), .val (.ref b141), .unset, .unset] [(.int p3), (.long p4), .null, (.ref b145), (.ref b145)])) _
    refine XS.sipush X145.here hx rfl (hb hby at_34) ?_
    show Steps p.tables e below (T145.setTop (mkF m 37 #[.val (.int p1), .val (.int p2), .val (.int p3), .val (.long p4), .second, .val (.long p5), .second, .val (.int cc), .val (.int kk), .val (.ref b141), .unset, .unset] [(.int (255 : Int32)), (.int p3), (.long p4), .null, (.ref b145), (.ref b145)])) _
    refine XS.iand X145.here hx rfl (hb hby at_37) rfl ?_
    show Steps p.tables e below (T145.setTop (mkF m 38 #[.val (.int p1), .val (.int p2), .val (.int p3), .val (.long p4), .second, .val (.long p5), .second, .val (.int cc), .val (.int kk), .val (.ref b141), .unset, .unset] [(.int (p3 &&& (255 : Int32))), (.long p4), .null, (.ref b145), (.ref b145)])) _
    refine XS.i2dS X145.here hx rfl (hb hby at_38) rfl rfl ?_
    exact k
  obtain ⟨_, _, ⟨T147, L147, k147, n147⟩, -, X147, ⟨Lc147, hQ147, l147, y147, z147⟩, st147⟩ := X145.specialBack hx (y := (⟨"com/example/bucket/bucket/lineformat/Point", "<init>", "(Lcom/example/bucket/bucket/lineformat/Series;JD)V"⟩ : MethodName)) rfl hown (mvT hZ (hw _ (List.mem_of_getElem? (i := 25) rfl))) (mvT hZ (hw _ (List.mem_of_getElem? (i := 26) rfl))) (mvT hZ (hw _ (List.mem_of_getElem? (i := 27) rfl))) (by decide) (backOf (W := 1) (rm3 l Z a0 hw [] b145 p4 (FP.i2d (p3 &&& (255 : Int32))) h145 n0 Z3 G_series G_time G_value A145 g2) hZ (hw _ (List.mem_of_getElem? (i := 27) rfl)) (hw _ (List.mem_of_getElem? (i := 24) rfl)) (by decide) (by decide)) (g := (mkF m 39 #[.val (.int p1), .val (.int p2), .val (.int p3), .val (.long p4), .second, .val (.long p5), .second, .val (.int cc), .val (.int kk), .val (.ref b141), .unset, .unset] [(.double (FP.i2d (p3 &&& (255 : Int32)))), (.long p4), .null, (.ref b145), (.ref b145)])) rfl (by rw [hml]; rfl) (Steps.refl _) (a := b145) (argsL := [.null, (.long p4), (.double (FP.i2d (p3 &&& (255 : Int32))))]) (rest := [(.ref b145)]) (lenOf pd6 rfl) rfl (by show 2 * 0 + _ ≤ _; exact Nat.le_of_eq rfl) (hb hby at_39) (fun _ _ => ⟨rfl, e145, (by decide : 6 + 0 ≤ _), (by decide : 21 + 0 ≤ _)⟩)
  dsimp only [Pt.U, Pt.locs, Pt.cells, Pt.slots] at X147 l147 y147 z147 st147 hQ147
  subst l147 y147 z147
  obtain ⟨rfl, N147q, Q147, K147⟩ := hQ147
  have N147 := Fr.app N143 N147q
  have C147 : ∀ t, Steps p.tables e below (T147.setTop (mkF m 42 #[.val (.int p1), .val (.int p2), .val (.int p3), .val (.long p4), .second, .val (.long p5), .second, .val (.int cc), .val (.int kk), .val (.ref b141), .unset, .unset] [(.ref b145)])) t → Steps p.tables e below (s₁.setTop (entryFrame m #[(.int p1), (.int p2), (.int p3), (.long p4), (.long p5)] maxLocals)) t := fun t k => C146 t (st147.trans k)
  have Z4 : n0 ≤ T147.heap.size := Nat.le_trans Z3 K147.1
  have PA : OwnP Z T147.heap b141 sa ta va ea cc.toNatClampNeg 0 := (P143.ext E145).keep K147 (own_nin1 (own_natne (by have := own_natlt P143.lt.1; omega)))
  obtain ⟨r0, hr0⟩ : ∃ r : Int32, ((0 : Int32) = cc ∧ r = 1) ∨ (¬ (0 : Int32) = cc ∧ r = 0) := by
    by_cases q : (0 : Int32) = cc
    · exact ⟨1, Or.inl ⟨q, rfl⟩⟩
    · exact ⟨0, Or.inr ⟨q, rfl⟩⟩
  have C148 : ∀ t, Steps p.tables e below (T147.setTop (mkF m 46 #[.val (.int p1), .val (.int p2), .val (.int p3), .val (.long p4), .second, .val (.long p5), .second, .val (.int cc), .val (.int kk), .val (.ref b141), .val (.ref b145), .unset] [(.ref b141)])) t → Steps p.tables e below (s₁.setTop (entryFrame m #[(.int p1), (.int p2), (.int p3), (.long p4), (.long p5)] maxLocals)) t := by
    intro t k
    refine C147 t ?_
    show Steps p.tables e below (T147.setTop (mkF m 42 #[.val (.int p1), .val (.int p2), .val (.int p3), .val (.long p4), .second, .val (.long p5), .second, .val (.int cc), .val (.int kk), .val (.ref b141), .unset, .unset] [(.ref b145)])) _
    refine XS.astore X147.here hx rfl (hb hby at_42) rfl rfl (l' := #[.val (.int p1), .val (.int p2), .val (.int p3), .val (.long p4), .second, .val (.long p5), .second, .val (.int cc), .val (.int kk), .val (.ref b141), .val (.ref b145), .unset]) rfl ?_
    show Steps p.tables e below (T147.setTop (mkF m 44 #[.val (.int p1), .val (.int p2), .val (.int p3), .val (.long p4), .second, .val (.long p5), .second, .val (.int cc), .val (.int kk), .val (.ref b141), .val (.ref b145), .unset] [])) _
    refine XS.aload X147.here hx rfl (hb hby at_44) rfl rfl ?_
    exact k
  obtain ⟨cq149, kq149, q149a, q149b, q149c⟩ := isOf hZ rfl PA.1
  obtain ⟨_, _, ⟨T149, L149, k149, n149⟩, -, X149, ⟨Lc149, hQ149, l149, y149, z149⟩, st149⟩ := X147.virtualBack hx (y := (⟨"com/example/bucket/bucket/ingest/PointRun", "isFull", "()Z"⟩ : MethodName)) (z := (⟨"com/example/bucket/bucket/ingest/PointRun", "isFull", "()Z"⟩ : MethodName)) hown (mvT hZ (hw _ (List.mem_of_getElem? (i := 35) rfl))) (mvT hZ (hw _ (List.mem_of_getElem? (i := 36) rfl))) (notFace_of_selects (args := #[]) (mvT hZ (hw _ (List.mem_of_getElem? (i := 38) rfl)))) (mvT hZ (hw _ (List.mem_of_getElem? (i := 38) rfl))) (mvT hZ (hw _ (List.mem_of_getElem? (i := 37) rfl))) (by decide) (backOf (W := 0) (rm4 l Z a0 hw [] b141 sa ta va ea cc (0 : Int32) r0 T147.heap n0 Z4 PA hcc.1 hr0) hZ (hw _ (List.mem_of_getElem? (i := 39) rfl)) (hw _ (List.mem_of_getElem? (i := 3) rfl)) (by decide) (by decide)) q149a q149c (g := (mkF m 46 #[.val (.int p1), .val (.int p2), .val (.int p3), .val (.long p4), .second, .val (.long p5), .second, .val (.int cc), .val (.int kk), .val (.ref b141), .val (.ref b145), .unset] [(.ref b141)])) rfl (by rw [hml]; rfl) (Steps.refl _) (argsL := []) (rest := []) (lenOf pd7 rfl) rfl (by show 2 * 0 + _ ≤ _; exact Nat.le_of_eq rfl) (hb hby at_46) (fun _ _ => ⟨rfl, rfl, (by decide : 6 + 0 ≤ _), (by decide : 21 + 0 ≤ _)⟩)
  dsimp only [Pt.U, Pt.locs, Pt.cells, Pt.slots] at X149 l149 y149 z149 st149 hQ149
  subst l149 y149 z149
  obtain ⟨rfl, N149q, q149⟩ := hQ149
  have N149 := Fr.app N147 N149q
  have C149 : ∀ t, Steps p.tables e below (T149.setTop (mkF m 49 #[.val (.int p1), .val (.int p2), .val (.int p3), .val (.long p4), .second, .val (.long p5), .second, .val (.int cc), .val (.int kk), .val (.ref b141), .val (.ref b145), .unset] [(.int r0)])) t → Steps p.tables e below (s₁.setTop (entryFrame m #[(.int p1), (.int p2), (.int p3), (.long p4), (.long p5)] maxLocals)) t := fun t k => C148 t (st149.trans k)
  have C150 : ∀ t, Steps p.tables e below (T149.setTop (mkF m 51 #[.val (.int p1), .val (.int p2), .val (.int p3), .val (.long p4), .second, .val (.long p5), .second, .val (.int cc), .val (.int kk), .val (.ref b141), .val (.ref b145), .unset] [(.int cc), (.int r0)])) t → Steps p.tables e below (s₁.setTop (entryFrame m #[(.int p1), (.int p2), (.int p3), (.long p4), (.long p5)] maxLocals)) t := by
    intro t k
    refine C149 t ?_
    show Steps p.tables e below (T149.setTop (mkF m 49 #[.val (.int p1), .val (.int p2), .val (.int p3), .val (.long p4), .second, .val (.long p5), .second, .val (.int cc), .val (.int kk), .val (.ref b141), .val (.ref b145), .unset] [(.int r0)])) _
    refine XS.iload X149.here hx rfl (hb hby at_49) rfl ?_
    exact k
  have CC0 : ∀ t, Steps p.tables e below (T149.setTop (mkF m 67 #[.val (.int p1), .val (.int p2), .val (.int p3), .val (.long p4), .second, .val (.long p5), .second, .val (.int cc), .val (.int kk), .val (.ref b141), .val (.ref b145), .unset] [(.int (1 : Int32))])) t → Steps p.tables e below (s₁.setTop (entryFrame m #[(.int p1), (.int p2), (.int p3), (.long p4), (.long p5)] maxLocals)) t := by
    rcases hr0 with ⟨hc, er⟩ | ⟨hc, er⟩
    · intro t k
      refine C150 t ?_
      show Steps p.tables e below (T149.setTop (mkF m 51 #[.val (.int p1), .val (.int p2), .val (.int p3), .val (.long p4), .second, .val (.long p5), .second, .val (.int cc), .val (.int kk), .val (.ref b141), .val (.ref b145), .unset] [(.int cc), (.int r0)])) _
      refine XS.ifNo X149.here hx rfl (hb hby at_51) rfl (XT.i0_ne_f (by rw [← hc])) ?_
      show Steps p.tables e below (T149.setTop (mkF m 54 #[.val (.int p1), .val (.int p2), .val (.int p3), .val (.long p4), .second, .val (.long p5), .second, .val (.int cc), .val (.int kk), .val (.ref b141), .val (.ref b145), .unset] [(.int r0)])) _
      refine XS.iconst X149.here hx rfl (hb hby at_54) ?_
      show Steps p.tables e below (T149.setTop (mkF m 55 #[.val (.int p1), .val (.int p2), .val (.int p3), .val (.long p4), .second, .val (.long p5), .second, .val (.int cc), .val (.int kk), .val (.ref b141), .val (.ref b145), .unset] [(.int (1 : Int32)), (.int r0)])) _
      refine XS.goto X149.here hx rfl (pc0 := 55) (pc' := 59) rfl (hb hby at_55) (by decide) (by decide) ?_
      show Steps p.tables e below (T149.setTop (mkF m 59 #[.val (.int p1), .val (.int p2), .val (.int p3), .val (.long p4), .second, .val (.long p5), .second, .val (.int cc), .val (.int kk), .val (.ref b141), .val (.ref b145), .unset] [(.int (1 : Int32)), (.int r0)])) _
      refine XS.icmpNo X149.here hx rfl (hb hby at_59) rfl (XT.ii_ne_f er) ?_
      show Steps p.tables e below (T149.setTop (mkF m 62 #[.val (.int p1), .val (.int p2), .val (.int p3), .val (.long p4), .second, .val (.long p5), .second, .val (.int cc), .val (.int kk), .val (.ref b141), .val (.ref b145), .unset] [])) _
      refine XS.iconst X149.here hx rfl (hb hby at_62) ?_
      show Steps p.tables e below (T149.setTop (mkF m 63 #[.val (.int p1), .val (.int p2), .val (.int p3), .val (.long p4), .second, .val (.long p5), .second, .val (.int cc), .val (.int kk), .val (.ref b141), .val (.ref b145), .unset] [(.int (1 : Int32))])) _
      refine XS.goto X149.here hx rfl (pc0 := 63) (pc' := 67) rfl (hb hby at_63) (by decide) (by decide) ?_
      exact k
    · intro t k
      refine C150 t ?_
      show Steps p.tables e below (T149.setTop (mkF m 51 #[.val (.int p1), .val (.int p2), .val (.int p3), .val (.long p4), .second, .val (.long p5), .second, .val (.int cc), .val (.int kk), .val (.ref b141), .val (.ref b145), .unset] [(.int cc), (.int r0)])) _
      refine XS.ifYes X149.here hx rfl (pc0 := 51) (pc' := 58) rfl (hb hby at_51) rfl (XT.i0_ne_t (fun q => hc q.symm)) (by decide) (by decide) ?_
      show Steps p.tables e below (T149.setTop (mkF m 58 #[.val (.int p1), .val (.int p2), .val (.int p3), .val (.long p4), .second, .val (.long p5), .second, .val (.int cc), .val (.int kk), .val (.ref b141), .val (.ref b145), .unset] [(.int r0)])) _
      refine XS.iconst X149.here hx rfl (hb hby at_58) ?_
      show Steps p.tables e below (T149.setTop (mkF m 59 #[.val (.int p1), .val (.int p2), .val (.int p3), .val (.long p4), .second, .val (.long p5), .second, .val (.int cc), .val (.int kk), .val (.ref b141), .val (.ref b145), .unset] [(.int (0 : Int32)), (.int r0)])) _
      refine XS.icmpNo X149.here hx rfl (hb hby at_59) rfl (XT.ii_ne_f er) ?_
      show Steps p.tables e below (T149.setTop (mkF m 62 #[.val (.int p1), .val (.int p2), .val (.int p3), .val (.long p4), .second, .val (.long p5), .second, .val (.int cc), .val (.int kk), .val (.ref b141), .val (.ref b145), .unset] [])) _
      refine XS.iconst X149.here hx rfl (hb hby at_62) ?_
      show Steps p.tables e below (T149.setTop (mkF m 63 #[.val (.int p1), .val (.int p2), .val (.int p3), .val (.long p4), .second, .val (.long p5), .second, .val (.int cc), .val (.int kk), .val (.ref b141), .val (.ref b145), .unset] [(.int (1 : Int32))])) _
      refine XS.goto X149.here hx rfl (pc0 := 63) (pc' := 67) rfl (hb hby at_63) (by decide) (by decide) ?_
      exact k
  have C151 : ∀ t, Steps p.tables e below (T149.setTop (mkF m 81 #[.val (.int p1), .val (.int p2), .val (.int p3), .val (.long p4), .second, .val (.long p5), .second, .val (.int cc), .val (.int kk), .val (.ref b141), .val (.ref b145), .val (.int (1 : Int32))] [(.long p5), (.ref b145), (.ref b141)])) t → Steps p.tables e below (s₁.setTop (entryFrame m #[(.int p1), (.int p2), (.int p3), (.long p4), (.long p5)] maxLocals)) t := by
    intro t k
    refine CC0 t ?_
    show Steps p.tables e below (T149.setTop (mkF m 67 #[.val (.int p1), .val (.int p2), .val (.int p3), .val (.long p4), .second, .val (.long p5), .second, .val (.int cc), .val (.int kk), .val (.ref b141), .val (.ref b145), .unset] [(.int (1 : Int32))])) _
    refine XS.istore X149.here hx rfl (hb hby at_67) rfl (l' := #[.val (.int p1), .val (.int p2), .val (.int p3), .val (.long p4), .second, .val (.long p5), .second, .val (.int cc), .val (.int kk), .val (.ref b141), .val (.ref b145), .val (.int (1 : Int32))]) rfl ?_
    show Steps p.tables e below (T149.setTop (mkF m 69 #[.val (.int p1), .val (.int p2), .val (.int p3), .val (.long p4), .second, .val (.long p5), .second, .val (.int cc), .val (.int kk), .val (.ref b141), .val (.ref b145), .val (.int (1 : Int32))] [])) _
    refine XS.iload X149.here hx rfl (hb hby at_69) rfl ?_
    show Steps p.tables e below (T149.setTop (mkF m 71 #[.val (.int p1), .val (.int p2), .val (.int p3), .val (.long p4), .second, .val (.long p5), .second, .val (.int cc), .val (.int kk), .val (.ref b141), .val (.ref b145), .val (.int (1 : Int32))] [(.int kk)])) _
    refine XS.iconst X149.here hx rfl (hb hby at_71) ?_
    show Steps p.tables e below (T149.setTop (mkF m 72 #[.val (.int p1), .val (.int p2), .val (.int p3), .val (.long p4), .second, .val (.long p5), .second, .val (.int cc), .val (.int kk), .val (.ref b141), .val (.ref b145), .val (.int (1 : Int32))] [(.int (1 : Int32)), (.int kk)])) _
    refine XS.icmpNo X149.here hx rfl (hb hby at_72) rfl (XT.ii_lt_f (by rw [hkk]; decide)) ?_
    show Steps p.tables e below (T149.setTop (mkF m 75 #[.val (.int p1), .val (.int p2), .val (.int p3), .val (.long p4), .second, .val (.long p5), .second, .val (.int cc), .val (.int kk), .val (.ref b141), .val (.ref b145), .val (.int (1 : Int32))] [])) _
    refine XS.aload X149.here hx rfl (hb hby at_75) rfl rfl ?_
    show Steps p.tables e below (T149.setTop (mkF m 77 #[.val (.int p1), .val (.int p2), .val (.int p3), .val (.long p4), .second, .val (.long p5), .second, .val (.int cc), .val (.int kk), .val (.ref b141), .val (.ref b145), .val (.int (1 : Int32))] [(.ref b141)])) _
    refine XS.aload X149.here hx rfl (hb hby at_77) rfl rfl ?_
    show Steps p.tables e below (T149.setTop (mkF m 79 #[.val (.int p1), .val (.int p2), .val (.int p3), .val (.long p4), .second, .val (.long p5), .second, .val (.int cc), .val (.int kk), .val (.ref b141), .val (.ref b145), .val (.int (1 : Int32))] [(.ref b145), (.ref b141)])) _
    refine XS.lload X149.here hx rfl (hb hby at_79) rfl ?_
    exact k
  obtain ⟨cq152, kq152, q152a, q152b, q152c⟩ := isOf hZ q149 PA.1
  obtain ⟨_, _, ⟨T152, L152, k152, n152⟩, -, X152, ⟨Lc152, hQ152, l152, y152, z152⟩, st152⟩ := X149.virtualBack hx (y := (⟨"com/example/bucket/bucket/ingest/PointRun", "add", "(Lcom/example/bucket/bucket/lineformat/Point;J)V"⟩ : MethodName)) (z := (⟨"com/example/bucket/bucket/ingest/PointRun", "add", "(Lcom/example/bucket/bucket/lineformat/Point;J)V"⟩ : MethodName)) hown (mvT hZ (hw _ (List.mem_of_getElem? (i := 42) rfl))) (mvT hZ (hw _ (List.mem_of_getElem? (i := 43) rfl))) (notFace_of_selects (args := #[]) (mvT hZ (hw _ (List.mem_of_getElem? (i := 45) rfl)))) (mvT hZ (hw _ (List.mem_of_getElem? (i := 45) rfl))) (mvT hZ (hw _ (List.mem_of_getElem? (i := 44) rfl))) (by decide) (backOf (W := 0) (rm5 l Z a0 hw [] b141 b145 p5 sa ta va ea cc.toNatClampNeg 0 1 p4 (FP.i2d (p3 &&& (255 : Int32))) T147.heap n0 Z4 PA Q147 (own_room hkb (by decide)) (by decide) g1 gs gt gv ge) hZ (hw _ (List.mem_of_getElem? (i := 46) rfl)) (hw _ (List.mem_of_getElem? (i := 3) rfl)) (by decide) (by decide)) q152a q152c (g := (mkF m 81 #[.val (.int p1), .val (.int p2), .val (.int p3), .val (.long p4), .second, .val (.long p5), .second, .val (.int cc), .val (.int kk), .val (.ref b141), .val (.ref b145), .val (.int (1 : Int32))] [(.long p5), (.ref b145), (.ref b141)])) rfl (by rw [hml]; rfl) (Steps.refl _) (argsL := [(.ref b145), (.long p5)]) (rest := []) (lenOf pd9 rfl) rfl (by show 2 * 0 + _ ≤ _; exact Nat.le_of_eq rfl) (hb hby at_81) (fun _ _ => ⟨rfl, q149, (by decide : 6 + 0 ≤ _), (by decide : 21 + 0 ≤ _)⟩)
  dsimp only [Pt.U, Pt.locs, Pt.cells, Pt.slots] at X152 l152 y152 z152 st152 hQ152
  subst l152 y152 z152
  obtain ⟨rfl, N152q, P152, Q152, s152⟩ := hQ152
  have N152 := Fr.app N149 N152q
  have C152 : ∀ t, Steps p.tables e below (T152.setTop (mkF m 84 #[.val (.int p1), .val (.int p2), .val (.int p3), .val (.long p4), .second, .val (.long p5), .second, .val (.int cc), .val (.int kk), .val (.ref b141), .val (.ref b145), .val (.int (1 : Int32))] [])) t → Steps p.tables e below (s₁.setTop (entryFrame m #[(.int p1), (.int p2), (.int p3), (.long p4), (.long p5)] maxLocals)) t := fun t k => C151 t (st152.trans k)
  have ZZ152 : n0 ≤ T152.heap.size := Nat.le_trans Z4 s152
  obtain ⟨r1, hr1⟩ : ∃ r : Int32, ((1 : Int32) = cc ∧ r = 1) ∨ (¬ (1 : Int32) = cc ∧ r = 0) := by
    by_cases q : (1 : Int32) = cc
    · exact ⟨1, Or.inl ⟨q, rfl⟩⟩
    · exact ⟨0, Or.inr ⟨q, rfl⟩⟩
  have C153 : ∀ t, Steps p.tables e below (T152.setTop (mkF m 88 #[.val (.int p1), .val (.int p2), .val (.int p3), .val (.long p4), .second, .val (.long p5), .second, .val (.int cc), .val (.int kk), .val (.ref b141), .val (.ref b145), .val (.int (1 : Int32))] [(.ref b141), (.int (1 : Int32))])) t → Steps p.tables e below (s₁.setTop (entryFrame m #[(.int p1), (.int p2), (.int p3), (.long p4), (.long p5)] maxLocals)) t := by
    intro t k
    refine C152 t ?_
    show Steps p.tables e below (T152.setTop (mkF m 84 #[.val (.int p1), .val (.int p2), .val (.int p3), .val (.long p4), .second, .val (.long p5), .second, .val (.int cc), .val (.int kk), .val (.ref b141), .val (.ref b145), .val (.int (1 : Int32))] [])) _
    refine XS.iload X152.here hx rfl (hb hby at_84) rfl ?_
    show Steps p.tables e below (T152.setTop (mkF m 86 #[.val (.int p1), .val (.int p2), .val (.int p3), .val (.long p4), .second, .val (.long p5), .second, .val (.int cc), .val (.int kk), .val (.ref b141), .val (.ref b145), .val (.int (1 : Int32))] [(.int (1 : Int32))])) _
    refine XS.aload X152.here hx rfl (hb hby at_86) rfl rfl ?_
    exact k
  obtain ⟨cq154, kq154, q154a, q154b, q154c⟩ := isOf hZ rfl P152.1
  obtain ⟨_, _, ⟨T154, L154, k154, n154⟩, -, X154, ⟨Lc154, hQ154, l154, y154, z154⟩, st154⟩ := X152.virtualBack hx (y := (⟨"com/example/bucket/bucket/ingest/PointRun", "isFull", "()Z"⟩ : MethodName)) (z := (⟨"com/example/bucket/bucket/ingest/PointRun", "isFull", "()Z"⟩ : MethodName)) hown (mvT hZ (hw _ (List.mem_of_getElem? (i := 35) rfl))) (mvT hZ (hw _ (List.mem_of_getElem? (i := 36) rfl))) (notFace_of_selects (args := #[]) (mvT hZ (hw _ (List.mem_of_getElem? (i := 38) rfl)))) (mvT hZ (hw _ (List.mem_of_getElem? (i := 38) rfl))) (mvT hZ (hw _ (List.mem_of_getElem? (i := 37) rfl))) (by decide) (backOf (W := 1) (rm4 l Z a0 hw [] b141 sa ta va ea cc (1 : Int32) r1 T152.heap n0 ZZ152 P152 hcc.1 hr1) hZ (hw _ (List.mem_of_getElem? (i := 39) rfl)) (hw _ (List.mem_of_getElem? (i := 3) rfl)) (by decide) (by decide)) q154a q154c (g := (mkF m 88 #[.val (.int p1), .val (.int p2), .val (.int p3), .val (.long p4), .second, .val (.long p5), .second, .val (.int cc), .val (.int kk), .val (.ref b141), .val (.ref b145), .val (.int (1 : Int32))] [(.ref b141), (.int (1 : Int32))])) rfl (by rw [hml]; rfl) (Steps.refl _) (argsL := []) (rest := [(.int (1 : Int32))]) (lenOf pd7 rfl) rfl (by show 2 * 0 + _ ≤ _; exact Nat.le_of_eq rfl) (hb hby at_88) (fun _ _ => ⟨rfl, rfl, (by decide : 6 + 0 ≤ _), (by decide : 21 + 0 ≤ _)⟩)
  dsimp only [Pt.U, Pt.locs, Pt.cells, Pt.slots] at X154 l154 y154 z154 st154 hQ154
  subst l154 y154 z154
  obtain ⟨rfl, N154q, q154⟩ := hQ154
  have N154 := Fr.app N152 N154q
  have C154 : ∀ t, Steps p.tables e below (T154.setTop (mkF m 91 #[.val (.int p1), .val (.int p2), .val (.int p3), .val (.long p4), .second, .val (.long p5), .second, .val (.int cc), .val (.int kk), .val (.ref b141), .val (.ref b145), .val (.int (1 : Int32))] [(.int r1), (.int (1 : Int32))])) t → Steps p.tables e below (s₁.setTop (entryFrame m #[(.int p1), (.int p2), (.int p3), (.long p4), (.long p5)] maxLocals)) t := fun t k => C153 t (st154.trans k)
  have C155 : ∀ t, Steps p.tables e below (T154.setTop (mkF m 94 #[.val (.int p1), .val (.int p2), .val (.int p3), .val (.long p4), .second, .val (.long p5), .second, .val (.int cc), .val (.int kk), .val (.ref b141), .val (.ref b145), .val (.int (1 : Int32))] [(.int (1 : Int32)), (.int cc), (.int r1), (.int (1 : Int32))])) t → Steps p.tables e below (s₁.setTop (entryFrame m #[(.int p1), (.int p2), (.int p3), (.long p4), (.long p5)] maxLocals)) t := by
    intro t k
    refine C154 t ?_
    show Steps p.tables e below (T154.setTop (mkF m 91 #[.val (.int p1), .val (.int p2), .val (.int p3), .val (.long p4), .second, .val (.long p5), .second, .val (.int cc), .val (.int kk), .val (.ref b141), .val (.ref b145), .val (.int (1 : Int32))] [(.int r1), (.int (1 : Int32))])) _
    refine XS.iload X154.here hx rfl (hb hby at_91) rfl ?_
    show Steps p.tables e below (T154.setTop (mkF m 93 #[.val (.int p1), .val (.int p2), .val (.int p3), .val (.long p4), .second, .val (.long p5), .second, .val (.int cc), .val (.int kk), .val (.ref b141), .val (.ref b145), .val (.int (1 : Int32))] [(.int cc), (.int r1), (.int (1 : Int32))])) _
    refine XS.iconst X154.here hx rfl (hb hby at_93) ?_
    exact k
  have CC1 : ∀ t, Steps p.tables e below (T154.setTop (mkF m 110 #[.val (.int p1), .val (.int p2), .val (.int p3), .val (.long p4), .second, .val (.long p5), .second, .val (.int cc), .val (.int kk), .val (.ref b141), .val (.ref b145), .val (.int (1 : Int32))] [(.int (1 : Int32)), (.int (1 : Int32))])) t → Steps p.tables e below (s₁.setTop (entryFrame m #[(.int p1), (.int p2), (.int p3), (.long p4), (.long p5)] maxLocals)) t := by
    rcases hr1 with ⟨hc, er⟩ | ⟨hc, er⟩
    · intro t k
      refine C155 t ?_
      show Steps p.tables e below (T154.setTop (mkF m 94 #[.val (.int p1), .val (.int p2), .val (.int p3), .val (.long p4), .second, .val (.long p5), .second, .val (.int cc), .val (.int kk), .val (.ref b141), .val (.ref b145), .val (.int (1 : Int32))] [(.int (1 : Int32)), (.int cc), (.int r1), (.int (1 : Int32))])) _
      refine XS.icmpNo X154.here hx rfl (hb hby at_94) rfl (XT.ii_ne_f hc.symm) ?_
      show Steps p.tables e below (T154.setTop (mkF m 97 #[.val (.int p1), .val (.int p2), .val (.int p3), .val (.long p4), .second, .val (.long p5), .second, .val (.int cc), .val (.int kk), .val (.ref b141), .val (.ref b145), .val (.int (1 : Int32))] [(.int r1), (.int (1 : Int32))])) _
      refine XS.iconst X154.here hx rfl (hb hby at_97) ?_
      show Steps p.tables e below (T154.setTop (mkF m 98 #[.val (.int p1), .val (.int p2), .val (.int p3), .val (.long p4), .second, .val (.long p5), .second, .val (.int cc), .val (.int kk), .val (.ref b141), .val (.ref b145), .val (.int (1 : Int32))] [(.int (1 : Int32)), (.int r1), (.int (1 : Int32))])) _
      refine XS.goto X154.here hx rfl (pc0 := 98) (pc' := 102) rfl (hb hby at_98) (by decide) (by decide) ?_
      show Steps p.tables e below (T154.setTop (mkF m 102 #[.val (.int p1), .val (.int p2), .val (.int p3), .val (.long p4), .second, .val (.long p5), .second, .val (.int cc), .val (.int kk), .val (.ref b141), .val (.ref b145), .val (.int (1 : Int32))] [(.int (1 : Int32)), (.int r1), (.int (1 : Int32))])) _
      refine XS.icmpNo X154.here hx rfl (hb hby at_102) rfl (XT.ii_ne_f er) ?_
      show Steps p.tables e below (T154.setTop (mkF m 105 #[.val (.int p1), .val (.int p2), .val (.int p3), .val (.long p4), .second, .val (.long p5), .second, .val (.int cc), .val (.int kk), .val (.ref b141), .val (.ref b145), .val (.int (1 : Int32))] [(.int (1 : Int32))])) _
      refine XS.iconst X154.here hx rfl (hb hby at_105) ?_
      show Steps p.tables e below (T154.setTop (mkF m 106 #[.val (.int p1), .val (.int p2), .val (.int p3), .val (.long p4), .second, .val (.long p5), .second, .val (.int cc), .val (.int kk), .val (.ref b141), .val (.ref b145), .val (.int (1 : Int32))] [(.int (1 : Int32)), (.int (1 : Int32))])) _
      refine XS.goto X154.here hx rfl (pc0 := 106) (pc' := 110) rfl (hb hby at_106) (by decide) (by decide) ?_
      exact k
    · intro t k
      refine C155 t ?_
      show Steps p.tables e below (T154.setTop (mkF m 94 #[.val (.int p1), .val (.int p2), .val (.int p3), .val (.long p4), .second, .val (.long p5), .second, .val (.int cc), .val (.int kk), .val (.ref b141), .val (.ref b145), .val (.int (1 : Int32))] [(.int (1 : Int32)), (.int cc), (.int r1), (.int (1 : Int32))])) _
      refine XS.icmpYes X154.here hx rfl (pc0 := 94) (pc' := 101) rfl (hb hby at_94) rfl (XT.ii_ne_t (fun q => hc q.symm)) (by decide) (by decide) ?_
      show Steps p.tables e below (T154.setTop (mkF m 101 #[.val (.int p1), .val (.int p2), .val (.int p3), .val (.long p4), .second, .val (.long p5), .second, .val (.int cc), .val (.int kk), .val (.ref b141), .val (.ref b145), .val (.int (1 : Int32))] [(.int r1), (.int (1 : Int32))])) _
      refine XS.iconst X154.here hx rfl (hb hby at_101) ?_
      show Steps p.tables e below (T154.setTop (mkF m 102 #[.val (.int p1), .val (.int p2), .val (.int p3), .val (.long p4), .second, .val (.long p5), .second, .val (.int cc), .val (.int kk), .val (.ref b141), .val (.ref b145), .val (.int (1 : Int32))] [(.int (0 : Int32)), (.int r1), (.int (1 : Int32))])) _
      refine XS.icmpNo X154.here hx rfl (hb hby at_102) rfl (XT.ii_ne_f er) ?_
      show Steps p.tables e below (T154.setTop (mkF m 105 #[.val (.int p1), .val (.int p2), .val (.int p3), .val (.long p4), .second, .val (.long p5), .second, .val (.int cc), .val (.int kk), .val (.ref b141), .val (.ref b145), .val (.int (1 : Int32))] [(.int (1 : Int32))])) _
      refine XS.iconst X154.here hx rfl (hb hby at_105) ?_
      show Steps p.tables e below (T154.setTop (mkF m 106 #[.val (.int p1), .val (.int p2), .val (.int p3), .val (.long p4), .second, .val (.long p5), .second, .val (.int cc), .val (.int kk), .val (.ref b141), .val (.ref b145), .val (.int (1 : Int32))] [(.int (1 : Int32)), (.int (1 : Int32))])) _
      refine XS.goto X154.here hx rfl (pc0 := 106) (pc' := 110) rfl (hb hby at_106) (by decide) (by decide) ?_
      exact k
  have C156 : ∀ t, Steps p.tables e below (T154.setTop (mkF m 211 #[.val (.int p1), .val (.int p2), .val (.int p3), .val (.long p4), .second, .val (.long p5), .second, .val (.int cc), .val (.int kk), .val (.ref b141), .val (.ref b145), .val (.int (1 : Int32))] [(.ref b141)])) t → Steps p.tables e below (s₁.setTop (entryFrame m #[(.int p1), (.int p2), (.int p3), (.long p4), (.long p5)] maxLocals)) t := by
    intro t k
    refine CC1 t ?_
    show Steps p.tables e below (T154.setTop (mkF m 110 #[.val (.int p1), .val (.int p2), .val (.int p3), .val (.long p4), .second, .val (.long p5), .second, .val (.int cc), .val (.int kk), .val (.ref b141), .val (.ref b145), .val (.int (1 : Int32))] [(.int (1 : Int32)), (.int (1 : Int32))])) _
    refine XS.iand X154.here hx rfl (hb hby at_110) rfl ?_
    show Steps p.tables e below (T154.setTop (mkF m 111 #[.val (.int p1), .val (.int p2), .val (.int p3), .val (.long p4), .second, .val (.long p5), .second, .val (.int cc), .val (.int kk), .val (.ref b141), .val (.ref b145), .val (.int (1 : Int32))] [(.int (1 : Int32))])) _
    refine XS.istore X154.here hx rfl (hb hby at_111) rfl (l' := #[.val (.int p1), .val (.int p2), .val (.int p3), .val (.long p4), .second, .val (.long p5), .second, .val (.int cc), .val (.int kk), .val (.ref b141), .val (.ref b145), .val (.int (1 : Int32))]) rfl ?_
    show Steps p.tables e below (T154.setTop (mkF m 113 #[.val (.int p1), .val (.int p2), .val (.int p3), .val (.long p4), .second, .val (.long p5), .second, .val (.int cc), .val (.int kk), .val (.ref b141), .val (.ref b145), .val (.int (1 : Int32))] [])) _
    refine XS.iload X154.here hx rfl (hb hby at_113) rfl ?_
    show Steps p.tables e below (T154.setTop (mkF m 115 #[.val (.int p1), .val (.int p2), .val (.int p3), .val (.long p4), .second, .val (.long p5), .second, .val (.int cc), .val (.int kk), .val (.ref b141), .val (.ref b145), .val (.int (1 : Int32))] [(.int kk)])) _
    refine XS.iconst X154.here hx rfl (hb hby at_115) ?_
    show Steps p.tables e below (T154.setTop (mkF m 116 #[.val (.int p1), .val (.int p2), .val (.int p3), .val (.long p4), .second, .val (.long p5), .second, .val (.int cc), .val (.int kk), .val (.ref b141), .val (.ref b145), .val (.int (1 : Int32))] [(.int (2 : Int32)), (.int kk)])) _
    refine XS.icmpYes X154.here hx rfl (pc0 := 116) (pc' := 157) rfl (hb hby at_116) rfl (XT.ii_lt_t (by rw [hkk]; decide)) (by decide) (by decide) ?_
    show Steps p.tables e below (T154.setTop (mkF m 157 #[.val (.int p1), .val (.int p2), .val (.int p3), .val (.long p4), .second, .val (.long p5), .second, .val (.int cc), .val (.int kk), .val (.ref b141), .val (.ref b145), .val (.int (1 : Int32))] [])) _
    refine XS.iload X154.here hx rfl (hb hby at_157) rfl ?_
    show Steps p.tables e below (T154.setTop (mkF m 159 #[.val (.int p1), .val (.int p2), .val (.int p3), .val (.long p4), .second, .val (.long p5), .second, .val (.int cc), .val (.int kk), .val (.ref b141), .val (.ref b145), .val (.int (1 : Int32))] [(.int kk)])) _
    refine XS.iconst X154.here hx rfl (hb hby at_159) ?_
    show Steps p.tables e below (T154.setTop (mkF m 160 #[.val (.int p1), .val (.int p2), .val (.int p3), .val (.long p4), .second, .val (.long p5), .second, .val (.int cc), .val (.int kk), .val (.ref b141), .val (.ref b145), .val (.int (1 : Int32))] [(.int (3 : Int32)), (.int kk)])) _
    refine XS.icmpYes X154.here hx rfl (pc0 := 160) (pc' := 201) rfl (hb hby at_160) rfl (XT.ii_lt_t (by rw [hkk]; decide)) (by decide) (by decide) ?_
    show Steps p.tables e below (T154.setTop (mkF m 201 #[.val (.int p1), .val (.int p2), .val (.int p3), .val (.long p4), .second, .val (.long p5), .second, .val (.int cc), .val (.int kk), .val (.ref b141), .val (.ref b145), .val (.int (1 : Int32))] [])) _
    refine XS.iloadN X154.here hx rfl (hb hby at_201) rfl ?_
    show Steps p.tables e below (T154.setTop (mkF m 202 #[.val (.int p1), .val (.int p2), .val (.int p3), .val (.long p4), .second, .val (.long p5), .second, .val (.int cc), .val (.int kk), .val (.ref b141), .val (.ref b145), .val (.int (1 : Int32))] [(.int p3)])) _
    refine XS.sipush X154.here hx rfl (hb hby at_202) ?_
    show Steps p.tables e below (T154.setTop (mkF m 205 #[.val (.int p1), .val (.int p2), .val (.int p3), .val (.long p4), .second, .val (.long p5), .second, .val (.int cc), .val (.int kk), .val (.ref b141), .val (.ref b145), .val (.int (1 : Int32))] [(.int (256 : Int32)), (.int p3)])) _
    refine XS.iand X154.here hx rfl (hb hby at_205) rfl ?_
    show Steps p.tables e below (T154.setTop (mkF m 206 #[.val (.int p1), .val (.int p2), .val (.int p3), .val (.long p4), .second, .val (.long p5), .second, .val (.int cc), .val (.int kk), .val (.ref b141), .val (.ref b145), .val (.int (1 : Int32))] [(.int (p3 &&& (256 : Int32)))])) _
    refine XS.ifNo X154.here hx rfl (hb hby at_206) rfl (XT.i0_eq_f hf) ?_
    show Steps p.tables e below (T154.setTop (mkF m 209 #[.val (.int p1), .val (.int p2), .val (.int p3), .val (.long p4), .second, .val (.long p5), .second, .val (.int cc), .val (.int kk), .val (.ref b141), .val (.ref b145), .val (.int (1 : Int32))] [])) _
    refine XS.aload X154.here hx rfl (hb hby at_209) rfl rfl ?_
    exact k
  obtain ⟨cq157, kq157, q157a, q157b, q157c⟩ := isOf hZ q154 P152.1
  obtain ⟨_, _, ⟨T157, L157, k157, n157⟩, -, X157, ⟨Lc157, hQ157, l157, y157, z157⟩, st157⟩ := X154.virtualBack hx (y := (⟨"com/example/bucket/bucket/ingest/PointRun", "clear", "()V"⟩ : MethodName)) (z := (⟨"com/example/bucket/bucket/ingest/PointRun", "clear", "()V"⟩ : MethodName)) hown (mvT hZ (hw _ (List.mem_of_getElem? (i := 62) rfl))) (mvT hZ (hw _ (List.mem_of_getElem? (i := 63) rfl))) (notFace_of_selects (args := #[]) (mvT hZ (hw _ (List.mem_of_getElem? (i := 65) rfl)))) (mvT hZ (hw _ (List.mem_of_getElem? (i := 65) rfl))) (mvT hZ (hw _ (List.mem_of_getElem? (i := 64) rfl))) (by decide) (backOf (W := 0) (rm9 l Z a0 hw [] b141 sa ta va ea cc 1 T152.heap n0 ZZ152 P152 hcc.1 (by decide) (own_nlt hkb) g1 gs) hZ (hw _ (List.mem_of_getElem? (i := 66) rfl)) (hw _ (List.mem_of_getElem? (i := 3) rfl)) (by decide) (by decide)) q157a q157c (g := (mkF m 211 #[.val (.int p1), .val (.int p2), .val (.int p3), .val (.long p4), .second, .val (.long p5), .second, .val (.int cc), .val (.int kk), .val (.ref b141), .val (.ref b145), .val (.int (1 : Int32))] [(.ref b141)])) rfl (by rw [hml]; rfl) (Steps.refl _) (argsL := []) (rest := []) (lenOf pd8 rfl) rfl (by show 2 * 0 + _ ≤ _; exact Nat.le_of_eq rfl) (hb hby at_211) (fun _ _ => ⟨rfl, q154, (by decide : 6 + 0 ≤ _), (by decide : 21 + 0 ≤ _)⟩)
  dsimp only [Pt.U, Pt.locs, Pt.cells, Pt.slots] at X157 l157 y157 z157 st157 hQ157
  subst l157 y157 z157
  obtain ⟨rfl, N157q, P157, s157⟩ := hQ157
  have N157 := Fr.app N154 N157q
  have C157 : ∀ t, Steps p.tables e below (T157.setTop (mkF m 214 #[.val (.int p1), .val (.int p2), .val (.int p3), .val (.long p4), .second, .val (.long p5), .second, .val (.int cc), .val (.int kk), .val (.ref b141), .val (.ref b145), .val (.int (1 : Int32))] [])) t → Steps p.tables e below (s₁.setTop (entryFrame m #[(.int p1), (.int p2), (.int p3), (.long p4), (.long p5)] maxLocals)) t := fun t k => C156 t (st157.trans k)
  have ZZ157 : n0 ≤ T157.heap.size := Nat.le_trans ZZ152 s157
  obtain ⟨r9, hr9⟩ : ∃ r : Int32, ((0 : Int32) = cc ∧ r = 1) ∨ (¬ (0 : Int32) = cc ∧ r = 0) := by
    by_cases q : (0 : Int32) = cc
    · exact ⟨1, Or.inl ⟨q, rfl⟩⟩
    · exact ⟨0, Or.inr ⟨q, rfl⟩⟩
  have C158 : ∀ t, Steps p.tables e below (T157.setTop (mkF m 218 #[.val (.int p1), .val (.int p2), .val (.int p3), .val (.long p4), .second, .val (.long p5), .second, .val (.int cc), .val (.int kk), .val (.ref b141), .val (.ref b145), .val (.int (1 : Int32))] [(.ref b141), (.int (1 : Int32))])) t → Steps p.tables e below (s₁.setTop (entryFrame m #[(.int p1), (.int p2), (.int p3), (.long p4), (.long p5)] maxLocals)) t := by
    intro t k
    refine C157 t ?_
    show Steps p.tables e below (T157.setTop (mkF m 214 #[.val (.int p1), .val (.int p2), .val (.int p3), .val (.long p4), .second, .val (.long p5), .second, .val (.int cc), .val (.int kk), .val (.ref b141), .val (.ref b145), .val (.int (1 : Int32))] [])) _
    refine XS.iload X157.here hx rfl (hb hby at_214) rfl ?_
    show Steps p.tables e below (T157.setTop (mkF m 216 #[.val (.int p1), .val (.int p2), .val (.int p3), .val (.long p4), .second, .val (.long p5), .second, .val (.int cc), .val (.int kk), .val (.ref b141), .val (.ref b145), .val (.int (1 : Int32))] [(.int (1 : Int32))])) _
    refine XS.aload X157.here hx rfl (hb hby at_216) rfl rfl ?_
    exact k
  obtain ⟨cq159, kq159, q159a, q159b, q159c⟩ := isOf hZ rfl P157.1
  obtain ⟨_, _, ⟨T159, L159, k159, n159⟩, -, X159, ⟨Lc159, hQ159, l159, y159, z159⟩, st159⟩ := X157.virtualBack hx (y := (⟨"com/example/bucket/bucket/ingest/PointRun", "isFull", "()Z"⟩ : MethodName)) (z := (⟨"com/example/bucket/bucket/ingest/PointRun", "isFull", "()Z"⟩ : MethodName)) hown (mvT hZ (hw _ (List.mem_of_getElem? (i := 35) rfl))) (mvT hZ (hw _ (List.mem_of_getElem? (i := 36) rfl))) (notFace_of_selects (args := #[]) (mvT hZ (hw _ (List.mem_of_getElem? (i := 38) rfl)))) (mvT hZ (hw _ (List.mem_of_getElem? (i := 38) rfl))) (mvT hZ (hw _ (List.mem_of_getElem? (i := 37) rfl))) (by decide) (backOf (W := 1) (rm4 l Z a0 hw [] b141 sa ta va ea cc (0 : Int32) r9 T157.heap n0 ZZ157 P157 hcc.1 hr9) hZ (hw _ (List.mem_of_getElem? (i := 39) rfl)) (hw _ (List.mem_of_getElem? (i := 3) rfl)) (by decide) (by decide)) q159a q159c (g := (mkF m 218 #[.val (.int p1), .val (.int p2), .val (.int p3), .val (.long p4), .second, .val (.long p5), .second, .val (.int cc), .val (.int kk), .val (.ref b141), .val (.ref b145), .val (.int (1 : Int32))] [(.ref b141), (.int (1 : Int32))])) rfl (by rw [hml]; rfl) (Steps.refl _) (argsL := []) (rest := [(.int (1 : Int32))]) (lenOf pd7 rfl) rfl (by show 2 * 0 + _ ≤ _; exact Nat.le_of_eq rfl) (hb hby at_218) (fun _ _ => ⟨rfl, rfl, (by decide : 6 + 0 ≤ _), (by decide : 21 + 0 ≤ _)⟩)
  dsimp only [Pt.U, Pt.locs, Pt.cells, Pt.slots] at X159 l159 y159 z159 st159 hQ159
  subst l159 y159 z159
  obtain ⟨rfl, N159q, q159⟩ := hQ159
  have N159 := Fr.app N157 N159q
  have C159 : ∀ t, Steps p.tables e below (T159.setTop (mkF m 221 #[.val (.int p1), .val (.int p2), .val (.int p3), .val (.long p4), .second, .val (.long p5), .second, .val (.int cc), .val (.int kk), .val (.ref b141), .val (.ref b145), .val (.int (1 : Int32))] [(.int r9), (.int (1 : Int32))])) t → Steps p.tables e below (s₁.setTop (entryFrame m #[(.int p1), (.int p2), (.int p3), (.long p4), (.long p5)] maxLocals)) t := fun t k => C158 t (st159.trans k)
  have C160 : ∀ t, Steps p.tables e below (T159.setTop (mkF m 223 #[.val (.int p1), .val (.int p2), .val (.int p3), .val (.long p4), .second, .val (.long p5), .second, .val (.int cc), .val (.int kk), .val (.ref b141), .val (.ref b145), .val (.int (1 : Int32))] [(.int cc), (.int r9), (.int (1 : Int32))])) t → Steps p.tables e below (s₁.setTop (entryFrame m #[(.int p1), (.int p2), (.int p3), (.long p4), (.long p5)] maxLocals)) t := by
    intro t k
    refine C159 t ?_
    show Steps p.tables e below (T159.setTop (mkF m 221 #[.val (.int p1), .val (.int p2), .val (.int p3), .val (.long p4), .second, .val (.long p5), .second, .val (.int cc), .val (.int kk), .val (.ref b141), .val (.ref b145), .val (.int (1 : Int32))] [(.int r9), (.int (1 : Int32))])) _
    refine XS.iload X159.here hx rfl (hb hby at_221) rfl ?_
    exact k
  have CC9 : ∀ t, Steps p.tables e below (T159.setTop (mkF m 239 #[.val (.int p1), .val (.int p2), .val (.int p3), .val (.long p4), .second, .val (.long p5), .second, .val (.int cc), .val (.int kk), .val (.ref b141), .val (.ref b145), .val (.int (1 : Int32))] [(.int (1 : Int32)), (.int (1 : Int32))])) t → Steps p.tables e below (s₁.setTop (entryFrame m #[(.int p1), (.int p2), (.int p3), (.long p4), (.long p5)] maxLocals)) t := by
    rcases hr9 with ⟨hc, er⟩ | ⟨hc, er⟩
    · intro t k
      refine C160 t ?_
      show Steps p.tables e below (T159.setTop (mkF m 223 #[.val (.int p1), .val (.int p2), .val (.int p3), .val (.long p4), .second, .val (.long p5), .second, .val (.int cc), .val (.int kk), .val (.ref b141), .val (.ref b145), .val (.int (1 : Int32))] [(.int cc), (.int r9), (.int (1 : Int32))])) _
      refine XS.ifNo X159.here hx rfl (hb hby at_223) rfl (XT.i0_ne_f (by rw [← hc])) ?_
      show Steps p.tables e below (T159.setTop (mkF m 226 #[.val (.int p1), .val (.int p2), .val (.int p3), .val (.long p4), .second, .val (.long p5), .second, .val (.int cc), .val (.int kk), .val (.ref b141), .val (.ref b145), .val (.int (1 : Int32))] [(.int r9), (.int (1 : Int32))])) _
      refine XS.iconst X159.here hx rfl (hb hby at_226) ?_
      show Steps p.tables e below (T159.setTop (mkF m 227 #[.val (.int p1), .val (.int p2), .val (.int p3), .val (.long p4), .second, .val (.long p5), .second, .val (.int cc), .val (.int kk), .val (.ref b141), .val (.ref b145), .val (.int (1 : Int32))] [(.int (1 : Int32)), (.int r9), (.int (1 : Int32))])) _
      refine XS.goto X159.here hx rfl (pc0 := 227) (pc' := 231) rfl (hb hby at_227) (by decide) (by decide) ?_
      show Steps p.tables e below (T159.setTop (mkF m 231 #[.val (.int p1), .val (.int p2), .val (.int p3), .val (.long p4), .second, .val (.long p5), .second, .val (.int cc), .val (.int kk), .val (.ref b141), .val (.ref b145), .val (.int (1 : Int32))] [(.int (1 : Int32)), (.int r9), (.int (1 : Int32))])) _
      refine XS.icmpNo X159.here hx rfl (hb hby at_231) rfl (XT.ii_ne_f er) ?_
      show Steps p.tables e below (T159.setTop (mkF m 234 #[.val (.int p1), .val (.int p2), .val (.int p3), .val (.long p4), .second, .val (.long p5), .second, .val (.int cc), .val (.int kk), .val (.ref b141), .val (.ref b145), .val (.int (1 : Int32))] [(.int (1 : Int32))])) _
      refine XS.iconst X159.here hx rfl (hb hby at_234) ?_
      show Steps p.tables e below (T159.setTop (mkF m 235 #[.val (.int p1), .val (.int p2), .val (.int p3), .val (.long p4), .second, .val (.long p5), .second, .val (.int cc), .val (.int kk), .val (.ref b141), .val (.ref b145), .val (.int (1 : Int32))] [(.int (1 : Int32)), (.int (1 : Int32))])) _
      refine XS.goto X159.here hx rfl (pc0 := 235) (pc' := 239) rfl (hb hby at_235) (by decide) (by decide) ?_
      exact k
    · intro t k
      refine C160 t ?_
      show Steps p.tables e below (T159.setTop (mkF m 223 #[.val (.int p1), .val (.int p2), .val (.int p3), .val (.long p4), .second, .val (.long p5), .second, .val (.int cc), .val (.int kk), .val (.ref b141), .val (.ref b145), .val (.int (1 : Int32))] [(.int cc), (.int r9), (.int (1 : Int32))])) _
      refine XS.ifYes X159.here hx rfl (pc0 := 223) (pc' := 230) rfl (hb hby at_223) rfl (XT.i0_ne_t (fun q => hc q.symm)) (by decide) (by decide) ?_
      show Steps p.tables e below (T159.setTop (mkF m 230 #[.val (.int p1), .val (.int p2), .val (.int p3), .val (.long p4), .second, .val (.long p5), .second, .val (.int cc), .val (.int kk), .val (.ref b141), .val (.ref b145), .val (.int (1 : Int32))] [(.int r9), (.int (1 : Int32))])) _
      refine XS.iconst X159.here hx rfl (hb hby at_230) ?_
      show Steps p.tables e below (T159.setTop (mkF m 231 #[.val (.int p1), .val (.int p2), .val (.int p3), .val (.long p4), .second, .val (.long p5), .second, .val (.int cc), .val (.int kk), .val (.ref b141), .val (.ref b145), .val (.int (1 : Int32))] [(.int (0 : Int32)), (.int r9), (.int (1 : Int32))])) _
      refine XS.icmpNo X159.here hx rfl (hb hby at_231) rfl (XT.ii_ne_f er) ?_
      show Steps p.tables e below (T159.setTop (mkF m 234 #[.val (.int p1), .val (.int p2), .val (.int p3), .val (.long p4), .second, .val (.long p5), .second, .val (.int cc), .val (.int kk), .val (.ref b141), .val (.ref b145), .val (.int (1 : Int32))] [(.int (1 : Int32))])) _
      refine XS.iconst X159.here hx rfl (hb hby at_234) ?_
      show Steps p.tables e below (T159.setTop (mkF m 235 #[.val (.int p1), .val (.int p2), .val (.int p3), .val (.long p4), .second, .val (.long p5), .second, .val (.int cc), .val (.int kk), .val (.ref b141), .val (.ref b145), .val (.int (1 : Int32))] [(.int (1 : Int32)), (.int (1 : Int32))])) _
      refine XS.goto X159.here hx rfl (pc0 := 235) (pc' := 239) rfl (hb hby at_235) (by decide) (by decide) ?_
      exact k
  have C161 : ∀ t, Steps p.tables e below (T159.setTop (mkF m 244 #[.val (.int p1), .val (.int p2), .val (.int p3), .val (.long p4), .second, .val (.long p5), .second, .val (.int cc), .val (.int kk), .val (.ref b141), .val (.ref b145), .val (.int (1 : Int32))] [(.int (1 : Int32))])) t → Steps p.tables e below (s₁.setTop (entryFrame m #[(.int p1), (.int p2), (.int p3), (.long p4), (.long p5)] maxLocals)) t := by
    intro t k
    refine CC9 t ?_
    show Steps p.tables e below (T159.setTop (mkF m 239 #[.val (.int p1), .val (.int p2), .val (.int p3), .val (.long p4), .second, .val (.long p5), .second, .val (.int cc), .val (.int kk), .val (.ref b141), .val (.ref b145), .val (.int (1 : Int32))] [(.int (1 : Int32)), (.int (1 : Int32))])) _
    refine XS.iand X159.here hx rfl (hb hby at_239) rfl ?_
    show Steps p.tables e below (T159.setTop (mkF m 240 #[.val (.int p1), .val (.int p2), .val (.int p3), .val (.long p4), .second, .val (.long p5), .second, .val (.int cc), .val (.int kk), .val (.ref b141), .val (.ref b145), .val (.int (1 : Int32))] [(.int (1 : Int32))])) _
    refine XS.istore X159.here hx rfl (hb hby at_240) rfl (l' := #[.val (.int p1), .val (.int p2), .val (.int p3), .val (.long p4), .second, .val (.long p5), .second, .val (.int cc), .val (.int kk), .val (.ref b141), .val (.ref b145), .val (.int (1 : Int32))]) rfl ?_
    show Steps p.tables e below (T159.setTop (mkF m 242 #[.val (.int p1), .val (.int p2), .val (.int p3), .val (.long p4), .second, .val (.long p5), .second, .val (.int cc), .val (.int kk), .val (.ref b141), .val (.ref b145), .val (.int (1 : Int32))] [])) _
    refine XS.iload X159.here hx rfl (hb hby at_242) rfl ?_
    exact k
  obtain ⟨fs, hr, hrun, hended, hW, hsame⟩ := X159.leave (v := some (.int (1 : Int32))) (fun h => by rw [Bd.returns] at h; cases h)
  refine ⟨_, _, C161 _ ?_, hrun, hended, _, _, rfl, ?_, ⟨_, rfl⟩, hW, hsame.mono (by decide) (by decide)⟩
  · show Steps p.tables e below (T159.setTop (mkF m 244 #[.val (.int p1), .val (.int p2), .val (.int p3), .val (.long p4), .second, .val (.long p5), .second, .val (.int cc), .val (.int kk), .val (.ref b141), .val (.ref b145), .val (.int (1 : Int32))] [(.int (1 : Int32))])) _
    exact retN X159 hx (t := .boolean) Bd.returns (by simp) (hb hby at_244) hr
  · show Q0 Z p1 p2 p3 p4 p5 h0 n0 _ T159.heap _
    rw [q159]
    exact ⟨rfl, N159⟩
set_option maxRecDepth 65536 in
set_option maxHeartbeats 40000000 in
theorem rm0_20 (l : Launch) (Z : State) (a0 : Array Value) (hw : ∀ d ∈ tables_1, d.before a0 Z = true) (ws : List Jvm.Cond) (p1 p2 p3 : Int32) (p4 p5 : Int64) (h0 : Heap) (n0 : Nat) (Z0 : n0 ≤ h0.size) (hk : ((p2 &&& (2147483647 : Int32)) - ((p2 &&& (2147483647 : Int32)) / ((p1 &&& (3 : Int32)) + (1 : Int32))) * ((p1 &&& (3 : Int32)) + (1 : Int32))) = (2 : Int32)) (hf : (p3 &&& (256 : Int32)) = 0) :
    MetFree l x (head1 (Jvm.Cond.code x code maxLocals ret :: ws) room_1) (fun a U => a = #[(.int p1), (.int p2), (.int p3), (.long p4), (.long p5)] ∧ Z.Warmed39 U.vm ∧ U.heap = h0) (fun _ _ _ _ _ => True) (fun _ U o U' => ∃ v L, o = .returned v ∧ Q0 Z p1 p2 p3 p4 p5 h0 n0 v U'.heap L ∧ FrameEnd U o U' L room_1.cells room_1.slots) := by
  refine MetFree.of_bodySF (plainFor_of_name pn3) hisR ?_
  intro p e s m args below meth c s₁ Bd hml0 hP hK
  obtain ⟨rfl, hZ, hh⟩ := hP
  have hx := Bd.exec
  have hby := Bd.bytes
  have hml : c.maxLocals = 12 := hml0
  have hown : s.vm.findClass "com/example/bucket/bucket/ingest/PointRunIsFullPinLaw" = some m.cls := findClass_of_methodNamed Bd.named
  have hnm := (name_of_methodNamed Bd.named Bd.method).1
  have X0 : Stand p l e room_1 s m #[(.int p1), (.int p2), (.int p3), (.long p4), (.long p5)] below meth c s₁ [] 0 0 := Stand.of_body Bd
  have e0 : s₁.heap = h0 := by rw [← hh, Bd.state]; rfl
  have N0 := Fr.nil n0
  have pre0 : ∀ t, Steps p.tables e below (s₁.setTop (mkF m 0 #[.val (.int p1), .val (.int p2), .val (.int p3), .val (.long p4), .second, .val (.long p5), .second, .unset, .unset, .unset, .unset, .unset] [])) t → Steps p.tables e below (s₁.setTop (entryFrame m #[(.int p1), (.int p2), (.int p3), (.long p4), (.long p5)] maxLocals)) t := fun t k => castTop (ef0 m p1 p2 p3 p4 p5) k
  have C162 : ∀ t, Steps p.tables e below (s₁.setTop (mkF m 5 #[.val (.int p1), .val (.int p2), .val (.int p3), .val (.long p4), .second, .val (.long p5), .second, .val (.int (p1 &&& (3 : Int32))), .unset, .unset, .unset, .unset] [])) t → Steps p.tables e below (s₁.setTop (entryFrame m #[(.int p1), (.int p2), (.int p3), (.long p4), (.long p5)] maxLocals)) t := by
    intro t k
    refine pre0 t ?_
    show Steps p.tables e below (s₁.setTop (mkF m 0 #[.val (.int p1), .val (.int p2), .val (.int p3), .val (.long p4), .second, .val (.long p5), .second, .unset, .unset, .unset, .unset, .unset] [])) _
    refine XS.iloadN X0.here hx rfl (hb hby at_0) rfl ?_
    show Steps p.tables e below (s₁.setTop (mkF m 1 #[.val (.int p1), .val (.int p2), .val (.int p3), .val (.long p4), .second, .val (.long p5), .second, .unset, .unset, .unset, .unset, .unset] [(.int p1)])) _
    refine XS.iconst X0.here hx rfl (hb hby at_1) ?_
    show Steps p.tables e below (s₁.setTop (mkF m 2 #[.val (.int p1), .val (.int p2), .val (.int p3), .val (.long p4), .second, .val (.long p5), .second, .unset, .unset, .unset, .unset, .unset] [(.int (3 : Int32)), (.int p1)])) _
    refine XS.iand X0.here hx rfl (hb hby at_2) rfl ?_
    show Steps p.tables e below (s₁.setTop (mkF m 3 #[.val (.int p1), .val (.int p2), .val (.int p3), .val (.long p4), .second, .val (.long p5), .second, .unset, .unset, .unset, .unset, .unset] [(.int (p1 &&& (3 : Int32)))])) _
    refine XS.istore X0.here hx rfl (hb hby at_3) rfl (l' := #[.val (.int p1), .val (.int p2), .val (.int p3), .val (.long p4), .second, .val (.long p5), .second, .val (.int (p1 &&& (3 : Int32))), .unset, .unset, .unset, .unset]) rfl ?_
    exact k
  obtain ⟨cc, h_cc⟩ : ∃ z : Int32, z = (p1 &&& (3 : Int32)) := ⟨_, rfl⟩
  rw [← h_cc] at C162
  have hcc := own_cap p1
  rw [← h_cc] at hcc
  have C163 : ∀ t, Steps p.tables e below (s₁.setTop (mkF m 16 #[.val (.int p1), .val (.int p2), .val (.int p3), .val (.long p4), .second, .val (.long p5), .second, .val (.int cc), .val (.int ((p2 &&& (2147483647 : Int32)) - ((p2 &&& (2147483647 : Int32)) / (cc + (1 : Int32))) * (cc + (1 : Int32)))), .unset, .unset, .unset] [])) t → Steps p.tables e below (s₁.setTop (entryFrame m #[(.int p1), (.int p2), (.int p3), (.long p4), (.long p5)] maxLocals)) t := by
    intro t k
    refine C162 t ?_
    show Steps p.tables e below (s₁.setTop (mkF m 5 #[.val (.int p1), .val (.int p2), .val (.int p3), .val (.long p4), .second, .val (.long p5), .second, .val (.int cc), .unset, .unset, .unset, .unset] [])) _
    refine XS.iloadN X0.here hx rfl (hb hby at_5) rfl ?_
    show Steps p.tables e below (s₁.setTop (mkF m 6 #[.val (.int p1), .val (.int p2), .val (.int p3), .val (.long p4), .second, .val (.long p5), .second, .val (.int cc), .unset, .unset, .unset, .unset] [(.int p2)])) _
    refine X0.ldcInt hx hown (mvT hZ (hw _ (List.mem_of_getElem? (i := 0) rfl))) (g := (mkF m 6 #[.val (.int p1), .val (.int p2), .val (.int p3), .val (.long p4), .second, .val (.long p5), .second, .val (.int cc), .unset, .unset, .unset, .unset] [(.int p2)])) rfl (hb hby at_6) _ ?_
    show Steps p.tables e below (s₁.setTop (mkF m 8 #[.val (.int p1), .val (.int p2), .val (.int p3), .val (.long p4), .second, .val (.long p5), .second, .val (.int cc), .unset, .unset, .unset, .unset] [(.int (2147483647 : Int32)), (.int p2)])) _
    refine XS.iand X0.here hx rfl (hb hby at_8) rfl ?_
    show Steps p.tables e below (s₁.setTop (mkF m 9 #[.val (.int p1), .val (.int p2), .val (.int p3), .val (.long p4), .second, .val (.long p5), .second, .val (.int cc), .unset, .unset, .unset, .unset] [(.int (p2 &&& (2147483647 : Int32)))])) _
    refine XS.iload X0.here hx rfl (hb hby at_9) rfl ?_
    show Steps p.tables e below (s₁.setTop (mkF m 11 #[.val (.int p1), .val (.int p2), .val (.int p3), .val (.long p4), .second, .val (.long p5), .second, .val (.int cc), .unset, .unset, .unset, .unset] [(.int cc), (.int (p2 &&& (2147483647 : Int32)))])) _
    refine XS.iconst X0.here hx rfl (hb hby at_11) ?_
    show Steps p.tables e below (s₁.setTop (mkF m 12 #[.val (.int p1), .val (.int p2), .val (.int p3), .val (.long p4), .second, .val (.long p5), .second, .val (.int cc), .unset, .unset, .unset, .unset] [(.int (1 : Int32)), (.int cc), (.int (p2 &&& (2147483647 : Int32)))])) _
    refine XS.iadd X0.here hx rfl (hb hby at_12) rfl ?_
    show Steps p.tables e below (s₁.setTop (mkF m 13 #[.val (.int p1), .val (.int p2), .val (.int p3), .val (.long p4), .second, .val (.long p5), .second, .val (.int cc), .unset, .unset, .unset, .unset] [(.int (cc + (1 : Int32))), (.int (p2 &&& (2147483647 : Int32)))])) _
    refine XS.irem X0.here hx rfl (hb hby at_13) rfl (own_cap1 hcc) ?_
    show Steps p.tables e below (s₁.setTop (mkF m 14 #[.val (.int p1), .val (.int p2), .val (.int p3), .val (.long p4), .second, .val (.long p5), .second, .val (.int cc), .unset, .unset, .unset, .unset] [(.int ((p2 &&& (2147483647 : Int32)) - ((p2 &&& (2147483647 : Int32)) / (cc + (1 : Int32))) * (cc + (1 : Int32))))])) _
    refine XS.istore X0.here hx rfl (hb hby at_14) rfl (l' := #[.val (.int p1), .val (.int p2), .val (.int p3), .val (.long p4), .second, .val (.long p5), .second, .val (.int cc), .val (.int ((p2 &&& (2147483647 : Int32)) - ((p2 &&& (2147483647 : Int32)) / (cc + (1 : Int32))) * (cc + (1 : Int32)))), .unset, .unset, .unset]) rfl ?_
    exact k
  obtain ⟨kk, h_kk⟩ : ∃ z : Int32, z = ((p2 &&& (2147483647 : Int32)) - ((p2 &&& (2147483647 : Int32)) / (cc + (1 : Int32))) * (cc + (1 : Int32))) := ⟨_, rfl⟩
  rw [← h_kk] at C163
  have hkk : kk = (2 : Int32) := by rw [h_kk, h_cc]; exact hk
  have hkb : (2 : Int) ≤ cc.toInt := by have q := own_kle hcc p2; rw [← h_kk, hkk] at q; exact q
  obtain ⟨T164, h164, X164, e164, E164, A164, D164, -, st164⟩ := newO X0 hx hZ hown (hw _ (List.mem_of_getElem? (i := 1) rfl)) (hw _ (List.mem_of_getElem? (i := 2) rfl)) (hw _ (List.mem_of_getElem? (i := 3) rfl)) e0 (g := (mkF m 16 #[.val (.int p1), .val (.int p2), .val (.int p3), .val (.long p4), .second, .val (.long p5), .second, .val (.int cc), .val (.int kk), .unset, .unset, .unset] [])) rfl (hb hby at_16) (by decide) (by decide)
  obtain ⟨b164, g164⟩ : ∃ z, z = h0.size := ⟨_, rfl⟩
  rw [← g164] at A164 D164 st164
  have C164 : ∀ t, Steps p.tables e below (T164.setTop (mkF m 19 #[.val (.int p1), .val (.int p2), .val (.int p3), .val (.long p4), .second, .val (.long p5), .second, .val (.int cc), .val (.int kk), .unset, .unset, .unset] [(.ref b164)])) t → Steps p.tables e below (s₁.setTop (entryFrame m #[(.int p1), (.int p2), (.int p3), (.long p4), (.long p5)] maxLocals)) t := fun t k => C163 t (st164 t k)
  have F_series : Fld Z h164 b164 "com/example/bucket/bucket/ingest/PointRun" "series" "[Lcom/example/bucket/bucket/lineformat/Series;" .null := D164 (Or.inr (hw _ (List.mem_of_getElem? (i := 13) rfl))) (ty := (.array (.object "com/example/bucket/bucket/lineformat/Series"))) (by decide)
  have F_times : Fld Z h164 b164 "com/example/bucket/bucket/ingest/PointRun" "times" "[J" .null := D164 (Or.inr (hw _ (List.mem_of_getElem? (i := 16) rfl))) (ty := (.array .long)) (by decide)
  have F_values : Fld Z h164 b164 "com/example/bucket/bucket/ingest/PointRun" "values" "[D" .null := D164 (Or.inr (hw _ (List.mem_of_getElem? (i := 19) rfl))) (ty := (.array .double)) (by decide)
  have F_ends : Fld Z h164 b164 "com/example/bucket/bucket/ingest/PointRun" "ends" "[J" .null := D164 (Or.inr (hw _ (List.mem_of_getElem? (i := 21) rfl))) (ty := (.array .long)) (by decide)
  have F_size : Fld Z h164 b164 "com/example/bucket/bucket/ingest/PointRun" "size" "I" (.int 0) := D164 (Or.inl (hw _ (List.mem_of_getElem? (i := 41) rfl))) (ty := .int) (by decide)
  have F_merged : Fld Z h164 b164 "com/example/bucket/bucket/ingest/PointRun" "merged" "I" (.int 0) := D164 (Or.inl (hw _ (List.mem_of_getElem? (i := 75) rfl))) (ty := .int) (by decide)
  have Z1 : n0 ≤ h164.size := Nat.le_trans Z0 E164.1
  have g1 : n0 ≤ b164 := Nat.le_trans Z0 (Nat.le_of_eq g164.symm)
  have C165 : ∀ t, Steps p.tables e below (T164.setTop (mkF m 22 #[.val (.int p1), .val (.int p2), .val (.int p3), .val (.long p4), .second, .val (.long p5), .second, .val (.int cc), .val (.int kk), .unset, .unset, .unset] [(.int cc), (.ref b164), (.ref b164)])) t → Steps p.tables e below (s₁.setTop (entryFrame m #[(.int p1), (.int p2), (.int p3), (.long p4), (.long p5)] maxLocals)) t := by
    intro t k
    refine C164 t ?_
    show Steps p.tables e below (T164.setTop (mkF m 19 #[.val (.int p1), .val (.int p2), .val (.int p3), .val (.long p4), .second, .val (.long p5), .second, .val (.int cc), .val (.int kk), .unset, .unset, .unset] [(.ref b164)])) _
    refine XS.dup X164.here hx rfl (hb hby at_19) rfl rfl ?_
    show Steps p.tables e below (T164.setTop (mkF m 20 #[.val (.int p1), .val (.int p2), .val (.int p3), .val (.long p4), .second, .val (.long p5), .second, .val (.int cc), .val (.int kk), .unset, .unset, .unset] [(.ref b164), (.ref b164)])) _
    refine XS.iload X164.here hx rfl (hb hby at_20) rfl ?_
    exact k
  obtain ⟨_, _, ⟨T166, L166, k166, n166⟩, -, X166, ⟨Lc166, hQ166, l166, y166, z166⟩, st166⟩ := X164.specialBack hx (y := (⟨"com/example/bucket/bucket/ingest/PointRun", "<init>", "(I)V"⟩ : MethodName)) rfl hown (mvT hZ (hw _ (List.mem_of_getElem? (i := 4) rfl))) (mvT hZ (hw _ (List.mem_of_getElem? (i := 5) rfl))) (mvT hZ (hw _ (List.mem_of_getElem? (i := 6) rfl))) (by decide) (backOf (W := 1) (rm1 l Z a0 hw [] b164 cc h164 n0 Z1 F_series F_times F_values F_ends F_size F_merged A164 g1 hcc.1 hcc.2.2) hZ (hw _ (List.mem_of_getElem? (i := 6) rfl)) (hw _ (List.mem_of_getElem? (i := 3) rfl)) (by decide) (by decide)) (g := (mkF m 22 #[.val (.int p1), .val (.int p2), .val (.int p3), .val (.long p4), .second, .val (.long p5), .second, .val (.int cc), .val (.int kk), .unset, .unset, .unset] [(.int cc), (.ref b164), (.ref b164)])) rfl (by rw [hml]; rfl) (Steps.refl _) (a := b164) (argsL := [(.int cc)]) (rest := [(.ref b164)]) (lenOf pd5 rfl) rfl (by show 2 * 0 + _ ≤ _; exact Nat.le_of_eq rfl) (hb hby at_22) (fun _ _ => ⟨rfl, e164, (by decide : 1 + 4 ≤ _), (by decide : 6 + 12 ≤ _)⟩)
  dsimp only [Pt.U, Pt.locs, Pt.cells, Pt.slots] at X166 l166 y166 z166 st166 hQ166
  subst l166 y166 z166
  obtain ⟨rfl, N166q, sa, ta, va, ea, P166, K166, fs, ft, fv, fe⟩ := hQ166
  have N166 := Fr.app N0 N166q
  have C166 : ∀ t, Steps p.tables e below (T166.setTop (mkF m 25 #[.val (.int p1), .val (.int p2), .val (.int p3), .val (.long p4), .second, .val (.long p5), .second, .val (.int cc), .val (.int kk), .unset, .unset, .unset] [(.ref b164)])) t → Steps p.tables e below (s₁.setTop (entryFrame m #[(.int p1), (.int p2), (.int p3), (.long p4), (.long p5)] maxLocals)) t := fun t k => C165 t (st166.trans k)
  have Z2 : n0 ≤ T166.heap.size := Nat.le_trans Z1 K166.1
  have gs := Nat.le_trans Z1 fs
  have gt := Nat.le_trans Z1 ft
  have gv := Nat.le_trans Z1 fv
  have ge := Nat.le_trans Z1 fe
  have C167 : ∀ t, Steps p.tables e below (T166.setTop (mkF m 27 #[.val (.int p1), .val (.int p2), .val (.int p3), .val (.long p4), .second, .val (.long p5), .second, .val (.int cc), .val (.int kk), .val (.ref b164), .unset, .unset] [])) t → Steps p.tables e below (s₁.setTop (entryFrame m #[(.int p1), (.int p2), (.int p3), (.long p4), (.long p5)] maxLocals)) t := by
    intro t k
    refine C166 t ?_
    show Steps p.tables e below (T166.setTop (mkF m 25 #[.val (.int p1), .val (.int p2), .val (.int p3), .val (.long p4), .second, .val (.long p5), .second, .val (.int cc), .val (.int kk), .unset, .unset, .unset] [(.ref b164)])) _
    refine XS.astore X166.here hx rfl (hb hby at_25) rfl rfl (l' := #[.val (.int p1), .val (.int p2), .val (.int p3), .val (.long p4), .second, .val (.long p5), .second, .val (.int cc), .val (.int kk), .val (.ref b164), .unset, .unset]) rfl ?_
    exact k
  obtain ⟨T168, h168, X168, e168, E168, A168, D168, -, st168⟩ := newO X166 hx hZ hown (hw _ (List.mem_of_getElem? (i := 22) rfl)) (hw _ (List.mem_of_getElem? (i := 23) rfl)) (hw _ (List.mem_of_getElem? (i := 24) rfl)) rfl (g := (mkF m 27 #[.val (.int p1), .val (.int p2), .val (.int p3), .val (.long p4), .second, .val (.long p5), .second, .val (.int cc), .val (.int kk), .val (.ref b164), .unset, .unset] [])) rfl (hb hby at_27) (by decide) (by decide)
  obtain ⟨b168, g168⟩ : ∃ z, z = T166.heap.size := ⟨_, rfl⟩
  rw [← g168] at A168 D168 st168
  have C168 : ∀ t, Steps p.tables e below (T168.setTop (mkF m 30 #[.val (.int p1), .val (.int p2), .val (.int p3), .val (.long p4), .second, .val (.long p5), .second, .val (.int cc), .val (.int kk), .val (.ref b164), .unset, .unset] [(.ref b168)])) t → Steps p.tables e below (s₁.setTop (entryFrame m #[(.int p1), (.int p2), (.int p3), (.long p4), (.long p5)] maxLocals)) t := fun t k => C167 t (st168 t k)
  have G_series : Fld Z h168 b168 "com/example/bucket/bucket/lineformat/Point" "series" "Lcom/example/bucket/bucket/lineformat/Series;" .null := D168 (Or.inr (hw _ (List.mem_of_getElem? (i := 30) rfl))) (ty := (.object "com/example/bucket/bucket/lineformat/Series")) (by decide)
  have G_time : Fld Z h168 b168 "com/example/bucket/bucket/lineformat/Point" "time" "J" (.long 0) := D168 (Or.inr (hw _ (List.mem_of_getElem? (i := 32) rfl))) (ty := .long) (by decide)
  have G_value : Fld Z h168 b168 "com/example/bucket/bucket/lineformat/Point" "value" "D" (.double 0) := D168 (Or.inr (hw _ (List.mem_of_getElem? (i := 34) rfl))) (ty := .double) (by decide)
  have Z3 : n0 ≤ h168.size := Nat.le_trans Z2 E168.1
  have g2 : n0 ≤ b168 := Nat.le_trans Z2 (Nat.le_of_eq g168.symm)
  have C169 : ∀ t, Steps p.tables e below (T168.setTop (mkF m 39 #[.val (.int p1), .val (.int p2), .val (.int p3), .val (.long p4), .second, .val (.long p5), .second, .val (.int cc), .val (.int kk), .val (.ref b164), .unset, .unset] [(.double (FP.i2d (p3 &&& (255 : Int32)))), (.long p4), .null, (.ref b168), (.ref b168)])) t → Steps p.tables e below (s₁.setTop (entryFrame m #[(.int p1), (.int p2), (.int p3), (.long p4), (.long p5)] maxLocals)) t := by
    intro t k
    refine C168 t ?_
    show Steps p.tables e below (T168.setTop (mkF m 30 #[.val (.int p1), .val (.int p2), .val (.int p3), .val (.long p4), .second, .val (.long p5), .second, .val (.int cc), .val (.int kk), .val (.ref b164), .unset, .unset] [(.ref b168)])) _
    refine XS.dup X168.here hx rfl (hb hby at_30) rfl rfl ?_
    show Steps p.tables e below (T168.setTop (mkF m 31 #[.val (.int p1), .val (.int p2), .val (.int p3), .val (.long p4), .second, .val (.long p5), .second, .val (.int cc), .val (.int kk), .val (.ref b164), .unset, .unset] [(.ref b168), (.ref b168)])) _
    refine XS.aconstNull X168.here hx rfl (hb hby at_31) ?_
    show Steps p.tables e below (T168.setTop (mkF m 32 #[.val (.int p1), .val (.int p2), .val (.int p3), .val (.long p4), .second, .val (.long p5), .second, .val (.int cc), .val (.int kk), .val (.ref b164), .unset, .unset] [.null, (.ref b168), (.ref b168)])) _
    refine XS.lloadN X168.here hx rfl (hb hby at_32) rfl ?_
    show Steps p.tables e below (T168.setTop (mkF m 33 #[.val (.int p1), .val (.int p2), .val (.int p3), .val (.long p4), .second, .val (.long p5), .second, .val (.int cc), .val (.int kk), .val (.ref b164), .unset, .unset] [(.long p4), .null, (.ref b168), (.ref b168)])) _
    refine XS.iloadN X168.here hx rfl (hb hby at_33) rfl ?_
    show Steps p.tables e below (T168.setTop (mkF m 34 #[.val (.int p1), .val (.int p2), .val (.int p3), .val (.long p4), .second, .val (.long p5), .second, .val (.int cc), .val (.int kk), .val (.ref b164), .unset, .unset] [(.int p3), (.long p4), .null, (.ref b168), (.ref b168)])) _
    refine XS.sipush X168.here hx rfl (hb hby at_34) ?_
    show Steps p.tables e below (T168.setTop (mkF m 37 #[.val (.int p1), .val (.int p2), .val (.int p3), .val (.long p4), .second, .val (.long p5), .second, .val (.int cc), .val (.int kk), .val (.ref b164), .unset, .unset] [(.int (255 : Int32)), (.int p3), (.long p4), .null, (.ref b168), (.ref b168)])) _
    refine XS.iand X168.here hx rfl (hb hby at_37) rfl ?_
    show Steps p.tables e below (T168.setTop (mkF m 38 #[.val (.int p1), .val (.int p2), .val (.int p3), .val (.long p4), .second, .val (.long p5), .second, .val (.int cc), .val (.int kk), .val (.ref b164), .unset, .unset] [(.int (p3 &&& (255 : Int32))), (.long p4), .null, (.ref b168), (.ref b168)])) _
    refine XS.i2dS X168.here hx rfl (hb hby at_38) rfl rfl ?_
    exact k
  obtain ⟨_, _, ⟨T170, L170, k170, n170⟩, -, X170, ⟨Lc170, hQ170, l170, y170, z170⟩, st170⟩ := X168.specialBack hx (y := (⟨"com/example/bucket/bucket/lineformat/Point", "<init>", "(Lcom/example/bucket/bucket/lineformat/Series;JD)V"⟩ : MethodName)) rfl hown (mvT hZ (hw _ (List.mem_of_getElem? (i := 25) rfl))) (mvT hZ (hw _ (List.mem_of_getElem? (i := 26) rfl))) (mvT hZ (hw _ (List.mem_of_getElem? (i := 27) rfl))) (by decide) (backOf (W := 1) (rm3 l Z a0 hw [] b168 p4 (FP.i2d (p3 &&& (255 : Int32))) h168 n0 Z3 G_series G_time G_value A168 g2) hZ (hw _ (List.mem_of_getElem? (i := 27) rfl)) (hw _ (List.mem_of_getElem? (i := 24) rfl)) (by decide) (by decide)) (g := (mkF m 39 #[.val (.int p1), .val (.int p2), .val (.int p3), .val (.long p4), .second, .val (.long p5), .second, .val (.int cc), .val (.int kk), .val (.ref b164), .unset, .unset] [(.double (FP.i2d (p3 &&& (255 : Int32)))), (.long p4), .null, (.ref b168), (.ref b168)])) rfl (by rw [hml]; rfl) (Steps.refl _) (a := b168) (argsL := [.null, (.long p4), (.double (FP.i2d (p3 &&& (255 : Int32))))]) (rest := [(.ref b168)]) (lenOf pd6 rfl) rfl (by show 2 * 0 + _ ≤ _; exact Nat.le_of_eq rfl) (hb hby at_39) (fun _ _ => ⟨rfl, e168, (by decide : 6 + 0 ≤ _), (by decide : 21 + 0 ≤ _)⟩)
  dsimp only [Pt.U, Pt.locs, Pt.cells, Pt.slots] at X170 l170 y170 z170 st170 hQ170
  subst l170 y170 z170
  obtain ⟨rfl, N170q, Q170, K170⟩ := hQ170
  have N170 := Fr.app N166 N170q
  have C170 : ∀ t, Steps p.tables e below (T170.setTop (mkF m 42 #[.val (.int p1), .val (.int p2), .val (.int p3), .val (.long p4), .second, .val (.long p5), .second, .val (.int cc), .val (.int kk), .val (.ref b164), .unset, .unset] [(.ref b168)])) t → Steps p.tables e below (s₁.setTop (entryFrame m #[(.int p1), (.int p2), (.int p3), (.long p4), (.long p5)] maxLocals)) t := fun t k => C169 t (st170.trans k)
  have Z4 : n0 ≤ T170.heap.size := Nat.le_trans Z3 K170.1
  have PA : OwnP Z T170.heap b164 sa ta va ea cc.toNatClampNeg 0 := (P166.ext E168).keep K170 (own_nin1 (own_natne (by have := own_natlt P166.lt.1; omega)))
  obtain ⟨r0, hr0⟩ : ∃ r : Int32, ((0 : Int32) = cc ∧ r = 1) ∨ (¬ (0 : Int32) = cc ∧ r = 0) := by
    by_cases q : (0 : Int32) = cc
    · exact ⟨1, Or.inl ⟨q, rfl⟩⟩
    · exact ⟨0, Or.inr ⟨q, rfl⟩⟩
  have C171 : ∀ t, Steps p.tables e below (T170.setTop (mkF m 46 #[.val (.int p1), .val (.int p2), .val (.int p3), .val (.long p4), .second, .val (.long p5), .second, .val (.int cc), .val (.int kk), .val (.ref b164), .val (.ref b168), .unset] [(.ref b164)])) t → Steps p.tables e below (s₁.setTop (entryFrame m #[(.int p1), (.int p2), (.int p3), (.long p4), (.long p5)] maxLocals)) t := by
    intro t k
    refine C170 t ?_
    show Steps p.tables e below (T170.setTop (mkF m 42 #[.val (.int p1), .val (.int p2), .val (.int p3), .val (.long p4), .second, .val (.long p5), .second, .val (.int cc), .val (.int kk), .val (.ref b164), .unset, .unset] [(.ref b168)])) _
    refine XS.astore X170.here hx rfl (hb hby at_42) rfl rfl (l' := #[.val (.int p1), .val (.int p2), .val (.int p3), .val (.long p4), .second, .val (.long p5), .second, .val (.int cc), .val (.int kk), .val (.ref b164), .val (.ref b168), .unset]) rfl ?_
    show Steps p.tables e below (T170.setTop (mkF m 44 #[.val (.int p1), .val (.int p2), .val (.int p3), .val (.long p4), .second, .val (.long p5), .second, .val (.int cc), .val (.int kk), .val (.ref b164), .val (.ref b168), .unset] [])) _
    refine XS.aload X170.here hx rfl (hb hby at_44) rfl rfl ?_
    exact k
  obtain ⟨cq172, kq172, q172a, q172b, q172c⟩ := isOf hZ rfl PA.1
  obtain ⟨_, _, ⟨T172, L172, k172, n172⟩, -, X172, ⟨Lc172, hQ172, l172, y172, z172⟩, st172⟩ := X170.virtualBack hx (y := (⟨"com/example/bucket/bucket/ingest/PointRun", "isFull", "()Z"⟩ : MethodName)) (z := (⟨"com/example/bucket/bucket/ingest/PointRun", "isFull", "()Z"⟩ : MethodName)) hown (mvT hZ (hw _ (List.mem_of_getElem? (i := 35) rfl))) (mvT hZ (hw _ (List.mem_of_getElem? (i := 36) rfl))) (notFace_of_selects (args := #[]) (mvT hZ (hw _ (List.mem_of_getElem? (i := 38) rfl)))) (mvT hZ (hw _ (List.mem_of_getElem? (i := 38) rfl))) (mvT hZ (hw _ (List.mem_of_getElem? (i := 37) rfl))) (by decide) (backOf (W := 0) (rm4 l Z a0 hw [] b164 sa ta va ea cc (0 : Int32) r0 T170.heap n0 Z4 PA hcc.1 hr0) hZ (hw _ (List.mem_of_getElem? (i := 39) rfl)) (hw _ (List.mem_of_getElem? (i := 3) rfl)) (by decide) (by decide)) q172a q172c (g := (mkF m 46 #[.val (.int p1), .val (.int p2), .val (.int p3), .val (.long p4), .second, .val (.long p5), .second, .val (.int cc), .val (.int kk), .val (.ref b164), .val (.ref b168), .unset] [(.ref b164)])) rfl (by rw [hml]; rfl) (Steps.refl _) (argsL := []) (rest := []) (lenOf pd7 rfl) rfl (by show 2 * 0 + _ ≤ _; exact Nat.le_of_eq rfl) (hb hby at_46) (fun _ _ => ⟨rfl, rfl, (by decide : 6 + 0 ≤ _), (by decide : 21 + 0 ≤ _)⟩)
  dsimp only [Pt.U, Pt.locs, Pt.cells, Pt.slots] at X172 l172 y172 z172 st172 hQ172
  subst l172 y172 z172
  obtain ⟨rfl, N172q, q172⟩ := hQ172
  have N172 := Fr.app N170 N172q
  have C172 : ∀ t, Steps p.tables e below (T172.setTop (mkF m 49 #[.val (.int p1), .val (.int p2), .val (.int p3), .val (.long p4), .second, .val (.long p5), .second, .val (.int cc), .val (.int kk), .val (.ref b164), .val (.ref b168), .unset] [(.int r0)])) t → Steps p.tables e below (s₁.setTop (entryFrame m #[(.int p1), (.int p2), (.int p3), (.long p4), (.long p5)] maxLocals)) t := fun t k => C171 t (st172.trans k)
  have C173 : ∀ t, Steps p.tables e below (T172.setTop (mkF m 51 #[.val (.int p1), .val (.int p2), .val (.int p3), .val (.long p4), .second, .val (.long p5), .second, .val (.int cc), .val (.int kk), .val (.ref b164), .val (.ref b168), .unset] [(.int cc), (.int r0)])) t → Steps p.tables e below (s₁.setTop (entryFrame m #[(.int p1), (.int p2), (.int p3), (.long p4), (.long p5)] maxLocals)) t := by
    intro t k
    refine C172 t ?_
    show Steps p.tables e below (T172.setTop (mkF m 49 #[.val (.int p1), .val (.int p2), .val (.int p3), .val (.long p4), .second, .val (.long p5), .second, .val (.int cc), .val (.int kk), .val (.ref b164), .val (.ref b168), .unset] [(.int r0)])) _
    refine XS.iload X172.here hx rfl (hb hby at_49) rfl ?_
    exact k
  have CC0 : ∀ t, Steps p.tables e below (T172.setTop (mkF m 67 #[.val (.int p1), .val (.int p2), .val (.int p3), .val (.long p4), .second, .val (.long p5), .second, .val (.int cc), .val (.int kk), .val (.ref b164), .val (.ref b168), .unset] [(.int (1 : Int32))])) t → Steps p.tables e below (s₁.setTop (entryFrame m #[(.int p1), (.int p2), (.int p3), (.long p4), (.long p5)] maxLocals)) t := by
    rcases hr0 with ⟨hc, er⟩ | ⟨hc, er⟩
    · intro t k
      refine C173 t ?_
      show Steps p.tables e below (T172.setTop (mkF m 51 #[.val (.int p1), .val (.int p2), .val (.int p3), .val (.long p4), .second, .val (.long p5), .second, .val (.int cc), .val (.int kk), .val (.ref b164), .val (.ref b168), .unset] [(.int cc), (.int r0)])) _
      refine XS.ifNo X172.here hx rfl (hb hby at_51) rfl (XT.i0_ne_f (by rw [← hc])) ?_
      show Steps p.tables e below (T172.setTop (mkF m 54 #[.val (.int p1), .val (.int p2), .val (.int p3), .val (.long p4), .second, .val (.long p5), .second, .val (.int cc), .val (.int kk), .val (.ref b164), .val (.ref b168), .unset] [(.int r0)])) _
      refine XS.iconst X172.here hx rfl (hb hby at_54) ?_
      show Steps p.tables e below (T172.setTop (mkF m 55 #[.val (.int p1), .val (.int p2), .val (.int p3), .val (.long p4), .second, .val (.long p5), .second, .val (.int cc), .val (.int kk), .val (.ref b164), .val (.ref b168), .unset] [(.int (1 : Int32)), (.int r0)])) _
      refine XS.goto X172.here hx rfl (pc0 := 55) (pc' := 59) rfl (hb hby at_55) (by decide) (by decide) ?_
      show Steps p.tables e below (T172.setTop (mkF m 59 #[.val (.int p1), .val (.int p2), .val (.int p3), .val (.long p4), .second, .val (.long p5), .second, .val (.int cc), .val (.int kk), .val (.ref b164), .val (.ref b168), .unset] [(.int (1 : Int32)), (.int r0)])) _
      refine XS.icmpNo X172.here hx rfl (hb hby at_59) rfl (XT.ii_ne_f er) ?_
      show Steps p.tables e below (T172.setTop (mkF m 62 #[.val (.int p1), .val (.int p2), .val (.int p3), .val (.long p4), .second, .val (.long p5), .second, .val (.int cc), .val (.int kk), .val (.ref b164), .val (.ref b168), .unset] [])) _
      refine XS.iconst X172.here hx rfl (hb hby at_62) ?_
      show Steps p.tables e below (T172.setTop (mkF m 63 #[.val (.int p1), .val (.int p2), .val (.int p3), .val (.long p4), .second, .val (.long p5), .second, .val (.int cc), .val (.int kk), .val (.ref b164), .val (.ref b168), .unset] [(.int (1 : Int32))])) _
      refine XS.goto X172.here hx rfl (pc0 := 63) (pc' := 67) rfl (hb hby at_63) (by decide) (by decide) ?_
      exact k
    · intro t k
      refine C173 t ?_
      show Steps p.tables e below (T172.setTop (mkF m 51 #[.val (.int p1), .val (.int p2), .val (.int p3), .val (.long p4), .second, .val (.long p5), .second, .val (.int cc), .val (.int kk), .val (.ref b164), .val (.ref b168), .unset] [(.int cc), (.int r0)])) _
      refine XS.ifYes X172.here hx rfl (pc0 := 51) (pc' := 58) rfl (hb hby at_51) rfl (XT.i0_ne_t (fun q => hc q.symm)) (by decide) (by decide) ?_
      show Steps p.tables e below (T172.setTop (mkF m 58 #[.val (.int p1), .val (.int p2), .val (.int p3), .val (.long p4), .second, .val (.long p5), .second, .val (.int cc), .val (.int kk), .val (.ref b164), .val (.ref b168), .unset] [(.int r0)])) _
      refine XS.iconst X172.here hx rfl (hb hby at_58) ?_
      show Steps p.tables e below (T172.setTop (mkF m 59 #[.val (.int p1), .val (.int p2), .val (.int p3), .val (.long p4), .second, .val (.long p5), .second, .val (.int cc), .val (.int kk), .val (.ref b164), .val (.ref b168), .unset] [(.int (0 : Int32)), (.int r0)])) _
      refine XS.icmpNo X172.here hx rfl (hb hby at_59) rfl (XT.ii_ne_f er) ?_
      show Steps p.tables e below (T172.setTop (mkF m 62 #[.val (.int p1), .val (.int p2), .val (.int p3), .val (.long p4), .second, .val (.long p5), .second, .val (.int cc), .val (.int kk), .val (.ref b164), .val (.ref b168), .unset] [])) _
      refine XS.iconst X172.here hx rfl (hb hby at_62) ?_
      show Steps p.tables e below (T172.setTop (mkF m 63 #[.val (.int p1), .val (.int p2), .val (.int p3), .val (.long p4), .second, .val (.long p5), .second, .val (.int cc), .val (.int kk), .val (.ref b164), .val (.ref b168), .unset] [(.int (1 : Int32))])) _
      refine XS.goto X172.here hx rfl (pc0 := 63) (pc' := 67) rfl (hb hby at_63) (by decide) (by decide) ?_
      exact k
  have C174 : ∀ t, Steps p.tables e below (T172.setTop (mkF m 81 #[.val (.int p1), .val (.int p2), .val (.int p3), .val (.long p4), .second, .val (.long p5), .second, .val (.int cc), .val (.int kk), .val (.ref b164), .val (.ref b168), .val (.int (1 : Int32))] [(.long p5), (.ref b168), (.ref b164)])) t → Steps p.tables e below (s₁.setTop (entryFrame m #[(.int p1), (.int p2), (.int p3), (.long p4), (.long p5)] maxLocals)) t := by
    intro t k
    refine CC0 t ?_
    show Steps p.tables e below (T172.setTop (mkF m 67 #[.val (.int p1), .val (.int p2), .val (.int p3), .val (.long p4), .second, .val (.long p5), .second, .val (.int cc), .val (.int kk), .val (.ref b164), .val (.ref b168), .unset] [(.int (1 : Int32))])) _
    refine XS.istore X172.here hx rfl (hb hby at_67) rfl (l' := #[.val (.int p1), .val (.int p2), .val (.int p3), .val (.long p4), .second, .val (.long p5), .second, .val (.int cc), .val (.int kk), .val (.ref b164), .val (.ref b168), .val (.int (1 : Int32))]) rfl ?_
    show Steps p.tables e below (T172.setTop (mkF m 69 #[.val (.int p1), .val (.int p2), .val (.int p3), .val (.long p4), .second, .val (.long p5), .second, .val (.int cc), .val (.int kk), .val (.ref b164), .val (.ref b168), .val (.int (1 : Int32))] [])) _
    refine XS.iload X172.here hx rfl (hb hby at_69) rfl ?_
    show Steps p.tables e below (T172.setTop (mkF m 71 #[.val (.int p1), .val (.int p2), .val (.int p3), .val (.long p4), .second, .val (.long p5), .second, .val (.int cc), .val (.int kk), .val (.ref b164), .val (.ref b168), .val (.int (1 : Int32))] [(.int kk)])) _
    refine XS.iconst X172.here hx rfl (hb hby at_71) ?_
    show Steps p.tables e below (T172.setTop (mkF m 72 #[.val (.int p1), .val (.int p2), .val (.int p3), .val (.long p4), .second, .val (.long p5), .second, .val (.int cc), .val (.int kk), .val (.ref b164), .val (.ref b168), .val (.int (1 : Int32))] [(.int (1 : Int32)), (.int kk)])) _
    refine XS.icmpNo X172.here hx rfl (hb hby at_72) rfl (XT.ii_lt_f (by rw [hkk]; decide)) ?_
    show Steps p.tables e below (T172.setTop (mkF m 75 #[.val (.int p1), .val (.int p2), .val (.int p3), .val (.long p4), .second, .val (.long p5), .second, .val (.int cc), .val (.int kk), .val (.ref b164), .val (.ref b168), .val (.int (1 : Int32))] [])) _
    refine XS.aload X172.here hx rfl (hb hby at_75) rfl rfl ?_
    show Steps p.tables e below (T172.setTop (mkF m 77 #[.val (.int p1), .val (.int p2), .val (.int p3), .val (.long p4), .second, .val (.long p5), .second, .val (.int cc), .val (.int kk), .val (.ref b164), .val (.ref b168), .val (.int (1 : Int32))] [(.ref b164)])) _
    refine XS.aload X172.here hx rfl (hb hby at_77) rfl rfl ?_
    show Steps p.tables e below (T172.setTop (mkF m 79 #[.val (.int p1), .val (.int p2), .val (.int p3), .val (.long p4), .second, .val (.long p5), .second, .val (.int cc), .val (.int kk), .val (.ref b164), .val (.ref b168), .val (.int (1 : Int32))] [(.ref b168), (.ref b164)])) _
    refine XS.lload X172.here hx rfl (hb hby at_79) rfl ?_
    exact k
  obtain ⟨cq175, kq175, q175a, q175b, q175c⟩ := isOf hZ q172 PA.1
  obtain ⟨_, _, ⟨T175, L175, k175, n175⟩, -, X175, ⟨Lc175, hQ175, l175, y175, z175⟩, st175⟩ := X172.virtualBack hx (y := (⟨"com/example/bucket/bucket/ingest/PointRun", "add", "(Lcom/example/bucket/bucket/lineformat/Point;J)V"⟩ : MethodName)) (z := (⟨"com/example/bucket/bucket/ingest/PointRun", "add", "(Lcom/example/bucket/bucket/lineformat/Point;J)V"⟩ : MethodName)) hown (mvT hZ (hw _ (List.mem_of_getElem? (i := 42) rfl))) (mvT hZ (hw _ (List.mem_of_getElem? (i := 43) rfl))) (notFace_of_selects (args := #[]) (mvT hZ (hw _ (List.mem_of_getElem? (i := 45) rfl)))) (mvT hZ (hw _ (List.mem_of_getElem? (i := 45) rfl))) (mvT hZ (hw _ (List.mem_of_getElem? (i := 44) rfl))) (by decide) (backOf (W := 0) (rm5 l Z a0 hw [] b164 b168 p5 sa ta va ea cc.toNatClampNeg 0 1 p4 (FP.i2d (p3 &&& (255 : Int32))) T170.heap n0 Z4 PA Q170 (own_room hkb (by decide)) (by decide) g1 gs gt gv ge) hZ (hw _ (List.mem_of_getElem? (i := 46) rfl)) (hw _ (List.mem_of_getElem? (i := 3) rfl)) (by decide) (by decide)) q175a q175c (g := (mkF m 81 #[.val (.int p1), .val (.int p2), .val (.int p3), .val (.long p4), .second, .val (.long p5), .second, .val (.int cc), .val (.int kk), .val (.ref b164), .val (.ref b168), .val (.int (1 : Int32))] [(.long p5), (.ref b168), (.ref b164)])) rfl (by rw [hml]; rfl) (Steps.refl _) (argsL := [(.ref b168), (.long p5)]) (rest := []) (lenOf pd9 rfl) rfl (by show 2 * 0 + _ ≤ _; exact Nat.le_of_eq rfl) (hb hby at_81) (fun _ _ => ⟨rfl, q172, (by decide : 6 + 0 ≤ _), (by decide : 21 + 0 ≤ _)⟩)
  dsimp only [Pt.U, Pt.locs, Pt.cells, Pt.slots] at X175 l175 y175 z175 st175 hQ175
  subst l175 y175 z175
  obtain ⟨rfl, N175q, P175, Q175, s175⟩ := hQ175
  have N175 := Fr.app N172 N175q
  have C175 : ∀ t, Steps p.tables e below (T175.setTop (mkF m 84 #[.val (.int p1), .val (.int p2), .val (.int p3), .val (.long p4), .second, .val (.long p5), .second, .val (.int cc), .val (.int kk), .val (.ref b164), .val (.ref b168), .val (.int (1 : Int32))] [])) t → Steps p.tables e below (s₁.setTop (entryFrame m #[(.int p1), (.int p2), (.int p3), (.long p4), (.long p5)] maxLocals)) t := fun t k => C174 t (st175.trans k)
  have ZZ175 : n0 ≤ T175.heap.size := Nat.le_trans Z4 s175
  obtain ⟨r1, hr1⟩ : ∃ r : Int32, ((1 : Int32) = cc ∧ r = 1) ∨ (¬ (1 : Int32) = cc ∧ r = 0) := by
    by_cases q : (1 : Int32) = cc
    · exact ⟨1, Or.inl ⟨q, rfl⟩⟩
    · exact ⟨0, Or.inr ⟨q, rfl⟩⟩
  have C176 : ∀ t, Steps p.tables e below (T175.setTop (mkF m 88 #[.val (.int p1), .val (.int p2), .val (.int p3), .val (.long p4), .second, .val (.long p5), .second, .val (.int cc), .val (.int kk), .val (.ref b164), .val (.ref b168), .val (.int (1 : Int32))] [(.ref b164), (.int (1 : Int32))])) t → Steps p.tables e below (s₁.setTop (entryFrame m #[(.int p1), (.int p2), (.int p3), (.long p4), (.long p5)] maxLocals)) t := by
    intro t k
    refine C175 t ?_
    show Steps p.tables e below (T175.setTop (mkF m 84 #[.val (.int p1), .val (.int p2), .val (.int p3), .val (.long p4), .second, .val (.long p5), .second, .val (.int cc), .val (.int kk), .val (.ref b164), .val (.ref b168), .val (.int (1 : Int32))] [])) _
    refine XS.iload X175.here hx rfl (hb hby at_84) rfl ?_
    show Steps p.tables e below (T175.setTop (mkF m 86 #[.val (.int p1), .val (.int p2), .val (.int p3), .val (.long p4), .second, .val (.long p5), .second, .val (.int cc), .val (.int kk), .val (.ref b164), .val (.ref b168), .val (.int (1 : Int32))] [(.int (1 : Int32))])) _
    refine XS.aload X175.here hx rfl (hb hby at_86) rfl rfl ?_
    exact k
  obtain ⟨cq177, kq177, q177a, q177b, q177c⟩ := isOf hZ rfl P175.1
  obtain ⟨_, _, ⟨T177, L177, k177, n177⟩, -, X177, ⟨Lc177, hQ177, l177, y177, z177⟩, st177⟩ := X175.virtualBack hx (y := (⟨"com/example/bucket/bucket/ingest/PointRun", "isFull", "()Z"⟩ : MethodName)) (z := (⟨"com/example/bucket/bucket/ingest/PointRun", "isFull", "()Z"⟩ : MethodName)) hown (mvT hZ (hw _ (List.mem_of_getElem? (i := 35) rfl))) (mvT hZ (hw _ (List.mem_of_getElem? (i := 36) rfl))) (notFace_of_selects (args := #[]) (mvT hZ (hw _ (List.mem_of_getElem? (i := 38) rfl)))) (mvT hZ (hw _ (List.mem_of_getElem? (i := 38) rfl))) (mvT hZ (hw _ (List.mem_of_getElem? (i := 37) rfl))) (by decide) (backOf (W := 1) (rm4 l Z a0 hw [] b164 sa ta va ea cc (1 : Int32) r1 T175.heap n0 ZZ175 P175 hcc.1 hr1) hZ (hw _ (List.mem_of_getElem? (i := 39) rfl)) (hw _ (List.mem_of_getElem? (i := 3) rfl)) (by decide) (by decide)) q177a q177c (g := (mkF m 88 #[.val (.int p1), .val (.int p2), .val (.int p3), .val (.long p4), .second, .val (.long p5), .second, .val (.int cc), .val (.int kk), .val (.ref b164), .val (.ref b168), .val (.int (1 : Int32))] [(.ref b164), (.int (1 : Int32))])) rfl (by rw [hml]; rfl) (Steps.refl _) (argsL := []) (rest := [(.int (1 : Int32))]) (lenOf pd7 rfl) rfl (by show 2 * 0 + _ ≤ _; exact Nat.le_of_eq rfl) (hb hby at_88) (fun _ _ => ⟨rfl, rfl, (by decide : 6 + 0 ≤ _), (by decide : 21 + 0 ≤ _)⟩)
  dsimp only [Pt.U, Pt.locs, Pt.cells, Pt.slots] at X177 l177 y177 z177 st177 hQ177
  subst l177 y177 z177
  obtain ⟨rfl, N177q, q177⟩ := hQ177
  have N177 := Fr.app N175 N177q
  have C177 : ∀ t, Steps p.tables e below (T177.setTop (mkF m 91 #[.val (.int p1), .val (.int p2), .val (.int p3), .val (.long p4), .second, .val (.long p5), .second, .val (.int cc), .val (.int kk), .val (.ref b164), .val (.ref b168), .val (.int (1 : Int32))] [(.int r1), (.int (1 : Int32))])) t → Steps p.tables e below (s₁.setTop (entryFrame m #[(.int p1), (.int p2), (.int p3), (.long p4), (.long p5)] maxLocals)) t := fun t k => C176 t (st177.trans k)
  have C178 : ∀ t, Steps p.tables e below (T177.setTop (mkF m 94 #[.val (.int p1), .val (.int p2), .val (.int p3), .val (.long p4), .second, .val (.long p5), .second, .val (.int cc), .val (.int kk), .val (.ref b164), .val (.ref b168), .val (.int (1 : Int32))] [(.int (1 : Int32)), (.int cc), (.int r1), (.int (1 : Int32))])) t → Steps p.tables e below (s₁.setTop (entryFrame m #[(.int p1), (.int p2), (.int p3), (.long p4), (.long p5)] maxLocals)) t := by
    intro t k
    refine C177 t ?_
    show Steps p.tables e below (T177.setTop (mkF m 91 #[.val (.int p1), .val (.int p2), .val (.int p3), .val (.long p4), .second, .val (.long p5), .second, .val (.int cc), .val (.int kk), .val (.ref b164), .val (.ref b168), .val (.int (1 : Int32))] [(.int r1), (.int (1 : Int32))])) _
    refine XS.iload X177.here hx rfl (hb hby at_91) rfl ?_
    show Steps p.tables e below (T177.setTop (mkF m 93 #[.val (.int p1), .val (.int p2), .val (.int p3), .val (.long p4), .second, .val (.long p5), .second, .val (.int cc), .val (.int kk), .val (.ref b164), .val (.ref b168), .val (.int (1 : Int32))] [(.int cc), (.int r1), (.int (1 : Int32))])) _
    refine XS.iconst X177.here hx rfl (hb hby at_93) ?_
    exact k
  have CC1 : ∀ t, Steps p.tables e below (T177.setTop (mkF m 110 #[.val (.int p1), .val (.int p2), .val (.int p3), .val (.long p4), .second, .val (.long p5), .second, .val (.int cc), .val (.int kk), .val (.ref b164), .val (.ref b168), .val (.int (1 : Int32))] [(.int (1 : Int32)), (.int (1 : Int32))])) t → Steps p.tables e below (s₁.setTop (entryFrame m #[(.int p1), (.int p2), (.int p3), (.long p4), (.long p5)] maxLocals)) t := by
    rcases hr1 with ⟨hc, er⟩ | ⟨hc, er⟩
    · intro t k
      refine C178 t ?_
      show Steps p.tables e below (T177.setTop (mkF m 94 #[.val (.int p1), .val (.int p2), .val (.int p3), .val (.long p4), .second, .val (.long p5), .second, .val (.int cc), .val (.int kk), .val (.ref b164), .val (.ref b168), .val (.int (1 : Int32))] [(.int (1 : Int32)), (.int cc), (.int r1), (.int (1 : Int32))])) _
      refine XS.icmpNo X177.here hx rfl (hb hby at_94) rfl (XT.ii_ne_f hc.symm) ?_
      show Steps p.tables e below (T177.setTop (mkF m 97 #[.val (.int p1), .val (.int p2), .val (.int p3), .val (.long p4), .second, .val (.long p5), .second, .val (.int cc), .val (.int kk), .val (.ref b164), .val (.ref b168), .val (.int (1 : Int32))] [(.int r1), (.int (1 : Int32))])) _
      refine XS.iconst X177.here hx rfl (hb hby at_97) ?_
      show Steps p.tables e below (T177.setTop (mkF m 98 #[.val (.int p1), .val (.int p2), .val (.int p3), .val (.long p4), .second, .val (.long p5), .second, .val (.int cc), .val (.int kk), .val (.ref b164), .val (.ref b168), .val (.int (1 : Int32))] [(.int (1 : Int32)), (.int r1), (.int (1 : Int32))])) _
      refine XS.goto X177.here hx rfl (pc0 := 98) (pc' := 102) rfl (hb hby at_98) (by decide) (by decide) ?_
      show Steps p.tables e below (T177.setTop (mkF m 102 #[.val (.int p1), .val (.int p2), .val (.int p3), .val (.long p4), .second, .val (.long p5), .second, .val (.int cc), .val (.int kk), .val (.ref b164), .val (.ref b168), .val (.int (1 : Int32))] [(.int (1 : Int32)), (.int r1), (.int (1 : Int32))])) _
      refine XS.icmpNo X177.here hx rfl (hb hby at_102) rfl (XT.ii_ne_f er) ?_
      show Steps p.tables e below (T177.setTop (mkF m 105 #[.val (.int p1), .val (.int p2), .val (.int p3), .val (.long p4), .second, .val (.long p5), .second, .val (.int cc), .val (.int kk), .val (.ref b164), .val (.ref b168), .val (.int (1 : Int32))] [(.int (1 : Int32))])) _
      refine XS.iconst X177.here hx rfl (hb hby at_105) ?_
      show Steps p.tables e below (T177.setTop (mkF m 106 #[.val (.int p1), .val (.int p2), .val (.int p3), .val (.long p4), .second, .val (.long p5), .second, .val (.int cc), .val (.int kk), .val (.ref b164), .val (.ref b168), .val (.int (1 : Int32))] [(.int (1 : Int32)), (.int (1 : Int32))])) _
      refine XS.goto X177.here hx rfl (pc0 := 106) (pc' := 110) rfl (hb hby at_106) (by decide) (by decide) ?_
      exact k
    · intro t k
      refine C178 t ?_
      show Steps p.tables e below (T177.setTop (mkF m 94 #[.val (.int p1), .val (.int p2), .val (.int p3), .val (.long p4), .second, .val (.long p5), .second, .val (.int cc), .val (.int kk), .val (.ref b164), .val (.ref b168), .val (.int (1 : Int32))] [(.int (1 : Int32)), (.int cc), (.int r1), (.int (1 : Int32))])) _
      refine XS.icmpYes X177.here hx rfl (pc0 := 94) (pc' := 101) rfl (hb hby at_94) rfl (XT.ii_ne_t (fun q => hc q.symm)) (by decide) (by decide) ?_
      show Steps p.tables e below (T177.setTop (mkF m 101 #[.val (.int p1), .val (.int p2), .val (.int p3), .val (.long p4), .second, .val (.long p5), .second, .val (.int cc), .val (.int kk), .val (.ref b164), .val (.ref b168), .val (.int (1 : Int32))] [(.int r1), (.int (1 : Int32))])) _
      refine XS.iconst X177.here hx rfl (hb hby at_101) ?_
      show Steps p.tables e below (T177.setTop (mkF m 102 #[.val (.int p1), .val (.int p2), .val (.int p3), .val (.long p4), .second, .val (.long p5), .second, .val (.int cc), .val (.int kk), .val (.ref b164), .val (.ref b168), .val (.int (1 : Int32))] [(.int (0 : Int32)), (.int r1), (.int (1 : Int32))])) _
      refine XS.icmpNo X177.here hx rfl (hb hby at_102) rfl (XT.ii_ne_f er) ?_
      show Steps p.tables e below (T177.setTop (mkF m 105 #[.val (.int p1), .val (.int p2), .val (.int p3), .val (.long p4), .second, .val (.long p5), .second, .val (.int cc), .val (.int kk), .val (.ref b164), .val (.ref b168), .val (.int (1 : Int32))] [(.int (1 : Int32))])) _
      refine XS.iconst X177.here hx rfl (hb hby at_105) ?_
      show Steps p.tables e below (T177.setTop (mkF m 106 #[.val (.int p1), .val (.int p2), .val (.int p3), .val (.long p4), .second, .val (.long p5), .second, .val (.int cc), .val (.int kk), .val (.ref b164), .val (.ref b168), .val (.int (1 : Int32))] [(.int (1 : Int32)), (.int (1 : Int32))])) _
      refine XS.goto X177.here hx rfl (pc0 := 106) (pc' := 110) rfl (hb hby at_106) (by decide) (by decide) ?_
      exact k
  have C179 : ∀ t, Steps p.tables e below (T177.setTop (mkF m 125 #[.val (.int p1), .val (.int p2), .val (.int p3), .val (.long p4), .second, .val (.long p5), .second, .val (.int cc), .val (.int kk), .val (.ref b164), .val (.ref b168), .val (.int (1 : Int32))] [(.long p5), (.ref b168), (.ref b164)])) t → Steps p.tables e below (s₁.setTop (entryFrame m #[(.int p1), (.int p2), (.int p3), (.long p4), (.long p5)] maxLocals)) t := by
    intro t k
    refine CC1 t ?_
    show Steps p.tables e below (T177.setTop (mkF m 110 #[.val (.int p1), .val (.int p2), .val (.int p3), .val (.long p4), .second, .val (.long p5), .second, .val (.int cc), .val (.int kk), .val (.ref b164), .val (.ref b168), .val (.int (1 : Int32))] [(.int (1 : Int32)), (.int (1 : Int32))])) _
    refine XS.iand X177.here hx rfl (hb hby at_110) rfl ?_
    show Steps p.tables e below (T177.setTop (mkF m 111 #[.val (.int p1), .val (.int p2), .val (.int p3), .val (.long p4), .second, .val (.long p5), .second, .val (.int cc), .val (.int kk), .val (.ref b164), .val (.ref b168), .val (.int (1 : Int32))] [(.int (1 : Int32))])) _
    refine XS.istore X177.here hx rfl (hb hby at_111) rfl (l' := #[.val (.int p1), .val (.int p2), .val (.int p3), .val (.long p4), .second, .val (.long p5), .second, .val (.int cc), .val (.int kk), .val (.ref b164), .val (.ref b168), .val (.int (1 : Int32))]) rfl ?_
    show Steps p.tables e below (T177.setTop (mkF m 113 #[.val (.int p1), .val (.int p2), .val (.int p3), .val (.long p4), .second, .val (.long p5), .second, .val (.int cc), .val (.int kk), .val (.ref b164), .val (.ref b168), .val (.int (1 : Int32))] [])) _
    refine XS.iload X177.here hx rfl (hb hby at_113) rfl ?_
    show Steps p.tables e below (T177.setTop (mkF m 115 #[.val (.int p1), .val (.int p2), .val (.int p3), .val (.long p4), .second, .val (.long p5), .second, .val (.int cc), .val (.int kk), .val (.ref b164), .val (.ref b168), .val (.int (1 : Int32))] [(.int kk)])) _
    refine XS.iconst X177.here hx rfl (hb hby at_115) ?_
    show Steps p.tables e below (T177.setTop (mkF m 116 #[.val (.int p1), .val (.int p2), .val (.int p3), .val (.long p4), .second, .val (.long p5), .second, .val (.int cc), .val (.int kk), .val (.ref b164), .val (.ref b168), .val (.int (1 : Int32))] [(.int (2 : Int32)), (.int kk)])) _
    refine XS.icmpNo X177.here hx rfl (hb hby at_116) rfl (XT.ii_lt_f (by rw [hkk]; decide)) ?_
    show Steps p.tables e below (T177.setTop (mkF m 119 #[.val (.int p1), .val (.int p2), .val (.int p3), .val (.long p4), .second, .val (.long p5), .second, .val (.int cc), .val (.int kk), .val (.ref b164), .val (.ref b168), .val (.int (1 : Int32))] [])) _
    refine XS.aload X177.here hx rfl (hb hby at_119) rfl rfl ?_
    show Steps p.tables e below (T177.setTop (mkF m 121 #[.val (.int p1), .val (.int p2), .val (.int p3), .val (.long p4), .second, .val (.long p5), .second, .val (.int cc), .val (.int kk), .val (.ref b164), .val (.ref b168), .val (.int (1 : Int32))] [(.ref b164)])) _
    refine XS.aload X177.here hx rfl (hb hby at_121) rfl rfl ?_
    show Steps p.tables e below (T177.setTop (mkF m 123 #[.val (.int p1), .val (.int p2), .val (.int p3), .val (.long p4), .second, .val (.long p5), .second, .val (.int cc), .val (.int kk), .val (.ref b164), .val (.ref b168), .val (.int (1 : Int32))] [(.ref b168), (.ref b164)])) _
    refine XS.lload X177.here hx rfl (hb hby at_123) rfl ?_
    exact k
  obtain ⟨cq180, kq180, q180a, q180b, q180c⟩ := isOf hZ q177 P175.1
  obtain ⟨_, _, ⟨T180, L180, k180, n180⟩, -, X180, ⟨Lc180, hQ180, l180, y180, z180⟩, st180⟩ := X177.virtualBack hx (y := (⟨"com/example/bucket/bucket/ingest/PointRun", "add", "(Lcom/example/bucket/bucket/lineformat/Point;J)V"⟩ : MethodName)) (z := (⟨"com/example/bucket/bucket/ingest/PointRun", "add", "(Lcom/example/bucket/bucket/lineformat/Point;J)V"⟩ : MethodName)) hown (mvT hZ (hw _ (List.mem_of_getElem? (i := 42) rfl))) (mvT hZ (hw _ (List.mem_of_getElem? (i := 43) rfl))) (notFace_of_selects (args := #[]) (mvT hZ (hw _ (List.mem_of_getElem? (i := 45) rfl)))) (mvT hZ (hw _ (List.mem_of_getElem? (i := 45) rfl))) (mvT hZ (hw _ (List.mem_of_getElem? (i := 44) rfl))) (by decide) (backOf (W := 0) (rm5 l Z a0 hw [] b164 b168 p5 sa ta va ea cc.toNatClampNeg 1 2 p4 (FP.i2d (p3 &&& (255 : Int32))) T175.heap n0 ZZ175 P175 Q175 (own_room hkb (by decide)) (by decide) g1 gs gt gv ge) hZ (hw _ (List.mem_of_getElem? (i := 46) rfl)) (hw _ (List.mem_of_getElem? (i := 3) rfl)) (by decide) (by decide)) q180a q180c (g := (mkF m 125 #[.val (.int p1), .val (.int p2), .val (.int p3), .val (.long p4), .second, .val (.long p5), .second, .val (.int cc), .val (.int kk), .val (.ref b164), .val (.ref b168), .val (.int (1 : Int32))] [(.long p5), (.ref b168), (.ref b164)])) rfl (by rw [hml]; rfl) (Steps.refl _) (argsL := [(.ref b168), (.long p5)]) (rest := []) (lenOf pd9 rfl) rfl (by show 2 * 0 + _ ≤ _; exact Nat.le_of_eq rfl) (hb hby at_125) (fun _ _ => ⟨rfl, q177, (by decide : 6 + 0 ≤ _), (by decide : 21 + 0 ≤ _)⟩)
  dsimp only [Pt.U, Pt.locs, Pt.cells, Pt.slots] at X180 l180 y180 z180 st180 hQ180
  subst l180 y180 z180
  obtain ⟨rfl, N180q, P180, Q180, s180⟩ := hQ180
  have N180 := Fr.app N177 N180q
  have C180 : ∀ t, Steps p.tables e below (T180.setTop (mkF m 128 #[.val (.int p1), .val (.int p2), .val (.int p3), .val (.long p4), .second, .val (.long p5), .second, .val (.int cc), .val (.int kk), .val (.ref b164), .val (.ref b168), .val (.int (1 : Int32))] [])) t → Steps p.tables e below (s₁.setTop (entryFrame m #[(.int p1), (.int p2), (.int p3), (.long p4), (.long p5)] maxLocals)) t := fun t k => C179 t (st180.trans k)
  have ZZ180 : n0 ≤ T180.heap.size := Nat.le_trans ZZ175 s180
  obtain ⟨r2, hr2⟩ : ∃ r : Int32, ((2 : Int32) = cc ∧ r = 1) ∨ (¬ (2 : Int32) = cc ∧ r = 0) := by
    by_cases q : (2 : Int32) = cc
    · exact ⟨1, Or.inl ⟨q, rfl⟩⟩
    · exact ⟨0, Or.inr ⟨q, rfl⟩⟩
  have C181 : ∀ t, Steps p.tables e below (T180.setTop (mkF m 132 #[.val (.int p1), .val (.int p2), .val (.int p3), .val (.long p4), .second, .val (.long p5), .second, .val (.int cc), .val (.int kk), .val (.ref b164), .val (.ref b168), .val (.int (1 : Int32))] [(.ref b164), (.int (1 : Int32))])) t → Steps p.tables e below (s₁.setTop (entryFrame m #[(.int p1), (.int p2), (.int p3), (.long p4), (.long p5)] maxLocals)) t := by
    intro t k
    refine C180 t ?_
    show Steps p.tables e below (T180.setTop (mkF m 128 #[.val (.int p1), .val (.int p2), .val (.int p3), .val (.long p4), .second, .val (.long p5), .second, .val (.int cc), .val (.int kk), .val (.ref b164), .val (.ref b168), .val (.int (1 : Int32))] [])) _
    refine XS.iload X180.here hx rfl (hb hby at_128) rfl ?_
    show Steps p.tables e below (T180.setTop (mkF m 130 #[.val (.int p1), .val (.int p2), .val (.int p3), .val (.long p4), .second, .val (.long p5), .second, .val (.int cc), .val (.int kk), .val (.ref b164), .val (.ref b168), .val (.int (1 : Int32))] [(.int (1 : Int32))])) _
    refine XS.aload X180.here hx rfl (hb hby at_130) rfl rfl ?_
    exact k
  obtain ⟨cq182, kq182, q182a, q182b, q182c⟩ := isOf hZ rfl P180.1
  obtain ⟨_, _, ⟨T182, L182, k182, n182⟩, -, X182, ⟨Lc182, hQ182, l182, y182, z182⟩, st182⟩ := X180.virtualBack hx (y := (⟨"com/example/bucket/bucket/ingest/PointRun", "isFull", "()Z"⟩ : MethodName)) (z := (⟨"com/example/bucket/bucket/ingest/PointRun", "isFull", "()Z"⟩ : MethodName)) hown (mvT hZ (hw _ (List.mem_of_getElem? (i := 35) rfl))) (mvT hZ (hw _ (List.mem_of_getElem? (i := 36) rfl))) (notFace_of_selects (args := #[]) (mvT hZ (hw _ (List.mem_of_getElem? (i := 38) rfl)))) (mvT hZ (hw _ (List.mem_of_getElem? (i := 38) rfl))) (mvT hZ (hw _ (List.mem_of_getElem? (i := 37) rfl))) (by decide) (backOf (W := 1) (rm4 l Z a0 hw [] b164 sa ta va ea cc (2 : Int32) r2 T180.heap n0 ZZ180 P180 hcc.1 hr2) hZ (hw _ (List.mem_of_getElem? (i := 39) rfl)) (hw _ (List.mem_of_getElem? (i := 3) rfl)) (by decide) (by decide)) q182a q182c (g := (mkF m 132 #[.val (.int p1), .val (.int p2), .val (.int p3), .val (.long p4), .second, .val (.long p5), .second, .val (.int cc), .val (.int kk), .val (.ref b164), .val (.ref b168), .val (.int (1 : Int32))] [(.ref b164), (.int (1 : Int32))])) rfl (by rw [hml]; rfl) (Steps.refl _) (argsL := []) (rest := [(.int (1 : Int32))]) (lenOf pd7 rfl) rfl (by show 2 * 0 + _ ≤ _; exact Nat.le_of_eq rfl) (hb hby at_132) (fun _ _ => ⟨rfl, rfl, (by decide : 6 + 0 ≤ _), (by decide : 21 + 0 ≤ _)⟩)
  dsimp only [Pt.U, Pt.locs, Pt.cells, Pt.slots] at X182 l182 y182 z182 st182 hQ182
  subst l182 y182 z182
  obtain ⟨rfl, N182q, q182⟩ := hQ182
  have N182 := Fr.app N180 N182q
  have C182 : ∀ t, Steps p.tables e below (T182.setTop (mkF m 135 #[.val (.int p1), .val (.int p2), .val (.int p3), .val (.long p4), .second, .val (.long p5), .second, .val (.int cc), .val (.int kk), .val (.ref b164), .val (.ref b168), .val (.int (1 : Int32))] [(.int r2), (.int (1 : Int32))])) t → Steps p.tables e below (s₁.setTop (entryFrame m #[(.int p1), (.int p2), (.int p3), (.long p4), (.long p5)] maxLocals)) t := fun t k => C181 t (st182.trans k)
  have C183 : ∀ t, Steps p.tables e below (T182.setTop (mkF m 138 #[.val (.int p1), .val (.int p2), .val (.int p3), .val (.long p4), .second, .val (.long p5), .second, .val (.int cc), .val (.int kk), .val (.ref b164), .val (.ref b168), .val (.int (1 : Int32))] [(.int (2 : Int32)), (.int cc), (.int r2), (.int (1 : Int32))])) t → Steps p.tables e below (s₁.setTop (entryFrame m #[(.int p1), (.int p2), (.int p3), (.long p4), (.long p5)] maxLocals)) t := by
    intro t k
    refine C182 t ?_
    show Steps p.tables e below (T182.setTop (mkF m 135 #[.val (.int p1), .val (.int p2), .val (.int p3), .val (.long p4), .second, .val (.long p5), .second, .val (.int cc), .val (.int kk), .val (.ref b164), .val (.ref b168), .val (.int (1 : Int32))] [(.int r2), (.int (1 : Int32))])) _
    refine XS.iload X182.here hx rfl (hb hby at_135) rfl ?_
    show Steps p.tables e below (T182.setTop (mkF m 137 #[.val (.int p1), .val (.int p2), .val (.int p3), .val (.long p4), .second, .val (.long p5), .second, .val (.int cc), .val (.int kk), .val (.ref b164), .val (.ref b168), .val (.int (1 : Int32))] [(.int cc), (.int r2), (.int (1 : Int32))])) _
    refine XS.iconst X182.here hx rfl (hb hby at_137) ?_
    exact k
  have CC2 : ∀ t, Steps p.tables e below (T182.setTop (mkF m 154 #[.val (.int p1), .val (.int p2), .val (.int p3), .val (.long p4), .second, .val (.long p5), .second, .val (.int cc), .val (.int kk), .val (.ref b164), .val (.ref b168), .val (.int (1 : Int32))] [(.int (1 : Int32)), (.int (1 : Int32))])) t → Steps p.tables e below (s₁.setTop (entryFrame m #[(.int p1), (.int p2), (.int p3), (.long p4), (.long p5)] maxLocals)) t := by
    rcases hr2 with ⟨hc, er⟩ | ⟨hc, er⟩
    · intro t k
      refine C183 t ?_
      show Steps p.tables e below (T182.setTop (mkF m 138 #[.val (.int p1), .val (.int p2), .val (.int p3), .val (.long p4), .second, .val (.long p5), .second, .val (.int cc), .val (.int kk), .val (.ref b164), .val (.ref b168), .val (.int (1 : Int32))] [(.int (2 : Int32)), (.int cc), (.int r2), (.int (1 : Int32))])) _
      refine XS.icmpNo X182.here hx rfl (hb hby at_138) rfl (XT.ii_ne_f hc.symm) ?_
      show Steps p.tables e below (T182.setTop (mkF m 141 #[.val (.int p1), .val (.int p2), .val (.int p3), .val (.long p4), .second, .val (.long p5), .second, .val (.int cc), .val (.int kk), .val (.ref b164), .val (.ref b168), .val (.int (1 : Int32))] [(.int r2), (.int (1 : Int32))])) _
      refine XS.iconst X182.here hx rfl (hb hby at_141) ?_
      show Steps p.tables e below (T182.setTop (mkF m 142 #[.val (.int p1), .val (.int p2), .val (.int p3), .val (.long p4), .second, .val (.long p5), .second, .val (.int cc), .val (.int kk), .val (.ref b164), .val (.ref b168), .val (.int (1 : Int32))] [(.int (1 : Int32)), (.int r2), (.int (1 : Int32))])) _
      refine XS.goto X182.here hx rfl (pc0 := 142) (pc' := 146) rfl (hb hby at_142) (by decide) (by decide) ?_
      show Steps p.tables e below (T182.setTop (mkF m 146 #[.val (.int p1), .val (.int p2), .val (.int p3), .val (.long p4), .second, .val (.long p5), .second, .val (.int cc), .val (.int kk), .val (.ref b164), .val (.ref b168), .val (.int (1 : Int32))] [(.int (1 : Int32)), (.int r2), (.int (1 : Int32))])) _
      refine XS.icmpNo X182.here hx rfl (hb hby at_146) rfl (XT.ii_ne_f er) ?_
      show Steps p.tables e below (T182.setTop (mkF m 149 #[.val (.int p1), .val (.int p2), .val (.int p3), .val (.long p4), .second, .val (.long p5), .second, .val (.int cc), .val (.int kk), .val (.ref b164), .val (.ref b168), .val (.int (1 : Int32))] [(.int (1 : Int32))])) _
      refine XS.iconst X182.here hx rfl (hb hby at_149) ?_
      show Steps p.tables e below (T182.setTop (mkF m 150 #[.val (.int p1), .val (.int p2), .val (.int p3), .val (.long p4), .second, .val (.long p5), .second, .val (.int cc), .val (.int kk), .val (.ref b164), .val (.ref b168), .val (.int (1 : Int32))] [(.int (1 : Int32)), (.int (1 : Int32))])) _
      refine XS.goto X182.here hx rfl (pc0 := 150) (pc' := 154) rfl (hb hby at_150) (by decide) (by decide) ?_
      exact k
    · intro t k
      refine C183 t ?_
      show Steps p.tables e below (T182.setTop (mkF m 138 #[.val (.int p1), .val (.int p2), .val (.int p3), .val (.long p4), .second, .val (.long p5), .second, .val (.int cc), .val (.int kk), .val (.ref b164), .val (.ref b168), .val (.int (1 : Int32))] [(.int (2 : Int32)), (.int cc), (.int r2), (.int (1 : Int32))])) _
      refine XS.icmpYes X182.here hx rfl (pc0 := 138) (pc' := 145) rfl (hb hby at_138) rfl (XT.ii_ne_t (fun q => hc q.symm)) (by decide) (by decide) ?_
      show Steps p.tables e below (T182.setTop (mkF m 145 #[.val (.int p1), .val (.int p2), .val (.int p3), .val (.long p4), .second, .val (.long p5), .second, .val (.int cc), .val (.int kk), .val (.ref b164), .val (.ref b168), .val (.int (1 : Int32))] [(.int r2), (.int (1 : Int32))])) _
      refine XS.iconst X182.here hx rfl (hb hby at_145) ?_
      show Steps p.tables e below (T182.setTop (mkF m 146 #[.val (.int p1), .val (.int p2), .val (.int p3), .val (.long p4), .second, .val (.long p5), .second, .val (.int cc), .val (.int kk), .val (.ref b164), .val (.ref b168), .val (.int (1 : Int32))] [(.int (0 : Int32)), (.int r2), (.int (1 : Int32))])) _
      refine XS.icmpNo X182.here hx rfl (hb hby at_146) rfl (XT.ii_ne_f er) ?_
      show Steps p.tables e below (T182.setTop (mkF m 149 #[.val (.int p1), .val (.int p2), .val (.int p3), .val (.long p4), .second, .val (.long p5), .second, .val (.int cc), .val (.int kk), .val (.ref b164), .val (.ref b168), .val (.int (1 : Int32))] [(.int (1 : Int32))])) _
      refine XS.iconst X182.here hx rfl (hb hby at_149) ?_
      show Steps p.tables e below (T182.setTop (mkF m 150 #[.val (.int p1), .val (.int p2), .val (.int p3), .val (.long p4), .second, .val (.long p5), .second, .val (.int cc), .val (.int kk), .val (.ref b164), .val (.ref b168), .val (.int (1 : Int32))] [(.int (1 : Int32)), (.int (1 : Int32))])) _
      refine XS.goto X182.here hx rfl (pc0 := 150) (pc' := 154) rfl (hb hby at_150) (by decide) (by decide) ?_
      exact k
  have C184 : ∀ t, Steps p.tables e below (T182.setTop (mkF m 244 #[.val (.int p1), .val (.int p2), .val (.int p3), .val (.long p4), .second, .val (.long p5), .second, .val (.int cc), .val (.int kk), .val (.ref b164), .val (.ref b168), .val (.int (1 : Int32))] [(.int (1 : Int32))])) t → Steps p.tables e below (s₁.setTop (entryFrame m #[(.int p1), (.int p2), (.int p3), (.long p4), (.long p5)] maxLocals)) t := by
    intro t k
    refine CC2 t ?_
    show Steps p.tables e below (T182.setTop (mkF m 154 #[.val (.int p1), .val (.int p2), .val (.int p3), .val (.long p4), .second, .val (.long p5), .second, .val (.int cc), .val (.int kk), .val (.ref b164), .val (.ref b168), .val (.int (1 : Int32))] [(.int (1 : Int32)), (.int (1 : Int32))])) _
    refine XS.iand X182.here hx rfl (hb hby at_154) rfl ?_
    show Steps p.tables e below (T182.setTop (mkF m 155 #[.val (.int p1), .val (.int p2), .val (.int p3), .val (.long p4), .second, .val (.long p5), .second, .val (.int cc), .val (.int kk), .val (.ref b164), .val (.ref b168), .val (.int (1 : Int32))] [(.int (1 : Int32))])) _
    refine XS.istore X182.here hx rfl (hb hby at_155) rfl (l' := #[.val (.int p1), .val (.int p2), .val (.int p3), .val (.long p4), .second, .val (.long p5), .second, .val (.int cc), .val (.int kk), .val (.ref b164), .val (.ref b168), .val (.int (1 : Int32))]) rfl ?_
    show Steps p.tables e below (T182.setTop (mkF m 157 #[.val (.int p1), .val (.int p2), .val (.int p3), .val (.long p4), .second, .val (.long p5), .second, .val (.int cc), .val (.int kk), .val (.ref b164), .val (.ref b168), .val (.int (1 : Int32))] [])) _
    refine XS.iload X182.here hx rfl (hb hby at_157) rfl ?_
    show Steps p.tables e below (T182.setTop (mkF m 159 #[.val (.int p1), .val (.int p2), .val (.int p3), .val (.long p4), .second, .val (.long p5), .second, .val (.int cc), .val (.int kk), .val (.ref b164), .val (.ref b168), .val (.int (1 : Int32))] [(.int kk)])) _
    refine XS.iconst X182.here hx rfl (hb hby at_159) ?_
    show Steps p.tables e below (T182.setTop (mkF m 160 #[.val (.int p1), .val (.int p2), .val (.int p3), .val (.long p4), .second, .val (.long p5), .second, .val (.int cc), .val (.int kk), .val (.ref b164), .val (.ref b168), .val (.int (1 : Int32))] [(.int (3 : Int32)), (.int kk)])) _
    refine XS.icmpYes X182.here hx rfl (pc0 := 160) (pc' := 201) rfl (hb hby at_160) rfl (XT.ii_lt_t (by rw [hkk]; decide)) (by decide) (by decide) ?_
    show Steps p.tables e below (T182.setTop (mkF m 201 #[.val (.int p1), .val (.int p2), .val (.int p3), .val (.long p4), .second, .val (.long p5), .second, .val (.int cc), .val (.int kk), .val (.ref b164), .val (.ref b168), .val (.int (1 : Int32))] [])) _
    refine XS.iloadN X182.here hx rfl (hb hby at_201) rfl ?_
    show Steps p.tables e below (T182.setTop (mkF m 202 #[.val (.int p1), .val (.int p2), .val (.int p3), .val (.long p4), .second, .val (.long p5), .second, .val (.int cc), .val (.int kk), .val (.ref b164), .val (.ref b168), .val (.int (1 : Int32))] [(.int p3)])) _
    refine XS.sipush X182.here hx rfl (hb hby at_202) ?_
    show Steps p.tables e below (T182.setTop (mkF m 205 #[.val (.int p1), .val (.int p2), .val (.int p3), .val (.long p4), .second, .val (.long p5), .second, .val (.int cc), .val (.int kk), .val (.ref b164), .val (.ref b168), .val (.int (1 : Int32))] [(.int (256 : Int32)), (.int p3)])) _
    refine XS.iand X182.here hx rfl (hb hby at_205) rfl ?_
    show Steps p.tables e below (T182.setTop (mkF m 206 #[.val (.int p1), .val (.int p2), .val (.int p3), .val (.long p4), .second, .val (.long p5), .second, .val (.int cc), .val (.int kk), .val (.ref b164), .val (.ref b168), .val (.int (1 : Int32))] [(.int (p3 &&& (256 : Int32)))])) _
    refine XS.ifYes X182.here hx rfl (pc0 := 206) (pc' := 242) rfl (hb hby at_206) rfl (XT.i0_eq_t hf) (by decide) (by decide) ?_
    show Steps p.tables e below (T182.setTop (mkF m 242 #[.val (.int p1), .val (.int p2), .val (.int p3), .val (.long p4), .second, .val (.long p5), .second, .val (.int cc), .val (.int kk), .val (.ref b164), .val (.ref b168), .val (.int (1 : Int32))] [])) _
    refine XS.iload X182.here hx rfl (hb hby at_242) rfl ?_
    exact k
  obtain ⟨fs, hr, hrun, hended, hW, hsame⟩ := X182.leave (v := some (.int (1 : Int32))) (fun h => by rw [Bd.returns] at h; cases h)
  refine ⟨_, _, C184 _ ?_, hrun, hended, _, _, rfl, ?_, ⟨_, rfl⟩, hW, hsame.mono (by decide) (by decide)⟩
  · show Steps p.tables e below (T182.setTop (mkF m 244 #[.val (.int p1), .val (.int p2), .val (.int p3), .val (.long p4), .second, .val (.long p5), .second, .val (.int cc), .val (.int kk), .val (.ref b164), .val (.ref b168), .val (.int (1 : Int32))] [(.int (1 : Int32))])) _
    exact retN X182 hx (t := .boolean) Bd.returns (by simp) (hb hby at_244) hr
  · show Q0 Z p1 p2 p3 p4 p5 h0 n0 _ T182.heap _
    rw [q182]
    exact ⟨rfl, N182⟩
set_option maxRecDepth 65536 in
set_option maxHeartbeats 40000000 in
theorem rm0_21 (l : Launch) (Z : State) (a0 : Array Value) (hw : ∀ d ∈ tables_1, d.before a0 Z = true) (ws : List Jvm.Cond) (p1 p2 p3 : Int32) (p4 p5 : Int64) (h0 : Heap) (n0 : Nat) (Z0 : n0 ≤ h0.size) (hk : ((p2 &&& (2147483647 : Int32)) - ((p2 &&& (2147483647 : Int32)) / ((p1 &&& (3 : Int32)) + (1 : Int32))) * ((p1 &&& (3 : Int32)) + (1 : Int32))) = (2 : Int32)) (hf : ¬ (p3 &&& (256 : Int32)) = 0) :
    MetFree l x (head1 (Jvm.Cond.code x code maxLocals ret :: ws) room_1) (fun a U => a = #[(.int p1), (.int p2), (.int p3), (.long p4), (.long p5)] ∧ Z.Warmed39 U.vm ∧ U.heap = h0) (fun _ _ _ _ _ => True) (fun _ U o U' => ∃ v L, o = .returned v ∧ Q0 Z p1 p2 p3 p4 p5 h0 n0 v U'.heap L ∧ FrameEnd U o U' L room_1.cells room_1.slots) := by
  refine MetFree.of_bodySF (plainFor_of_name pn3) hisR ?_
  intro p e s m args below meth c s₁ Bd hml0 hP hK
  obtain ⟨rfl, hZ, hh⟩ := hP
  have hx := Bd.exec
  have hby := Bd.bytes
  have hml : c.maxLocals = 12 := hml0
  have hown : s.vm.findClass "com/example/bucket/bucket/ingest/PointRunIsFullPinLaw" = some m.cls := findClass_of_methodNamed Bd.named
  have hnm := (name_of_methodNamed Bd.named Bd.method).1
  have X0 : Stand p l e room_1 s m #[(.int p1), (.int p2), (.int p3), (.long p4), (.long p5)] below meth c s₁ [] 0 0 := Stand.of_body Bd
  have e0 : s₁.heap = h0 := by rw [← hh, Bd.state]; rfl
  have N0 := Fr.nil n0
  have pre0 : ∀ t, Steps p.tables e below (s₁.setTop (mkF m 0 #[.val (.int p1), .val (.int p2), .val (.int p3), .val (.long p4), .second, .val (.long p5), .second, .unset, .unset, .unset, .unset, .unset] [])) t → Steps p.tables e below (s₁.setTop (entryFrame m #[(.int p1), (.int p2), (.int p3), (.long p4), (.long p5)] maxLocals)) t := fun t k => castTop (ef0 m p1 p2 p3 p4 p5) k
  have C185 : ∀ t, Steps p.tables e below (s₁.setTop (mkF m 5 #[.val (.int p1), .val (.int p2), .val (.int p3), .val (.long p4), .second, .val (.long p5), .second, .val (.int (p1 &&& (3 : Int32))), .unset, .unset, .unset, .unset] [])) t → Steps p.tables e below (s₁.setTop (entryFrame m #[(.int p1), (.int p2), (.int p3), (.long p4), (.long p5)] maxLocals)) t := by
    intro t k
    refine pre0 t ?_
    show Steps p.tables e below (s₁.setTop (mkF m 0 #[.val (.int p1), .val (.int p2), .val (.int p3), .val (.long p4), .second, .val (.long p5), .second, .unset, .unset, .unset, .unset, .unset] [])) _
    refine XS.iloadN X0.here hx rfl (hb hby at_0) rfl ?_
    show Steps p.tables e below (s₁.setTop (mkF m 1 #[.val (.int p1), .val (.int p2), .val (.int p3), .val (.long p4), .second, .val (.long p5), .second, .unset, .unset, .unset, .unset, .unset] [(.int p1)])) _
    refine XS.iconst X0.here hx rfl (hb hby at_1) ?_
    show Steps p.tables e below (s₁.setTop (mkF m 2 #[.val (.int p1), .val (.int p2), .val (.int p3), .val (.long p4), .second, .val (.long p5), .second, .unset, .unset, .unset, .unset, .unset] [(.int (3 : Int32)), (.int p1)])) _
    refine XS.iand X0.here hx rfl (hb hby at_2) rfl ?_
    show Steps p.tables e below (s₁.setTop (mkF m 3 #[.val (.int p1), .val (.int p2), .val (.int p3), .val (.long p4), .second, .val (.long p5), .second, .unset, .unset, .unset, .unset, .unset] [(.int (p1 &&& (3 : Int32)))])) _
    refine XS.istore X0.here hx rfl (hb hby at_3) rfl (l' := #[.val (.int p1), .val (.int p2), .val (.int p3), .val (.long p4), .second, .val (.long p5), .second, .val (.int (p1 &&& (3 : Int32))), .unset, .unset, .unset, .unset]) rfl ?_
    exact k
  obtain ⟨cc, h_cc⟩ : ∃ z : Int32, z = (p1 &&& (3 : Int32)) := ⟨_, rfl⟩
  rw [← h_cc] at C185
  have hcc := own_cap p1
  rw [← h_cc] at hcc
  have C186 : ∀ t, Steps p.tables e below (s₁.setTop (mkF m 16 #[.val (.int p1), .val (.int p2), .val (.int p3), .val (.long p4), .second, .val (.long p5), .second, .val (.int cc), .val (.int ((p2 &&& (2147483647 : Int32)) - ((p2 &&& (2147483647 : Int32)) / (cc + (1 : Int32))) * (cc + (1 : Int32)))), .unset, .unset, .unset] [])) t → Steps p.tables e below (s₁.setTop (entryFrame m #[(.int p1), (.int p2), (.int p3), (.long p4), (.long p5)] maxLocals)) t := by
    intro t k
    refine C185 t ?_
    show Steps p.tables e below (s₁.setTop (mkF m 5 #[.val (.int p1), .val (.int p2), .val (.int p3), .val (.long p4), .second, .val (.long p5), .second, .val (.int cc), .unset, .unset, .unset, .unset] [])) _
    refine XS.iloadN X0.here hx rfl (hb hby at_5) rfl ?_
    show Steps p.tables e below (s₁.setTop (mkF m 6 #[.val (.int p1), .val (.int p2), .val (.int p3), .val (.long p4), .second, .val (.long p5), .second, .val (.int cc), .unset, .unset, .unset, .unset] [(.int p2)])) _
    refine X0.ldcInt hx hown (mvT hZ (hw _ (List.mem_of_getElem? (i := 0) rfl))) (g := (mkF m 6 #[.val (.int p1), .val (.int p2), .val (.int p3), .val (.long p4), .second, .val (.long p5), .second, .val (.int cc), .unset, .unset, .unset, .unset] [(.int p2)])) rfl (hb hby at_6) _ ?_
    show Steps p.tables e below (s₁.setTop (mkF m 8 #[.val (.int p1), .val (.int p2), .val (.int p3), .val (.long p4), .second, .val (.long p5), .second, .val (.int cc), .unset, .unset, .unset, .unset] [(.int (2147483647 : Int32)), (.int p2)])) _
    refine XS.iand X0.here hx rfl (hb hby at_8) rfl ?_
    show Steps p.tables e below (s₁.setTop (mkF m 9 #[.val (.int p1), .val (.int p2), .val (.int p3), .val (.long p4), .second, .val (.long p5), .second, .val (.int cc), .unset, .unset, .unset, .unset] [(.int (p2 &&& (2147483647 : Int32)))])) _
    refine XS.iload X0.here hx rfl (hb hby at_9) rfl ?_
    show Steps p.tables e below (s₁.setTop (mkF m 11 #[.val (.int p1), .val (.int p2), .val (.int p3), .val (.long p4), .second, .val (.long p5), .second, .val (.int cc), .unset, .unset, .unset, .unset] [(.int cc), (.int (p2 &&& (2147483647 : Int32)))])) _
    refine XS.iconst X0.here hx rfl (hb hby at_11) ?_
    show Steps p.tables e below (s₁.setTop (mkF m 12 #[.val (.int p1), .val (.int p2), .val (.int p3), .val (.long p4), .second, .val (.long p5), .second, .val (.int cc), .unset, .unset, .unset, .unset] [(.int (1 : Int32)), (.int cc), (.int (p2 &&& (2147483647 : Int32)))])) _
    refine XS.iadd X0.here hx rfl (hb hby at_12) rfl ?_
    show Steps p.tables e below (s₁.setTop (mkF m 13 #[.val (.int p1), .val (.int p2), .val (.int p3), .val (.long p4), .second, .val (.long p5), .second, .val (.int cc), .unset, .unset, .unset, .unset] [(.int (cc + (1 : Int32))), (.int (p2 &&& (2147483647 : Int32)))])) _
    refine XS.irem X0.here hx rfl (hb hby at_13) rfl (own_cap1 hcc) ?_
    show Steps p.tables e below (s₁.setTop (mkF m 14 #[.val (.int p1), .val (.int p2), .val (.int p3), .val (.long p4), .second, .val (.long p5), .second, .val (.int cc), .unset, .unset, .unset, .unset] [(.int ((p2 &&& (2147483647 : Int32)) - ((p2 &&& (2147483647 : Int32)) / (cc + (1 : Int32))) * (cc + (1 : Int32))))])) _
    refine XS.istore X0.here hx rfl (hb hby at_14) rfl (l' := #[.val (.int p1), .val (.int p2), .val (.int p3), .val (.long p4), .second, .val (.long p5), .second, .val (.int cc), .val (.int ((p2 &&& (2147483647 : Int32)) - ((p2 &&& (2147483647 : Int32)) / (cc + (1 : Int32))) * (cc + (1 : Int32)))), .unset, .unset, .unset]) rfl ?_
    exact k
  obtain ⟨kk, h_kk⟩ : ∃ z : Int32, z = ((p2 &&& (2147483647 : Int32)) - ((p2 &&& (2147483647 : Int32)) / (cc + (1 : Int32))) * (cc + (1 : Int32))) := ⟨_, rfl⟩
  rw [← h_kk] at C186
  have hkk : kk = (2 : Int32) := by rw [h_kk, h_cc]; exact hk
  have hkb : (2 : Int) ≤ cc.toInt := by have q := own_kle hcc p2; rw [← h_kk, hkk] at q; exact q
  obtain ⟨T187, h187, X187, e187, E187, A187, D187, -, st187⟩ := newO X0 hx hZ hown (hw _ (List.mem_of_getElem? (i := 1) rfl)) (hw _ (List.mem_of_getElem? (i := 2) rfl)) (hw _ (List.mem_of_getElem? (i := 3) rfl)) e0 (g := (mkF m 16 #[.val (.int p1), .val (.int p2), .val (.int p3), .val (.long p4), .second, .val (.long p5), .second, .val (.int cc), .val (.int kk), .unset, .unset, .unset] [])) rfl (hb hby at_16) (by decide) (by decide)
  obtain ⟨b187, g187⟩ : ∃ z, z = h0.size := ⟨_, rfl⟩
  rw [← g187] at A187 D187 st187
  have C187 : ∀ t, Steps p.tables e below (T187.setTop (mkF m 19 #[.val (.int p1), .val (.int p2), .val (.int p3), .val (.long p4), .second, .val (.long p5), .second, .val (.int cc), .val (.int kk), .unset, .unset, .unset] [(.ref b187)])) t → Steps p.tables e below (s₁.setTop (entryFrame m #[(.int p1), (.int p2), (.int p3), (.long p4), (.long p5)] maxLocals)) t := fun t k => C186 t (st187 t k)
  have F_series : Fld Z h187 b187 "com/example/bucket/bucket/ingest/PointRun" "series" "[Lcom/example/bucket/bucket/lineformat/Series;" .null := D187 (Or.inr (hw _ (List.mem_of_getElem? (i := 13) rfl))) (ty := (.array (.object "com/example/bucket/bucket/lineformat/Series"))) (by decide)
  have F_times : Fld Z h187 b187 "com/example/bucket/bucket/ingest/PointRun" "times" "[J" .null := D187 (Or.inr (hw _ (List.mem_of_getElem? (i := 16) rfl))) (ty := (.array .long)) (by decide)
  have F_values : Fld Z h187 b187 "com/example/bucket/bucket/ingest/PointRun" "values" "[D" .null := D187 (Or.inr (hw _ (List.mem_of_getElem? (i := 19) rfl))) (ty := (.array .double)) (by decide)
  have F_ends : Fld Z h187 b187 "com/example/bucket/bucket/ingest/PointRun" "ends" "[J" .null := D187 (Or.inr (hw _ (List.mem_of_getElem? (i := 21) rfl))) (ty := (.array .long)) (by decide)
  have F_size : Fld Z h187 b187 "com/example/bucket/bucket/ingest/PointRun" "size" "I" (.int 0) := D187 (Or.inl (hw _ (List.mem_of_getElem? (i := 41) rfl))) (ty := .int) (by decide)
  have F_merged : Fld Z h187 b187 "com/example/bucket/bucket/ingest/PointRun" "merged" "I" (.int 0) := D187 (Or.inl (hw _ (List.mem_of_getElem? (i := 75) rfl))) (ty := .int) (by decide)
  have Z1 : n0 ≤ h187.size := Nat.le_trans Z0 E187.1
  have g1 : n0 ≤ b187 := Nat.le_trans Z0 (Nat.le_of_eq g187.symm)
  have C188 : ∀ t, Steps p.tables e below (T187.setTop (mkF m 22 #[.val (.int p1), .val (.int p2), .val (.int p3), .val (.long p4), .second, .val (.long p5), .second, .val (.int cc), .val (.int kk), .unset, .unset, .unset] [(.int cc), (.ref b187), (.ref b187)])) t → Steps p.tables e below (s₁.setTop (entryFrame m #[(.int p1), (.int p2), (.int p3), (.long p4), (.long p5)] maxLocals)) t := by
    intro t k
    refine C187 t ?_
    show Steps p.tables e below (T187.setTop (mkF m 19 #[.val (.int p1), .val (.int p2), .val (.int p3), .val (.long p4), .second, .val (.long p5), .second, .val (.int cc), .val (.int kk), .unset, .unset, .unset] [(.ref b187)])) _
    refine XS.dup X187.here hx rfl (hb hby at_19) rfl rfl ?_
    show Steps p.tables e below (T187.setTop (mkF m 20 #[.val (.int p1), .val (.int p2), .val (.int p3), .val (.long p4), .second, .val (.long p5), .second, .val (.int cc), .val (.int kk), .unset, .unset, .unset] [(.ref b187), (.ref b187)])) _
    refine XS.iload X187.here hx rfl (hb hby at_20) rfl ?_
    exact k
  obtain ⟨_, _, ⟨T189, L189, k189, n189⟩, -, X189, ⟨Lc189, hQ189, l189, y189, z189⟩, st189⟩ := X187.specialBack hx (y := (⟨"com/example/bucket/bucket/ingest/PointRun", "<init>", "(I)V"⟩ : MethodName)) rfl hown (mvT hZ (hw _ (List.mem_of_getElem? (i := 4) rfl))) (mvT hZ (hw _ (List.mem_of_getElem? (i := 5) rfl))) (mvT hZ (hw _ (List.mem_of_getElem? (i := 6) rfl))) (by decide) (backOf (W := 1) (rm1 l Z a0 hw [] b187 cc h187 n0 Z1 F_series F_times F_values F_ends F_size F_merged A187 g1 hcc.1 hcc.2.2) hZ (hw _ (List.mem_of_getElem? (i := 6) rfl)) (hw _ (List.mem_of_getElem? (i := 3) rfl)) (by decide) (by decide)) (g := (mkF m 22 #[.val (.int p1), .val (.int p2), .val (.int p3), .val (.long p4), .second, .val (.long p5), .second, .val (.int cc), .val (.int kk), .unset, .unset, .unset] [(.int cc), (.ref b187), (.ref b187)])) rfl (by rw [hml]; rfl) (Steps.refl _) (a := b187) (argsL := [(.int cc)]) (rest := [(.ref b187)]) (lenOf pd5 rfl) rfl (by show 2 * 0 + _ ≤ _; exact Nat.le_of_eq rfl) (hb hby at_22) (fun _ _ => ⟨rfl, e187, (by decide : 1 + 4 ≤ _), (by decide : 6 + 12 ≤ _)⟩)
  dsimp only [Pt.U, Pt.locs, Pt.cells, Pt.slots] at X189 l189 y189 z189 st189 hQ189
  subst l189 y189 z189
  obtain ⟨rfl, N189q, sa, ta, va, ea, P189, K189, fs, ft, fv, fe⟩ := hQ189
  have N189 := Fr.app N0 N189q
  have C189 : ∀ t, Steps p.tables e below (T189.setTop (mkF m 25 #[.val (.int p1), .val (.int p2), .val (.int p3), .val (.long p4), .second, .val (.long p5), .second, .val (.int cc), .val (.int kk), .unset, .unset, .unset] [(.ref b187)])) t → Steps p.tables e below (s₁.setTop (entryFrame m #[(.int p1), (.int p2), (.int p3), (.long p4), (.long p5)] maxLocals)) t := fun t k => C188 t (st189.trans k)
  have Z2 : n0 ≤ T189.heap.size := Nat.le_trans Z1 K189.1
  have gs := Nat.le_trans Z1 fs
  have gt := Nat.le_trans Z1 ft
  have gv := Nat.le_trans Z1 fv
  have ge := Nat.le_trans Z1 fe
  have C190 : ∀ t, Steps p.tables e below (T189.setTop (mkF m 27 #[.val (.int p1), .val (.int p2), .val (.int p3), .val (.long p4), .second, .val (.long p5), .second, .val (.int cc), .val (.int kk), .val (.ref b187), .unset, .unset] [])) t → Steps p.tables e below (s₁.setTop (entryFrame m #[(.int p1), (.int p2), (.int p3), (.long p4), (.long p5)] maxLocals)) t := by
    intro t k
    refine C189 t ?_
    show Steps p.tables e below (T189.setTop (mkF m 25 #[.val (.int p1), .val (.int p2), .val (.int p3), .val (.long p4), .second, .val (.long p5), .second, .val (.int cc), .val (.int kk), .unset, .unset, .unset] [(.ref b187)])) _
    refine XS.astore X189.here hx rfl (hb hby at_25) rfl rfl (l' := #[.val (.int p1), .val (.int p2), .val (.int p3), .val (.long p4), .second, .val (.long p5), .second, .val (.int cc), .val (.int kk), .val (.ref b187), .unset, .unset]) rfl ?_
    exact k
  obtain ⟨T191, h191, X191, e191, E191, A191, D191, -, st191⟩ := newO X189 hx hZ hown (hw _ (List.mem_of_getElem? (i := 22) rfl)) (hw _ (List.mem_of_getElem? (i := 23) rfl)) (hw _ (List.mem_of_getElem? (i := 24) rfl)) rfl (g := (mkF m 27 #[.val (.int p1), .val (.int p2), .val (.int p3), .val (.long p4), .second, .val (.long p5), .second, .val (.int cc), .val (.int kk), .val (.ref b187), .unset, .unset] [])) rfl (hb hby at_27) (by decide) (by decide)
  obtain ⟨b191, g191⟩ : ∃ z, z = T189.heap.size := ⟨_, rfl⟩
  rw [← g191] at A191 D191 st191
  have C191 : ∀ t, Steps p.tables e below (T191.setTop (mkF m 30 #[.val (.int p1), .val (.int p2), .val (.int p3), .val (.long p4), .second, .val (.long p5), .second, .val (.int cc), .val (.int kk), .val (.ref b187), .unset, .unset] [(.ref b191)])) t → Steps p.tables e below (s₁.setTop (entryFrame m #[(.int p1), (.int p2), (.int p3), (.long p4), (.long p5)] maxLocals)) t := fun t k => C190 t (st191 t k)
  have G_series : Fld Z h191 b191 "com/example/bucket/bucket/lineformat/Point" "series" "Lcom/example/bucket/bucket/lineformat/Series;" .null := D191 (Or.inr (hw _ (List.mem_of_getElem? (i := 30) rfl))) (ty := (.object "com/example/bucket/bucket/lineformat/Series")) (by decide)
  have G_time : Fld Z h191 b191 "com/example/bucket/bucket/lineformat/Point" "time" "J" (.long 0) := D191 (Or.inr (hw _ (List.mem_of_getElem? (i := 32) rfl))) (ty := .long) (by decide)
  have G_value : Fld Z h191 b191 "com/example/bucket/bucket/lineformat/Point" "value" "D" (.double 0) := D191 (Or.inr (hw _ (List.mem_of_getElem? (i := 34) rfl))) (ty := .double) (by decide)
  have Z3 : n0 ≤ h191.size := Nat.le_trans Z2 E191.1
  have g2 : n0 ≤ b191 := Nat.le_trans Z2 (Nat.le_of_eq g191.symm)
  have C192 : ∀ t, Steps p.tables e below (T191.setTop (mkF m 39 #[.val (.int p1), .val (.int p2), .val (.int p3), .val (.long p4), .second, .val (.long p5), .second, .val (.int cc), .val (.int kk), .val (.ref b187), .unset, .unset] [(.double (FP.i2d (p3 &&& (255 : Int32)))), (.long p4), .null, (.ref b191), (.ref b191)])) t → Steps p.tables e below (s₁.setTop (entryFrame m #[(.int p1), (.int p2), (.int p3), (.long p4), (.long p5)] maxLocals)) t := by
    intro t k
    refine C191 t ?_
    show Steps p.tables e below (T191.setTop (mkF m 30 #[.val (.int p1), .val (.int p2), .val (.int p3), .val (.long p4), .second, .val (.long p5), .second, .val (.int cc), .val (.int kk), .val (.ref b187), .unset, .unset] [(.ref b191)])) _
    refine XS.dup X191.here hx rfl (hb hby at_30) rfl rfl ?_
    show Steps p.tables e below (T191.setTop (mkF m 31 #[.val (.int p1), .val (.int p2), .val (.int p3), .val (.long p4), .second, .val (.long p5), .second, .val (.int cc), .val (.int kk), .val (.ref b187), .unset, .unset] [(.ref b191), (.ref b191)])) _
    refine XS.aconstNull X191.here hx rfl (hb hby at_31) ?_
    show Steps p.tables e below (T191.setTop (mkF m 32 #[.val (.int p1), .val (.int p2), .val (.int p3), .val (.long p4), .second, .val (.long p5), .second, .val (.int cc), .val (.int kk), .val (.ref b187), .unset, .unset] [.null, (.ref b191), (.ref b191)])) _
    refine XS.lloadN X191.here hx rfl (hb hby at_32) rfl ?_
    show Steps p.tables e below (T191.setTop (mkF m 33 #[.val (.int p1), .val (.int p2), .val (.int p3), .val (.long p4), .second, .val (.long p5), .second, .val (.int cc), .val (.int kk), .val (.ref b187), .unset, .unset] [(.long p4), .null, (.ref b191), (.ref b191)])) _
    refine XS.iloadN X191.here hx rfl (hb hby at_33) rfl ?_
    show Steps p.tables e below (T191.setTop (mkF m 34 #[.val (.int p1), .val (.int p2), .val (.int p3), .val (.long p4), .second, .val (.long p5), .second, .val (.int cc), .val (.int kk), .val (.ref b187), .unset, .unset] [(.int p3), (.long p4), .null, (.ref b191), (.ref b191)])) _
    refine XS.sipush X191.here hx rfl (hb hby at_34) ?_
    show Steps p.tables e below (T191.setTop (mkF m 37 #[.val (.int p1), .val (.int p2), .val (.int p3), .val (.long p4), .second, .val (.long p5), .second, .val (.int cc), .val (.int kk), .val (.ref b187), .unset, .unset] [(.int (255 : Int32)), (.int p3), (.long p4), .null, (.ref b191), (.ref b191)])) _
    refine XS.iand X191.here hx rfl (hb hby at_37) rfl ?_
    show Steps p.tables e below (T191.setTop (mkF m 38 #[.val (.int p1), .val (.int p2), .val (.int p3), .val (.long p4), .second, .val (.long p5), .second, .val (.int cc), .val (.int kk), .val (.ref b187), .unset, .unset] [(.int (p3 &&& (255 : Int32))), (.long p4), .null, (.ref b191), (.ref b191)])) _
    refine XS.i2dS X191.here hx rfl (hb hby at_38) rfl rfl ?_
    exact k
  obtain ⟨_, _, ⟨T193, L193, k193, n193⟩, -, X193, ⟨Lc193, hQ193, l193, y193, z193⟩, st193⟩ := X191.specialBack hx (y := (⟨"com/example/bucket/bucket/lineformat/Point", "<init>", "(Lcom/example/bucket/bucket/lineformat/Series;JD)V"⟩ : MethodName)) rfl hown (mvT hZ (hw _ (List.mem_of_getElem? (i := 25) rfl))) (mvT hZ (hw _ (List.mem_of_getElem? (i := 26) rfl))) (mvT hZ (hw _ (List.mem_of_getElem? (i := 27) rfl))) (by decide) (backOf (W := 1) (rm3 l Z a0 hw [] b191 p4 (FP.i2d (p3 &&& (255 : Int32))) h191 n0 Z3 G_series G_time G_value A191 g2) hZ (hw _ (List.mem_of_getElem? (i := 27) rfl)) (hw _ (List.mem_of_getElem? (i := 24) rfl)) (by decide) (by decide)) (g := (mkF m 39 #[.val (.int p1), .val (.int p2), .val (.int p3), .val (.long p4), .second, .val (.long p5), .second, .val (.int cc), .val (.int kk), .val (.ref b187), .unset, .unset] [(.double (FP.i2d (p3 &&& (255 : Int32)))), (.long p4), .null, (.ref b191), (.ref b191)])) rfl (by rw [hml]; rfl) (Steps.refl _) (a := b191) (argsL := [.null, (.long p4), (.double (FP.i2d (p3 &&& (255 : Int32))))]) (rest := [(.ref b191)]) (lenOf pd6 rfl) rfl (by show 2 * 0 + _ ≤ _; exact Nat.le_of_eq rfl) (hb hby at_39) (fun _ _ => ⟨rfl, e191, (by decide : 6 + 0 ≤ _), (by decide : 21 + 0 ≤ _)⟩)
  dsimp only [Pt.U, Pt.locs, Pt.cells, Pt.slots] at X193 l193 y193 z193 st193 hQ193
  subst l193 y193 z193
  obtain ⟨rfl, N193q, Q193, K193⟩ := hQ193
  have N193 := Fr.app N189 N193q
  have C193 : ∀ t, Steps p.tables e below (T193.setTop (mkF m 42 #[.val (.int p1), .val (.int p2), .val (.int p3), .val (.long p4), .second, .val (.long p5), .second, .val (.int cc), .val (.int kk), .val (.ref b187), .unset, .unset] [(.ref b191)])) t → Steps p.tables e below (s₁.setTop (entryFrame m #[(.int p1), (.int p2), (.int p3), (.long p4), (.long p5)] maxLocals)) t := fun t k => C192 t (st193.trans k)
  have Z4 : n0 ≤ T193.heap.size := Nat.le_trans Z3 K193.1
  have PA : OwnP Z T193.heap b187 sa ta va ea cc.toNatClampNeg 0 := (P189.ext E191).keep K193 (own_nin1 (own_natne (by have := own_natlt P189.lt.1; omega)))
  obtain ⟨r0, hr0⟩ : ∃ r : Int32, ((0 : Int32) = cc ∧ r = 1) ∨ (¬ (0 : Int32) = cc ∧ r = 0) := by
    by_cases q : (0 : Int32) = cc
    · exact ⟨1, Or.inl ⟨q, rfl⟩⟩
    · exact ⟨0, Or.inr ⟨q, rfl⟩⟩
  have C194 : ∀ t, Steps p.tables e below (T193.setTop (mkF m 46 #[.val (.int p1), .val (.int p2), .val (.int p3), .val (.long p4), .second, .val (.long p5), .second, .val (.int cc), .val (.int kk), .val (.ref b187), .val (.ref b191), .unset] [(.ref b187)])) t → Steps p.tables e below (s₁.setTop (entryFrame m #[(.int p1), (.int p2), (.int p3), (.long p4), (.long p5)] maxLocals)) t := by
    intro t k
    refine C193 t ?_
    show Steps p.tables e below (T193.setTop (mkF m 42 #[.val (.int p1), .val (.int p2), .val (.int p3), .val (.long p4), .second, .val (.long p5), .second, .val (.int cc), .val (.int kk), .val (.ref b187), .unset, .unset] [(.ref b191)])) _
    refine XS.astore X193.here hx rfl (hb hby at_42) rfl rfl (l' := #[.val (.int p1), .val (.int p2), .val (.int p3), .val (.long p4), .second, .val (.long p5), .second, .val (.int cc), .val (.int kk), .val (.ref b187), .val (.ref b191), .unset]) rfl ?_
    show Steps p.tables e below (T193.setTop (mkF m 44 #[.val (.int p1), .val (.int p2), .val (.int p3), .val (.long p4), .second, .val (.long p5), .second, .val (.int cc), .val (.int kk), .val (.ref b187), .val (.ref b191), .unset] [])) _
    refine XS.aload X193.here hx rfl (hb hby at_44) rfl rfl ?_
    exact k
  obtain ⟨cq195, kq195, q195a, q195b, q195c⟩ := isOf hZ rfl PA.1
  obtain ⟨_, _, ⟨T195, L195, k195, n195⟩, -, X195, ⟨Lc195, hQ195, l195, y195, z195⟩, st195⟩ := X193.virtualBack hx (y := (⟨"com/example/bucket/bucket/ingest/PointRun", "isFull", "()Z"⟩ : MethodName)) (z := (⟨"com/example/bucket/bucket/ingest/PointRun", "isFull", "()Z"⟩ : MethodName)) hown (mvT hZ (hw _ (List.mem_of_getElem? (i := 35) rfl))) (mvT hZ (hw _ (List.mem_of_getElem? (i := 36) rfl))) (notFace_of_selects (args := #[]) (mvT hZ (hw _ (List.mem_of_getElem? (i := 38) rfl)))) (mvT hZ (hw _ (List.mem_of_getElem? (i := 38) rfl))) (mvT hZ (hw _ (List.mem_of_getElem? (i := 37) rfl))) (by decide) (backOf (W := 0) (rm4 l Z a0 hw [] b187 sa ta va ea cc (0 : Int32) r0 T193.heap n0 Z4 PA hcc.1 hr0) hZ (hw _ (List.mem_of_getElem? (i := 39) rfl)) (hw _ (List.mem_of_getElem? (i := 3) rfl)) (by decide) (by decide)) q195a q195c (g := (mkF m 46 #[.val (.int p1), .val (.int p2), .val (.int p3), .val (.long p4), .second, .val (.long p5), .second, .val (.int cc), .val (.int kk), .val (.ref b187), .val (.ref b191), .unset] [(.ref b187)])) rfl (by rw [hml]; rfl) (Steps.refl _) (argsL := []) (rest := []) (lenOf pd7 rfl) rfl (by show 2 * 0 + _ ≤ _; exact Nat.le_of_eq rfl) (hb hby at_46) (fun _ _ => ⟨rfl, rfl, (by decide : 6 + 0 ≤ _), (by decide : 21 + 0 ≤ _)⟩)
  dsimp only [Pt.U, Pt.locs, Pt.cells, Pt.slots] at X195 l195 y195 z195 st195 hQ195
  subst l195 y195 z195
  obtain ⟨rfl, N195q, q195⟩ := hQ195
  have N195 := Fr.app N193 N195q
  have C195 : ∀ t, Steps p.tables e below (T195.setTop (mkF m 49 #[.val (.int p1), .val (.int p2), .val (.int p3), .val (.long p4), .second, .val (.long p5), .second, .val (.int cc), .val (.int kk), .val (.ref b187), .val (.ref b191), .unset] [(.int r0)])) t → Steps p.tables e below (s₁.setTop (entryFrame m #[(.int p1), (.int p2), (.int p3), (.long p4), (.long p5)] maxLocals)) t := fun t k => C194 t (st195.trans k)
  have C196 : ∀ t, Steps p.tables e below (T195.setTop (mkF m 51 #[.val (.int p1), .val (.int p2), .val (.int p3), .val (.long p4), .second, .val (.long p5), .second, .val (.int cc), .val (.int kk), .val (.ref b187), .val (.ref b191), .unset] [(.int cc), (.int r0)])) t → Steps p.tables e below (s₁.setTop (entryFrame m #[(.int p1), (.int p2), (.int p3), (.long p4), (.long p5)] maxLocals)) t := by
    intro t k
    refine C195 t ?_
    show Steps p.tables e below (T195.setTop (mkF m 49 #[.val (.int p1), .val (.int p2), .val (.int p3), .val (.long p4), .second, .val (.long p5), .second, .val (.int cc), .val (.int kk), .val (.ref b187), .val (.ref b191), .unset] [(.int r0)])) _
    refine XS.iload X195.here hx rfl (hb hby at_49) rfl ?_
    exact k
  have CC0 : ∀ t, Steps p.tables e below (T195.setTop (mkF m 67 #[.val (.int p1), .val (.int p2), .val (.int p3), .val (.long p4), .second, .val (.long p5), .second, .val (.int cc), .val (.int kk), .val (.ref b187), .val (.ref b191), .unset] [(.int (1 : Int32))])) t → Steps p.tables e below (s₁.setTop (entryFrame m #[(.int p1), (.int p2), (.int p3), (.long p4), (.long p5)] maxLocals)) t := by
    rcases hr0 with ⟨hc, er⟩ | ⟨hc, er⟩
    · intro t k
      refine C196 t ?_
      show Steps p.tables e below (T195.setTop (mkF m 51 #[.val (.int p1), .val (.int p2), .val (.int p3), .val (.long p4), .second, .val (.long p5), .second, .val (.int cc), .val (.int kk), .val (.ref b187), .val (.ref b191), .unset] [(.int cc), (.int r0)])) _
      refine XS.ifNo X195.here hx rfl (hb hby at_51) rfl (XT.i0_ne_f (by rw [← hc])) ?_
      show Steps p.tables e below (T195.setTop (mkF m 54 #[.val (.int p1), .val (.int p2), .val (.int p3), .val (.long p4), .second, .val (.long p5), .second, .val (.int cc), .val (.int kk), .val (.ref b187), .val (.ref b191), .unset] [(.int r0)])) _
      refine XS.iconst X195.here hx rfl (hb hby at_54) ?_
      show Steps p.tables e below (T195.setTop (mkF m 55 #[.val (.int p1), .val (.int p2), .val (.int p3), .val (.long p4), .second, .val (.long p5), .second, .val (.int cc), .val (.int kk), .val (.ref b187), .val (.ref b191), .unset] [(.int (1 : Int32)), (.int r0)])) _
      refine XS.goto X195.here hx rfl (pc0 := 55) (pc' := 59) rfl (hb hby at_55) (by decide) (by decide) ?_
      show Steps p.tables e below (T195.setTop (mkF m 59 #[.val (.int p1), .val (.int p2), .val (.int p3), .val (.long p4), .second, .val (.long p5), .second, .val (.int cc), .val (.int kk), .val (.ref b187), .val (.ref b191), .unset] [(.int (1 : Int32)), (.int r0)])) _
      refine XS.icmpNo X195.here hx rfl (hb hby at_59) rfl (XT.ii_ne_f er) ?_
      show Steps p.tables e below (T195.setTop (mkF m 62 #[.val (.int p1), .val (.int p2), .val (.int p3), .val (.long p4), .second, .val (.long p5), .second, .val (.int cc), .val (.int kk), .val (.ref b187), .val (.ref b191), .unset] [])) _
      refine XS.iconst X195.here hx rfl (hb hby at_62) ?_
      show Steps p.tables e below (T195.setTop (mkF m 63 #[.val (.int p1), .val (.int p2), .val (.int p3), .val (.long p4), .second, .val (.long p5), .second, .val (.int cc), .val (.int kk), .val (.ref b187), .val (.ref b191), .unset] [(.int (1 : Int32))])) _
      refine XS.goto X195.here hx rfl (pc0 := 63) (pc' := 67) rfl (hb hby at_63) (by decide) (by decide) ?_
      exact k
    · intro t k
      refine C196 t ?_
      show Steps p.tables e below (T195.setTop (mkF m 51 #[.val (.int p1), .val (.int p2), .val (.int p3), .val (.long p4), .second, .val (.long p5), .second, .val (.int cc), .val (.int kk), .val (.ref b187), .val (.ref b191), .unset] [(.int cc), (.int r0)])) _
      refine XS.ifYes X195.here hx rfl (pc0 := 51) (pc' := 58) rfl (hb hby at_51) rfl (XT.i0_ne_t (fun q => hc q.symm)) (by decide) (by decide) ?_
      show Steps p.tables e below (T195.setTop (mkF m 58 #[.val (.int p1), .val (.int p2), .val (.int p3), .val (.long p4), .second, .val (.long p5), .second, .val (.int cc), .val (.int kk), .val (.ref b187), .val (.ref b191), .unset] [(.int r0)])) _
      refine XS.iconst X195.here hx rfl (hb hby at_58) ?_
      show Steps p.tables e below (T195.setTop (mkF m 59 #[.val (.int p1), .val (.int p2), .val (.int p3), .val (.long p4), .second, .val (.long p5), .second, .val (.int cc), .val (.int kk), .val (.ref b187), .val (.ref b191), .unset] [(.int (0 : Int32)), (.int r0)])) _
      refine XS.icmpNo X195.here hx rfl (hb hby at_59) rfl (XT.ii_ne_f er) ?_
      show Steps p.tables e below (T195.setTop (mkF m 62 #[.val (.int p1), .val (.int p2), .val (.int p3), .val (.long p4), .second, .val (.long p5), .second, .val (.int cc), .val (.int kk), .val (.ref b187), .val (.ref b191), .unset] [])) _
      refine XS.iconst X195.here hx rfl (hb hby at_62) ?_
      show Steps p.tables e below (T195.setTop (mkF m 63 #[.val (.int p1), .val (.int p2), .val (.int p3), .val (.long p4), .second, .val (.long p5), .second, .val (.int cc), .val (.int kk), .val (.ref b187), .val (.ref b191), .unset] [(.int (1 : Int32))])) _
      refine XS.goto X195.here hx rfl (pc0 := 63) (pc' := 67) rfl (hb hby at_63) (by decide) (by decide) ?_
      exact k
  have C197 : ∀ t, Steps p.tables e below (T195.setTop (mkF m 81 #[.val (.int p1), .val (.int p2), .val (.int p3), .val (.long p4), .second, .val (.long p5), .second, .val (.int cc), .val (.int kk), .val (.ref b187), .val (.ref b191), .val (.int (1 : Int32))] [(.long p5), (.ref b191), (.ref b187)])) t → Steps p.tables e below (s₁.setTop (entryFrame m #[(.int p1), (.int p2), (.int p3), (.long p4), (.long p5)] maxLocals)) t := by
    intro t k
    refine CC0 t ?_
    show Steps p.tables e below (T195.setTop (mkF m 67 #[.val (.int p1), .val (.int p2), .val (.int p3), .val (.long p4), .second, .val (.long p5), .second, .val (.int cc), .val (.int kk), .val (.ref b187), .val (.ref b191), .unset] [(.int (1 : Int32))])) _
    refine XS.istore X195.here hx rfl (hb hby at_67) rfl (l' := #[.val (.int p1), .val (.int p2), .val (.int p3), .val (.long p4), .second, .val (.long p5), .second, .val (.int cc), .val (.int kk), .val (.ref b187), .val (.ref b191), .val (.int (1 : Int32))]) rfl ?_
    show Steps p.tables e below (T195.setTop (mkF m 69 #[.val (.int p1), .val (.int p2), .val (.int p3), .val (.long p4), .second, .val (.long p5), .second, .val (.int cc), .val (.int kk), .val (.ref b187), .val (.ref b191), .val (.int (1 : Int32))] [])) _
    refine XS.iload X195.here hx rfl (hb hby at_69) rfl ?_
    show Steps p.tables e below (T195.setTop (mkF m 71 #[.val (.int p1), .val (.int p2), .val (.int p3), .val (.long p4), .second, .val (.long p5), .second, .val (.int cc), .val (.int kk), .val (.ref b187), .val (.ref b191), .val (.int (1 : Int32))] [(.int kk)])) _
    refine XS.iconst X195.here hx rfl (hb hby at_71) ?_
    show Steps p.tables e below (T195.setTop (mkF m 72 #[.val (.int p1), .val (.int p2), .val (.int p3), .val (.long p4), .second, .val (.long p5), .second, .val (.int cc), .val (.int kk), .val (.ref b187), .val (.ref b191), .val (.int (1 : Int32))] [(.int (1 : Int32)), (.int kk)])) _
    refine XS.icmpNo X195.here hx rfl (hb hby at_72) rfl (XT.ii_lt_f (by rw [hkk]; decide)) ?_
    show Steps p.tables e below (T195.setTop (mkF m 75 #[.val (.int p1), .val (.int p2), .val (.int p3), .val (.long p4), .second, .val (.long p5), .second, .val (.int cc), .val (.int kk), .val (.ref b187), .val (.ref b191), .val (.int (1 : Int32))] [])) _
    refine XS.aload X195.here hx rfl (hb hby at_75) rfl rfl ?_
    show Steps p.tables e below (T195.setTop (mkF m 77 #[.val (.int p1), .val (.int p2), .val (.int p3), .val (.long p4), .second, .val (.long p5), .second, .val (.int cc), .val (.int kk), .val (.ref b187), .val (.ref b191), .val (.int (1 : Int32))] [(.ref b187)])) _
    refine XS.aload X195.here hx rfl (hb hby at_77) rfl rfl ?_
    show Steps p.tables e below (T195.setTop (mkF m 79 #[.val (.int p1), .val (.int p2), .val (.int p3), .val (.long p4), .second, .val (.long p5), .second, .val (.int cc), .val (.int kk), .val (.ref b187), .val (.ref b191), .val (.int (1 : Int32))] [(.ref b191), (.ref b187)])) _
    refine XS.lload X195.here hx rfl (hb hby at_79) rfl ?_
    exact k
  obtain ⟨cq198, kq198, q198a, q198b, q198c⟩ := isOf hZ q195 PA.1
  obtain ⟨_, _, ⟨T198, L198, k198, n198⟩, -, X198, ⟨Lc198, hQ198, l198, y198, z198⟩, st198⟩ := X195.virtualBack hx (y := (⟨"com/example/bucket/bucket/ingest/PointRun", "add", "(Lcom/example/bucket/bucket/lineformat/Point;J)V"⟩ : MethodName)) (z := (⟨"com/example/bucket/bucket/ingest/PointRun", "add", "(Lcom/example/bucket/bucket/lineformat/Point;J)V"⟩ : MethodName)) hown (mvT hZ (hw _ (List.mem_of_getElem? (i := 42) rfl))) (mvT hZ (hw _ (List.mem_of_getElem? (i := 43) rfl))) (notFace_of_selects (args := #[]) (mvT hZ (hw _ (List.mem_of_getElem? (i := 45) rfl)))) (mvT hZ (hw _ (List.mem_of_getElem? (i := 45) rfl))) (mvT hZ (hw _ (List.mem_of_getElem? (i := 44) rfl))) (by decide) (backOf (W := 0) (rm5 l Z a0 hw [] b187 b191 p5 sa ta va ea cc.toNatClampNeg 0 1 p4 (FP.i2d (p3 &&& (255 : Int32))) T193.heap n0 Z4 PA Q193 (own_room hkb (by decide)) (by decide) g1 gs gt gv ge) hZ (hw _ (List.mem_of_getElem? (i := 46) rfl)) (hw _ (List.mem_of_getElem? (i := 3) rfl)) (by decide) (by decide)) q198a q198c (g := (mkF m 81 #[.val (.int p1), .val (.int p2), .val (.int p3), .val (.long p4), .second, .val (.long p5), .second, .val (.int cc), .val (.int kk), .val (.ref b187), .val (.ref b191), .val (.int (1 : Int32))] [(.long p5), (.ref b191), (.ref b187)])) rfl (by rw [hml]; rfl) (Steps.refl _) (argsL := [(.ref b191), (.long p5)]) (rest := []) (lenOf pd9 rfl) rfl (by show 2 * 0 + _ ≤ _; exact Nat.le_of_eq rfl) (hb hby at_81) (fun _ _ => ⟨rfl, q195, (by decide : 6 + 0 ≤ _), (by decide : 21 + 0 ≤ _)⟩)
  dsimp only [Pt.U, Pt.locs, Pt.cells, Pt.slots] at X198 l198 y198 z198 st198 hQ198
  subst l198 y198 z198
  obtain ⟨rfl, N198q, P198, Q198, s198⟩ := hQ198
  have N198 := Fr.app N195 N198q
  have C198 : ∀ t, Steps p.tables e below (T198.setTop (mkF m 84 #[.val (.int p1), .val (.int p2), .val (.int p3), .val (.long p4), .second, .val (.long p5), .second, .val (.int cc), .val (.int kk), .val (.ref b187), .val (.ref b191), .val (.int (1 : Int32))] [])) t → Steps p.tables e below (s₁.setTop (entryFrame m #[(.int p1), (.int p2), (.int p3), (.long p4), (.long p5)] maxLocals)) t := fun t k => C197 t (st198.trans k)
  have ZZ198 : n0 ≤ T198.heap.size := Nat.le_trans Z4 s198
  obtain ⟨r1, hr1⟩ : ∃ r : Int32, ((1 : Int32) = cc ∧ r = 1) ∨ (¬ (1 : Int32) = cc ∧ r = 0) := by
    by_cases q : (1 : Int32) = cc
    · exact ⟨1, Or.inl ⟨q, rfl⟩⟩
    · exact ⟨0, Or.inr ⟨q, rfl⟩⟩
  have C199 : ∀ t, Steps p.tables e below (T198.setTop (mkF m 88 #[.val (.int p1), .val (.int p2), .val (.int p3), .val (.long p4), .second, .val (.long p5), .second, .val (.int cc), .val (.int kk), .val (.ref b187), .val (.ref b191), .val (.int (1 : Int32))] [(.ref b187), (.int (1 : Int32))])) t → Steps p.tables e below (s₁.setTop (entryFrame m #[(.int p1), (.int p2), (.int p3), (.long p4), (.long p5)] maxLocals)) t := by
    intro t k
    refine C198 t ?_
    show Steps p.tables e below (T198.setTop (mkF m 84 #[.val (.int p1), .val (.int p2), .val (.int p3), .val (.long p4), .second, .val (.long p5), .second, .val (.int cc), .val (.int kk), .val (.ref b187), .val (.ref b191), .val (.int (1 : Int32))] [])) _
    refine XS.iload X198.here hx rfl (hb hby at_84) rfl ?_
    show Steps p.tables e below (T198.setTop (mkF m 86 #[.val (.int p1), .val (.int p2), .val (.int p3), .val (.long p4), .second, .val (.long p5), .second, .val (.int cc), .val (.int kk), .val (.ref b187), .val (.ref b191), .val (.int (1 : Int32))] [(.int (1 : Int32))])) _
    refine XS.aload X198.here hx rfl (hb hby at_86) rfl rfl ?_
    exact k
  obtain ⟨cq200, kq200, q200a, q200b, q200c⟩ := isOf hZ rfl P198.1
  obtain ⟨_, _, ⟨T200, L200, k200, n200⟩, -, X200, ⟨Lc200, hQ200, l200, y200, z200⟩, st200⟩ := X198.virtualBack hx (y := (⟨"com/example/bucket/bucket/ingest/PointRun", "isFull", "()Z"⟩ : MethodName)) (z := (⟨"com/example/bucket/bucket/ingest/PointRun", "isFull", "()Z"⟩ : MethodName)) hown (mvT hZ (hw _ (List.mem_of_getElem? (i := 35) rfl))) (mvT hZ (hw _ (List.mem_of_getElem? (i := 36) rfl))) (notFace_of_selects (args := #[]) (mvT hZ (hw _ (List.mem_of_getElem? (i := 38) rfl)))) (mvT hZ (hw _ (List.mem_of_getElem? (i := 38) rfl))) (mvT hZ (hw _ (List.mem_of_getElem? (i := 37) rfl))) (by decide) (backOf (W := 1) (rm4 l Z a0 hw [] b187 sa ta va ea cc (1 : Int32) r1 T198.heap n0 ZZ198 P198 hcc.1 hr1) hZ (hw _ (List.mem_of_getElem? (i := 39) rfl)) (hw _ (List.mem_of_getElem? (i := 3) rfl)) (by decide) (by decide)) q200a q200c (g := (mkF m 88 #[.val (.int p1), .val (.int p2), .val (.int p3), .val (.long p4), .second, .val (.long p5), .second, .val (.int cc), .val (.int kk), .val (.ref b187), .val (.ref b191), .val (.int (1 : Int32))] [(.ref b187), (.int (1 : Int32))])) rfl (by rw [hml]; rfl) (Steps.refl _) (argsL := []) (rest := [(.int (1 : Int32))]) (lenOf pd7 rfl) rfl (by show 2 * 0 + _ ≤ _; exact Nat.le_of_eq rfl) (hb hby at_88) (fun _ _ => ⟨rfl, rfl, (by decide : 6 + 0 ≤ _), (by decide : 21 + 0 ≤ _)⟩)
  dsimp only [Pt.U, Pt.locs, Pt.cells, Pt.slots] at X200 l200 y200 z200 st200 hQ200
  subst l200 y200 z200
  obtain ⟨rfl, N200q, q200⟩ := hQ200
  have N200 := Fr.app N198 N200q
  have C200 : ∀ t, Steps p.tables e below (T200.setTop (mkF m 91 #[.val (.int p1), .val (.int p2), .val (.int p3), .val (.long p4), .second, .val (.long p5), .second, .val (.int cc), .val (.int kk), .val (.ref b187), .val (.ref b191), .val (.int (1 : Int32))] [(.int r1), (.int (1 : Int32))])) t → Steps p.tables e below (s₁.setTop (entryFrame m #[(.int p1), (.int p2), (.int p3), (.long p4), (.long p5)] maxLocals)) t := fun t k => C199 t (st200.trans k)
  have C201 : ∀ t, Steps p.tables e below (T200.setTop (mkF m 94 #[.val (.int p1), .val (.int p2), .val (.int p3), .val (.long p4), .second, .val (.long p5), .second, .val (.int cc), .val (.int kk), .val (.ref b187), .val (.ref b191), .val (.int (1 : Int32))] [(.int (1 : Int32)), (.int cc), (.int r1), (.int (1 : Int32))])) t → Steps p.tables e below (s₁.setTop (entryFrame m #[(.int p1), (.int p2), (.int p3), (.long p4), (.long p5)] maxLocals)) t := by
    intro t k
    refine C200 t ?_
    show Steps p.tables e below (T200.setTop (mkF m 91 #[.val (.int p1), .val (.int p2), .val (.int p3), .val (.long p4), .second, .val (.long p5), .second, .val (.int cc), .val (.int kk), .val (.ref b187), .val (.ref b191), .val (.int (1 : Int32))] [(.int r1), (.int (1 : Int32))])) _
    refine XS.iload X200.here hx rfl (hb hby at_91) rfl ?_
    show Steps p.tables e below (T200.setTop (mkF m 93 #[.val (.int p1), .val (.int p2), .val (.int p3), .val (.long p4), .second, .val (.long p5), .second, .val (.int cc), .val (.int kk), .val (.ref b187), .val (.ref b191), .val (.int (1 : Int32))] [(.int cc), (.int r1), (.int (1 : Int32))])) _
    refine XS.iconst X200.here hx rfl (hb hby at_93) ?_
    exact k
  have CC1 : ∀ t, Steps p.tables e below (T200.setTop (mkF m 110 #[.val (.int p1), .val (.int p2), .val (.int p3), .val (.long p4), .second, .val (.long p5), .second, .val (.int cc), .val (.int kk), .val (.ref b187), .val (.ref b191), .val (.int (1 : Int32))] [(.int (1 : Int32)), (.int (1 : Int32))])) t → Steps p.tables e below (s₁.setTop (entryFrame m #[(.int p1), (.int p2), (.int p3), (.long p4), (.long p5)] maxLocals)) t := by
    rcases hr1 with ⟨hc, er⟩ | ⟨hc, er⟩
    · intro t k
      refine C201 t ?_
      show Steps p.tables e below (T200.setTop (mkF m 94 #[.val (.int p1), .val (.int p2), .val (.int p3), .val (.long p4), .second, .val (.long p5), .second, .val (.int cc), .val (.int kk), .val (.ref b187), .val (.ref b191), .val (.int (1 : Int32))] [(.int (1 : Int32)), (.int cc), (.int r1), (.int (1 : Int32))])) _
      refine XS.icmpNo X200.here hx rfl (hb hby at_94) rfl (XT.ii_ne_f hc.symm) ?_
      show Steps p.tables e below (T200.setTop (mkF m 97 #[.val (.int p1), .val (.int p2), .val (.int p3), .val (.long p4), .second, .val (.long p5), .second, .val (.int cc), .val (.int kk), .val (.ref b187), .val (.ref b191), .val (.int (1 : Int32))] [(.int r1), (.int (1 : Int32))])) _
      refine XS.iconst X200.here hx rfl (hb hby at_97) ?_
      show Steps p.tables e below (T200.setTop (mkF m 98 #[.val (.int p1), .val (.int p2), .val (.int p3), .val (.long p4), .second, .val (.long p5), .second, .val (.int cc), .val (.int kk), .val (.ref b187), .val (.ref b191), .val (.int (1 : Int32))] [(.int (1 : Int32)), (.int r1), (.int (1 : Int32))])) _
      refine XS.goto X200.here hx rfl (pc0 := 98) (pc' := 102) rfl (hb hby at_98) (by decide) (by decide) ?_
      show Steps p.tables e below (T200.setTop (mkF m 102 #[.val (.int p1), .val (.int p2), .val (.int p3), .val (.long p4), .second, .val (.long p5), .second, .val (.int cc), .val (.int kk), .val (.ref b187), .val (.ref b191), .val (.int (1 : Int32))] [(.int (1 : Int32)), (.int r1), (.int (1 : Int32))])) _
      refine XS.icmpNo X200.here hx rfl (hb hby at_102) rfl (XT.ii_ne_f er) ?_
      show Steps p.tables e below (T200.setTop (mkF m 105 #[.val (.int p1), .val (.int p2), .val (.int p3), .val (.long p4), .second, .val (.long p5), .second, .val (.int cc), .val (.int kk), .val (.ref b187), .val (.ref b191), .val (.int (1 : Int32))] [(.int (1 : Int32))])) _
      refine XS.iconst X200.here hx rfl (hb hby at_105) ?_
      show Steps p.tables e below (T200.setTop (mkF m 106 #[.val (.int p1), .val (.int p2), .val (.int p3), .val (.long p4), .second, .val (.long p5), .second, .val (.int cc), .val (.int kk), .val (.ref b187), .val (.ref b191), .val (.int (1 : Int32))] [(.int (1 : Int32)), (.int (1 : Int32))])) _
      refine XS.goto X200.here hx rfl (pc0 := 106) (pc' := 110) rfl (hb hby at_106) (by decide) (by decide) ?_
      exact k
    · intro t k
      refine C201 t ?_
      show Steps p.tables e below (T200.setTop (mkF m 94 #[.val (.int p1), .val (.int p2), .val (.int p3), .val (.long p4), .second, .val (.long p5), .second, .val (.int cc), .val (.int kk), .val (.ref b187), .val (.ref b191), .val (.int (1 : Int32))] [(.int (1 : Int32)), (.int cc), (.int r1), (.int (1 : Int32))])) _
      refine XS.icmpYes X200.here hx rfl (pc0 := 94) (pc' := 101) rfl (hb hby at_94) rfl (XT.ii_ne_t (fun q => hc q.symm)) (by decide) (by decide) ?_
      show Steps p.tables e below (T200.setTop (mkF m 101 #[.val (.int p1), .val (.int p2), .val (.int p3), .val (.long p4), .second, .val (.long p5), .second, .val (.int cc), .val (.int kk), .val (.ref b187), .val (.ref b191), .val (.int (1 : Int32))] [(.int r1), (.int (1 : Int32))])) _
      refine XS.iconst X200.here hx rfl (hb hby at_101) ?_
      show Steps p.tables e below (T200.setTop (mkF m 102 #[.val (.int p1), .val (.int p2), .val (.int p3), .val (.long p4), .second, .val (.long p5), .second, .val (.int cc), .val (.int kk), .val (.ref b187), .val (.ref b191), .val (.int (1 : Int32))] [(.int (0 : Int32)), (.int r1), (.int (1 : Int32))])) _
      refine XS.icmpNo X200.here hx rfl (hb hby at_102) rfl (XT.ii_ne_f er) ?_
      show Steps p.tables e below (T200.setTop (mkF m 105 #[.val (.int p1), .val (.int p2), .val (.int p3), .val (.long p4), .second, .val (.long p5), .second, .val (.int cc), .val (.int kk), .val (.ref b187), .val (.ref b191), .val (.int (1 : Int32))] [(.int (1 : Int32))])) _
      refine XS.iconst X200.here hx rfl (hb hby at_105) ?_
      show Steps p.tables e below (T200.setTop (mkF m 106 #[.val (.int p1), .val (.int p2), .val (.int p3), .val (.long p4), .second, .val (.long p5), .second, .val (.int cc), .val (.int kk), .val (.ref b187), .val (.ref b191), .val (.int (1 : Int32))] [(.int (1 : Int32)), (.int (1 : Int32))])) _
      refine XS.goto X200.here hx rfl (pc0 := 106) (pc' := 110) rfl (hb hby at_106) (by decide) (by decide) ?_
      exact k
  have C202 : ∀ t, Steps p.tables e below (T200.setTop (mkF m 125 #[.val (.int p1), .val (.int p2), .val (.int p3), .val (.long p4), .second, .val (.long p5), .second, .val (.int cc), .val (.int kk), .val (.ref b187), .val (.ref b191), .val (.int (1 : Int32))] [(.long p5), (.ref b191), (.ref b187)])) t → Steps p.tables e below (s₁.setTop (entryFrame m #[(.int p1), (.int p2), (.int p3), (.long p4), (.long p5)] maxLocals)) t := by
    intro t k
    refine CC1 t ?_
    show Steps p.tables e below (T200.setTop (mkF m 110 #[.val (.int p1), .val (.int p2), .val (.int p3), .val (.long p4), .second, .val (.long p5), .second, .val (.int cc), .val (.int kk), .val (.ref b187), .val (.ref b191), .val (.int (1 : Int32))] [(.int (1 : Int32)), (.int (1 : Int32))])) _
    refine XS.iand X200.here hx rfl (hb hby at_110) rfl ?_
    show Steps p.tables e below (T200.setTop (mkF m 111 #[.val (.int p1), .val (.int p2), .val (.int p3), .val (.long p4), .second, .val (.long p5), .second, .val (.int cc), .val (.int kk), .val (.ref b187), .val (.ref b191), .val (.int (1 : Int32))] [(.int (1 : Int32))])) _
    refine XS.istore X200.here hx rfl (hb hby at_111) rfl (l' := #[.val (.int p1), .val (.int p2), .val (.int p3), .val (.long p4), .second, .val (.long p5), .second, .val (.int cc), .val (.int kk), .val (.ref b187), .val (.ref b191), .val (.int (1 : Int32))]) rfl ?_
    show Steps p.tables e below (T200.setTop (mkF m 113 #[.val (.int p1), .val (.int p2), .val (.int p3), .val (.long p4), .second, .val (.long p5), .second, .val (.int cc), .val (.int kk), .val (.ref b187), .val (.ref b191), .val (.int (1 : Int32))] [])) _
    refine XS.iload X200.here hx rfl (hb hby at_113) rfl ?_
    show Steps p.tables e below (T200.setTop (mkF m 115 #[.val (.int p1), .val (.int p2), .val (.int p3), .val (.long p4), .second, .val (.long p5), .second, .val (.int cc), .val (.int kk), .val (.ref b187), .val (.ref b191), .val (.int (1 : Int32))] [(.int kk)])) _
    refine XS.iconst X200.here hx rfl (hb hby at_115) ?_
    show Steps p.tables e below (T200.setTop (mkF m 116 #[.val (.int p1), .val (.int p2), .val (.int p3), .val (.long p4), .second, .val (.long p5), .second, .val (.int cc), .val (.int kk), .val (.ref b187), .val (.ref b191), .val (.int (1 : Int32))] [(.int (2 : Int32)), (.int kk)])) _
    refine XS.icmpNo X200.here hx rfl (hb hby at_116) rfl (XT.ii_lt_f (by rw [hkk]; decide)) ?_
    show Steps p.tables e below (T200.setTop (mkF m 119 #[.val (.int p1), .val (.int p2), .val (.int p3), .val (.long p4), .second, .val (.long p5), .second, .val (.int cc), .val (.int kk), .val (.ref b187), .val (.ref b191), .val (.int (1 : Int32))] [])) _
    refine XS.aload X200.here hx rfl (hb hby at_119) rfl rfl ?_
    show Steps p.tables e below (T200.setTop (mkF m 121 #[.val (.int p1), .val (.int p2), .val (.int p3), .val (.long p4), .second, .val (.long p5), .second, .val (.int cc), .val (.int kk), .val (.ref b187), .val (.ref b191), .val (.int (1 : Int32))] [(.ref b187)])) _
    refine XS.aload X200.here hx rfl (hb hby at_121) rfl rfl ?_
    show Steps p.tables e below (T200.setTop (mkF m 123 #[.val (.int p1), .val (.int p2), .val (.int p3), .val (.long p4), .second, .val (.long p5), .second, .val (.int cc), .val (.int kk), .val (.ref b187), .val (.ref b191), .val (.int (1 : Int32))] [(.ref b191), (.ref b187)])) _
    refine XS.lload X200.here hx rfl (hb hby at_123) rfl ?_
    exact k
  obtain ⟨cq203, kq203, q203a, q203b, q203c⟩ := isOf hZ q200 P198.1
  obtain ⟨_, _, ⟨T203, L203, k203, n203⟩, -, X203, ⟨Lc203, hQ203, l203, y203, z203⟩, st203⟩ := X200.virtualBack hx (y := (⟨"com/example/bucket/bucket/ingest/PointRun", "add", "(Lcom/example/bucket/bucket/lineformat/Point;J)V"⟩ : MethodName)) (z := (⟨"com/example/bucket/bucket/ingest/PointRun", "add", "(Lcom/example/bucket/bucket/lineformat/Point;J)V"⟩ : MethodName)) hown (mvT hZ (hw _ (List.mem_of_getElem? (i := 42) rfl))) (mvT hZ (hw _ (List.mem_of_getElem? (i := 43) rfl))) (notFace_of_selects (args := #[]) (mvT hZ (hw _ (List.mem_of_getElem? (i := 45) rfl)))) (mvT hZ (hw _ (List.mem_of_getElem? (i := 45) rfl))) (mvT hZ (hw _ (List.mem_of_getElem? (i := 44) rfl))) (by decide) (backOf (W := 0) (rm5 l Z a0 hw [] b187 b191 p5 sa ta va ea cc.toNatClampNeg 1 2 p4 (FP.i2d (p3 &&& (255 : Int32))) T198.heap n0 ZZ198 P198 Q198 (own_room hkb (by decide)) (by decide) g1 gs gt gv ge) hZ (hw _ (List.mem_of_getElem? (i := 46) rfl)) (hw _ (List.mem_of_getElem? (i := 3) rfl)) (by decide) (by decide)) q203a q203c (g := (mkF m 125 #[.val (.int p1), .val (.int p2), .val (.int p3), .val (.long p4), .second, .val (.long p5), .second, .val (.int cc), .val (.int kk), .val (.ref b187), .val (.ref b191), .val (.int (1 : Int32))] [(.long p5), (.ref b191), (.ref b187)])) rfl (by rw [hml]; rfl) (Steps.refl _) (argsL := [(.ref b191), (.long p5)]) (rest := []) (lenOf pd9 rfl) rfl (by show 2 * 0 + _ ≤ _; exact Nat.le_of_eq rfl) (hb hby at_125) (fun _ _ => ⟨rfl, q200, (by decide : 6 + 0 ≤ _), (by decide : 21 + 0 ≤ _)⟩)
  dsimp only [Pt.U, Pt.locs, Pt.cells, Pt.slots] at X203 l203 y203 z203 st203 hQ203
  subst l203 y203 z203
  obtain ⟨rfl, N203q, P203, Q203, s203⟩ := hQ203
  have N203 := Fr.app N200 N203q
  have C203 : ∀ t, Steps p.tables e below (T203.setTop (mkF m 128 #[.val (.int p1), .val (.int p2), .val (.int p3), .val (.long p4), .second, .val (.long p5), .second, .val (.int cc), .val (.int kk), .val (.ref b187), .val (.ref b191), .val (.int (1 : Int32))] [])) t → Steps p.tables e below (s₁.setTop (entryFrame m #[(.int p1), (.int p2), (.int p3), (.long p4), (.long p5)] maxLocals)) t := fun t k => C202 t (st203.trans k)
  have ZZ203 : n0 ≤ T203.heap.size := Nat.le_trans ZZ198 s203
  obtain ⟨r2, hr2⟩ : ∃ r : Int32, ((2 : Int32) = cc ∧ r = 1) ∨ (¬ (2 : Int32) = cc ∧ r = 0) := by
    by_cases q : (2 : Int32) = cc
    · exact ⟨1, Or.inl ⟨q, rfl⟩⟩
    · exact ⟨0, Or.inr ⟨q, rfl⟩⟩
  have C204 : ∀ t, Steps p.tables e below (T203.setTop (mkF m 132 #[.val (.int p1), .val (.int p2), .val (.int p3), .val (.long p4), .second, .val (.long p5), .second, .val (.int cc), .val (.int kk), .val (.ref b187), .val (.ref b191), .val (.int (1 : Int32))] [(.ref b187), (.int (1 : Int32))])) t → Steps p.tables e below (s₁.setTop (entryFrame m #[(.int p1), (.int p2), (.int p3), (.long p4), (.long p5)] maxLocals)) t := by
    intro t k
    refine C203 t ?_
    show Steps p.tables e below (T203.setTop (mkF m 128 #[.val (.int p1), .val (.int p2), .val (.int p3), .val (.long p4), .second, .val (.long p5), .second, .val (.int cc), .val (.int kk), .val (.ref b187), .val (.ref b191), .val (.int (1 : Int32))] [])) _
    refine XS.iload X203.here hx rfl (hb hby at_128) rfl ?_
    show Steps p.tables e below (T203.setTop (mkF m 130 #[.val (.int p1), .val (.int p2), .val (.int p3), .val (.long p4), .second, .val (.long p5), .second, .val (.int cc), .val (.int kk), .val (.ref b187), .val (.ref b191), .val (.int (1 : Int32))] [(.int (1 : Int32))])) _
    refine XS.aload X203.here hx rfl (hb hby at_130) rfl rfl ?_
    exact k
  obtain ⟨cq205, kq205, q205a, q205b, q205c⟩ := isOf hZ rfl P203.1
  obtain ⟨_, _, ⟨T205, L205, k205, n205⟩, -, X205, ⟨Lc205, hQ205, l205, y205, z205⟩, st205⟩ := X203.virtualBack hx (y := (⟨"com/example/bucket/bucket/ingest/PointRun", "isFull", "()Z"⟩ : MethodName)) (z := (⟨"com/example/bucket/bucket/ingest/PointRun", "isFull", "()Z"⟩ : MethodName)) hown (mvT hZ (hw _ (List.mem_of_getElem? (i := 35) rfl))) (mvT hZ (hw _ (List.mem_of_getElem? (i := 36) rfl))) (notFace_of_selects (args := #[]) (mvT hZ (hw _ (List.mem_of_getElem? (i := 38) rfl)))) (mvT hZ (hw _ (List.mem_of_getElem? (i := 38) rfl))) (mvT hZ (hw _ (List.mem_of_getElem? (i := 37) rfl))) (by decide) (backOf (W := 1) (rm4 l Z a0 hw [] b187 sa ta va ea cc (2 : Int32) r2 T203.heap n0 ZZ203 P203 hcc.1 hr2) hZ (hw _ (List.mem_of_getElem? (i := 39) rfl)) (hw _ (List.mem_of_getElem? (i := 3) rfl)) (by decide) (by decide)) q205a q205c (g := (mkF m 132 #[.val (.int p1), .val (.int p2), .val (.int p3), .val (.long p4), .second, .val (.long p5), .second, .val (.int cc), .val (.int kk), .val (.ref b187), .val (.ref b191), .val (.int (1 : Int32))] [(.ref b187), (.int (1 : Int32))])) rfl (by rw [hml]; rfl) (Steps.refl _) (argsL := []) (rest := [(.int (1 : Int32))]) (lenOf pd7 rfl) rfl (by show 2 * 0 + _ ≤ _; exact Nat.le_of_eq rfl) (hb hby at_132) (fun _ _ => ⟨rfl, rfl, (by decide : 6 + 0 ≤ _), (by decide : 21 + 0 ≤ _)⟩)
  dsimp only [Pt.U, Pt.locs, Pt.cells, Pt.slots] at X205 l205 y205 z205 st205 hQ205
  subst l205 y205 z205
  obtain ⟨rfl, N205q, q205⟩ := hQ205
  have N205 := Fr.app N203 N205q
  have C205 : ∀ t, Steps p.tables e below (T205.setTop (mkF m 135 #[.val (.int p1), .val (.int p2), .val (.int p3), .val (.long p4), .second, .val (.long p5), .second, .val (.int cc), .val (.int kk), .val (.ref b187), .val (.ref b191), .val (.int (1 : Int32))] [(.int r2), (.int (1 : Int32))])) t → Steps p.tables e below (s₁.setTop (entryFrame m #[(.int p1), (.int p2), (.int p3), (.long p4), (.long p5)] maxLocals)) t := fun t k => C204 t (st205.trans k)
  have C206 : ∀ t, Steps p.tables e below (T205.setTop (mkF m 138 #[.val (.int p1), .val (.int p2), .val (.int p3), .val (.long p4), .second, .val (.long p5), .second, .val (.int cc), .val (.int kk), .val (.ref b187), .val (.ref b191), .val (.int (1 : Int32))] [(.int (2 : Int32)), (.int cc), (.int r2), (.int (1 : Int32))])) t → Steps p.tables e below (s₁.setTop (entryFrame m #[(.int p1), (.int p2), (.int p3), (.long p4), (.long p5)] maxLocals)) t := by
    intro t k
    refine C205 t ?_
    show Steps p.tables e below (T205.setTop (mkF m 135 #[.val (.int p1), .val (.int p2), .val (.int p3), .val (.long p4), .second, .val (.long p5), .second, .val (.int cc), .val (.int kk), .val (.ref b187), .val (.ref b191), .val (.int (1 : Int32))] [(.int r2), (.int (1 : Int32))])) _
    refine XS.iload X205.here hx rfl (hb hby at_135) rfl ?_
    show Steps p.tables e below (T205.setTop (mkF m 137 #[.val (.int p1), .val (.int p2), .val (.int p3), .val (.long p4), .second, .val (.long p5), .second, .val (.int cc), .val (.int kk), .val (.ref b187), .val (.ref b191), .val (.int (1 : Int32))] [(.int cc), (.int r2), (.int (1 : Int32))])) _
    refine XS.iconst X205.here hx rfl (hb hby at_137) ?_
    exact k
  have CC2 : ∀ t, Steps p.tables e below (T205.setTop (mkF m 154 #[.val (.int p1), .val (.int p2), .val (.int p3), .val (.long p4), .second, .val (.long p5), .second, .val (.int cc), .val (.int kk), .val (.ref b187), .val (.ref b191), .val (.int (1 : Int32))] [(.int (1 : Int32)), (.int (1 : Int32))])) t → Steps p.tables e below (s₁.setTop (entryFrame m #[(.int p1), (.int p2), (.int p3), (.long p4), (.long p5)] maxLocals)) t := by
    rcases hr2 with ⟨hc, er⟩ | ⟨hc, er⟩
    · intro t k
      refine C206 t ?_
      show Steps p.tables e below (T205.setTop (mkF m 138 #[.val (.int p1), .val (.int p2), .val (.int p3), .val (.long p4), .second, .val (.long p5), .second, .val (.int cc), .val (.int kk), .val (.ref b187), .val (.ref b191), .val (.int (1 : Int32))] [(.int (2 : Int32)), (.int cc), (.int r2), (.int (1 : Int32))])) _
      refine XS.icmpNo X205.here hx rfl (hb hby at_138) rfl (XT.ii_ne_f hc.symm) ?_
      show Steps p.tables e below (T205.setTop (mkF m 141 #[.val (.int p1), .val (.int p2), .val (.int p3), .val (.long p4), .second, .val (.long p5), .second, .val (.int cc), .val (.int kk), .val (.ref b187), .val (.ref b191), .val (.int (1 : Int32))] [(.int r2), (.int (1 : Int32))])) _
      refine XS.iconst X205.here hx rfl (hb hby at_141) ?_
      show Steps p.tables e below (T205.setTop (mkF m 142 #[.val (.int p1), .val (.int p2), .val (.int p3), .val (.long p4), .second, .val (.long p5), .second, .val (.int cc), .val (.int kk), .val (.ref b187), .val (.ref b191), .val (.int (1 : Int32))] [(.int (1 : Int32)), (.int r2), (.int (1 : Int32))])) _
      refine XS.goto X205.here hx rfl (pc0 := 142) (pc' := 146) rfl (hb hby at_142) (by decide) (by decide) ?_
      show Steps p.tables e below (T205.setTop (mkF m 146 #[.val (.int p1), .val (.int p2), .val (.int p3), .val (.long p4), .second, .val (.long p5), .second, .val (.int cc), .val (.int kk), .val (.ref b187), .val (.ref b191), .val (.int (1 : Int32))] [(.int (1 : Int32)), (.int r2), (.int (1 : Int32))])) _
      refine XS.icmpNo X205.here hx rfl (hb hby at_146) rfl (XT.ii_ne_f er) ?_
      show Steps p.tables e below (T205.setTop (mkF m 149 #[.val (.int p1), .val (.int p2), .val (.int p3), .val (.long p4), .second, .val (.long p5), .second, .val (.int cc), .val (.int kk), .val (.ref b187), .val (.ref b191), .val (.int (1 : Int32))] [(.int (1 : Int32))])) _
      refine XS.iconst X205.here hx rfl (hb hby at_149) ?_
      show Steps p.tables e below (T205.setTop (mkF m 150 #[.val (.int p1), .val (.int p2), .val (.int p3), .val (.long p4), .second, .val (.long p5), .second, .val (.int cc), .val (.int kk), .val (.ref b187), .val (.ref b191), .val (.int (1 : Int32))] [(.int (1 : Int32)), (.int (1 : Int32))])) _
      refine XS.goto X205.here hx rfl (pc0 := 150) (pc' := 154) rfl (hb hby at_150) (by decide) (by decide) ?_
      exact k
    · intro t k
      refine C206 t ?_
      show Steps p.tables e below (T205.setTop (mkF m 138 #[.val (.int p1), .val (.int p2), .val (.int p3), .val (.long p4), .second, .val (.long p5), .second, .val (.int cc), .val (.int kk), .val (.ref b187), .val (.ref b191), .val (.int (1 : Int32))] [(.int (2 : Int32)), (.int cc), (.int r2), (.int (1 : Int32))])) _
      refine XS.icmpYes X205.here hx rfl (pc0 := 138) (pc' := 145) rfl (hb hby at_138) rfl (XT.ii_ne_t (fun q => hc q.symm)) (by decide) (by decide) ?_
      show Steps p.tables e below (T205.setTop (mkF m 145 #[.val (.int p1), .val (.int p2), .val (.int p3), .val (.long p4), .second, .val (.long p5), .second, .val (.int cc), .val (.int kk), .val (.ref b187), .val (.ref b191), .val (.int (1 : Int32))] [(.int r2), (.int (1 : Int32))])) _
      refine XS.iconst X205.here hx rfl (hb hby at_145) ?_
      show Steps p.tables e below (T205.setTop (mkF m 146 #[.val (.int p1), .val (.int p2), .val (.int p3), .val (.long p4), .second, .val (.long p5), .second, .val (.int cc), .val (.int kk), .val (.ref b187), .val (.ref b191), .val (.int (1 : Int32))] [(.int (0 : Int32)), (.int r2), (.int (1 : Int32))])) _
      refine XS.icmpNo X205.here hx rfl (hb hby at_146) rfl (XT.ii_ne_f er) ?_
      show Steps p.tables e below (T205.setTop (mkF m 149 #[.val (.int p1), .val (.int p2), .val (.int p3), .val (.long p4), .second, .val (.long p5), .second, .val (.int cc), .val (.int kk), .val (.ref b187), .val (.ref b191), .val (.int (1 : Int32))] [(.int (1 : Int32))])) _
      refine XS.iconst X205.here hx rfl (hb hby at_149) ?_
      show Steps p.tables e below (T205.setTop (mkF m 150 #[.val (.int p1), .val (.int p2), .val (.int p3), .val (.long p4), .second, .val (.long p5), .second, .val (.int cc), .val (.int kk), .val (.ref b187), .val (.ref b191), .val (.int (1 : Int32))] [(.int (1 : Int32)), (.int (1 : Int32))])) _
      refine XS.goto X205.here hx rfl (pc0 := 150) (pc' := 154) rfl (hb hby at_150) (by decide) (by decide) ?_
      exact k
  have C207 : ∀ t, Steps p.tables e below (T205.setTop (mkF m 211 #[.val (.int p1), .val (.int p2), .val (.int p3), .val (.long p4), .second, .val (.long p5), .second, .val (.int cc), .val (.int kk), .val (.ref b187), .val (.ref b191), .val (.int (1 : Int32))] [(.ref b187)])) t → Steps p.tables e below (s₁.setTop (entryFrame m #[(.int p1), (.int p2), (.int p3), (.long p4), (.long p5)] maxLocals)) t := by
    intro t k
    refine CC2 t ?_
    show Steps p.tables e below (T205.setTop (mkF m 154 #[.val (.int p1), .val (.int p2), .val (.int p3), .val (.long p4), .second, .val (.long p5), .second, .val (.int cc), .val (.int kk), .val (.ref b187), .val (.ref b191), .val (.int (1 : Int32))] [(.int (1 : Int32)), (.int (1 : Int32))])) _
    refine XS.iand X205.here hx rfl (hb hby at_154) rfl ?_
    show Steps p.tables e below (T205.setTop (mkF m 155 #[.val (.int p1), .val (.int p2), .val (.int p3), .val (.long p4), .second, .val (.long p5), .second, .val (.int cc), .val (.int kk), .val (.ref b187), .val (.ref b191), .val (.int (1 : Int32))] [(.int (1 : Int32))])) _
    refine XS.istore X205.here hx rfl (hb hby at_155) rfl (l' := #[.val (.int p1), .val (.int p2), .val (.int p3), .val (.long p4), .second, .val (.long p5), .second, .val (.int cc), .val (.int kk), .val (.ref b187), .val (.ref b191), .val (.int (1 : Int32))]) rfl ?_
    show Steps p.tables e below (T205.setTop (mkF m 157 #[.val (.int p1), .val (.int p2), .val (.int p3), .val (.long p4), .second, .val (.long p5), .second, .val (.int cc), .val (.int kk), .val (.ref b187), .val (.ref b191), .val (.int (1 : Int32))] [])) _
    refine XS.iload X205.here hx rfl (hb hby at_157) rfl ?_
    show Steps p.tables e below (T205.setTop (mkF m 159 #[.val (.int p1), .val (.int p2), .val (.int p3), .val (.long p4), .second, .val (.long p5), .second, .val (.int cc), .val (.int kk), .val (.ref b187), .val (.ref b191), .val (.int (1 : Int32))] [(.int kk)])) _
    refine XS.iconst X205.here hx rfl (hb hby at_159) ?_
    show Steps p.tables e below (T205.setTop (mkF m 160 #[.val (.int p1), .val (.int p2), .val (.int p3), .val (.long p4), .second, .val (.long p5), .second, .val (.int cc), .val (.int kk), .val (.ref b187), .val (.ref b191), .val (.int (1 : Int32))] [(.int (3 : Int32)), (.int kk)])) _
    refine XS.icmpYes X205.here hx rfl (pc0 := 160) (pc' := 201) rfl (hb hby at_160) rfl (XT.ii_lt_t (by rw [hkk]; decide)) (by decide) (by decide) ?_
    show Steps p.tables e below (T205.setTop (mkF m 201 #[.val (.int p1), .val (.int p2), .val (.int p3), .val (.long p4), .second, .val (.long p5), .second, .val (.int cc), .val (.int kk), .val (.ref b187), .val (.ref b191), .val (.int (1 : Int32))] [])) _
    refine XS.iloadN X205.here hx rfl (hb hby at_201) rfl ?_
    show Steps p.tables e below (T205.setTop (mkF m 202 #[.val (.int p1), .val (.int p2), .val (.int p3), .val (.long p4), .second, .val (.long p5), .second, .val (.int cc), .val (.int kk), .val (.ref b187), .val (.ref b191), .val (.int (1 : Int32))] [(.int p3)])) _
    refine XS.sipush X205.here hx rfl (hb hby at_202) ?_
    show Steps p.tables e below (T205.setTop (mkF m 205 #[.val (.int p1), .val (.int p2), .val (.int p3), .val (.long p4), .second, .val (.long p5), .second, .val (.int cc), .val (.int kk), .val (.ref b187), .val (.ref b191), .val (.int (1 : Int32))] [(.int (256 : Int32)), (.int p3)])) _
    refine XS.iand X205.here hx rfl (hb hby at_205) rfl ?_
    show Steps p.tables e below (T205.setTop (mkF m 206 #[.val (.int p1), .val (.int p2), .val (.int p3), .val (.long p4), .second, .val (.long p5), .second, .val (.int cc), .val (.int kk), .val (.ref b187), .val (.ref b191), .val (.int (1 : Int32))] [(.int (p3 &&& (256 : Int32)))])) _
    refine XS.ifNo X205.here hx rfl (hb hby at_206) rfl (XT.i0_eq_f hf) ?_
    show Steps p.tables e below (T205.setTop (mkF m 209 #[.val (.int p1), .val (.int p2), .val (.int p3), .val (.long p4), .second, .val (.long p5), .second, .val (.int cc), .val (.int kk), .val (.ref b187), .val (.ref b191), .val (.int (1 : Int32))] [])) _
    refine XS.aload X205.here hx rfl (hb hby at_209) rfl rfl ?_
    exact k
  obtain ⟨cq208, kq208, q208a, q208b, q208c⟩ := isOf hZ q205 P203.1
  obtain ⟨_, _, ⟨T208, L208, k208, n208⟩, -, X208, ⟨Lc208, hQ208, l208, y208, z208⟩, st208⟩ := X205.virtualBack hx (y := (⟨"com/example/bucket/bucket/ingest/PointRun", "clear", "()V"⟩ : MethodName)) (z := (⟨"com/example/bucket/bucket/ingest/PointRun", "clear", "()V"⟩ : MethodName)) hown (mvT hZ (hw _ (List.mem_of_getElem? (i := 62) rfl))) (mvT hZ (hw _ (List.mem_of_getElem? (i := 63) rfl))) (notFace_of_selects (args := #[]) (mvT hZ (hw _ (List.mem_of_getElem? (i := 65) rfl)))) (mvT hZ (hw _ (List.mem_of_getElem? (i := 65) rfl))) (mvT hZ (hw _ (List.mem_of_getElem? (i := 64) rfl))) (by decide) (backOf (W := 0) (rm9 l Z a0 hw [] b187 sa ta va ea cc 2 T203.heap n0 ZZ203 P203 hcc.1 (by decide) (own_nlt hkb) g1 gs) hZ (hw _ (List.mem_of_getElem? (i := 66) rfl)) (hw _ (List.mem_of_getElem? (i := 3) rfl)) (by decide) (by decide)) q208a q208c (g := (mkF m 211 #[.val (.int p1), .val (.int p2), .val (.int p3), .val (.long p4), .second, .val (.long p5), .second, .val (.int cc), .val (.int kk), .val (.ref b187), .val (.ref b191), .val (.int (1 : Int32))] [(.ref b187)])) rfl (by rw [hml]; rfl) (Steps.refl _) (argsL := []) (rest := []) (lenOf pd8 rfl) rfl (by show 2 * 0 + _ ≤ _; exact Nat.le_of_eq rfl) (hb hby at_211) (fun _ _ => ⟨rfl, q205, (by decide : 6 + 0 ≤ _), (by decide : 21 + 0 ≤ _)⟩)
  dsimp only [Pt.U, Pt.locs, Pt.cells, Pt.slots] at X208 l208 y208 z208 st208 hQ208
  subst l208 y208 z208
  obtain ⟨rfl, N208q, P208, s208⟩ := hQ208
  have N208 := Fr.app N205 N208q
  have C208 : ∀ t, Steps p.tables e below (T208.setTop (mkF m 214 #[.val (.int p1), .val (.int p2), .val (.int p3), .val (.long p4), .second, .val (.long p5), .second, .val (.int cc), .val (.int kk), .val (.ref b187), .val (.ref b191), .val (.int (1 : Int32))] [])) t → Steps p.tables e below (s₁.setTop (entryFrame m #[(.int p1), (.int p2), (.int p3), (.long p4), (.long p5)] maxLocals)) t := fun t k => C207 t (st208.trans k)
  have ZZ208 : n0 ≤ T208.heap.size := Nat.le_trans ZZ203 s208
  obtain ⟨r9, hr9⟩ : ∃ r : Int32, ((0 : Int32) = cc ∧ r = 1) ∨ (¬ (0 : Int32) = cc ∧ r = 0) := by
    by_cases q : (0 : Int32) = cc
    · exact ⟨1, Or.inl ⟨q, rfl⟩⟩
    · exact ⟨0, Or.inr ⟨q, rfl⟩⟩
  have C209 : ∀ t, Steps p.tables e below (T208.setTop (mkF m 218 #[.val (.int p1), .val (.int p2), .val (.int p3), .val (.long p4), .second, .val (.long p5), .second, .val (.int cc), .val (.int kk), .val (.ref b187), .val (.ref b191), .val (.int (1 : Int32))] [(.ref b187), (.int (1 : Int32))])) t → Steps p.tables e below (s₁.setTop (entryFrame m #[(.int p1), (.int p2), (.int p3), (.long p4), (.long p5)] maxLocals)) t := by
    intro t k
    refine C208 t ?_
    show Steps p.tables e below (T208.setTop (mkF m 214 #[.val (.int p1), .val (.int p2), .val (.int p3), .val (.long p4), .second, .val (.long p5), .second, .val (.int cc), .val (.int kk), .val (.ref b187), .val (.ref b191), .val (.int (1 : Int32))] [])) _
    refine XS.iload X208.here hx rfl (hb hby at_214) rfl ?_
    show Steps p.tables e below (T208.setTop (mkF m 216 #[.val (.int p1), .val (.int p2), .val (.int p3), .val (.long p4), .second, .val (.long p5), .second, .val (.int cc), .val (.int kk), .val (.ref b187), .val (.ref b191), .val (.int (1 : Int32))] [(.int (1 : Int32))])) _
    refine XS.aload X208.here hx rfl (hb hby at_216) rfl rfl ?_
    exact k
  obtain ⟨cq210, kq210, q210a, q210b, q210c⟩ := isOf hZ rfl P208.1
  obtain ⟨_, _, ⟨T210, L210, k210, n210⟩, -, X210, ⟨Lc210, hQ210, l210, y210, z210⟩, st210⟩ := X208.virtualBack hx (y := (⟨"com/example/bucket/bucket/ingest/PointRun", "isFull", "()Z"⟩ : MethodName)) (z := (⟨"com/example/bucket/bucket/ingest/PointRun", "isFull", "()Z"⟩ : MethodName)) hown (mvT hZ (hw _ (List.mem_of_getElem? (i := 35) rfl))) (mvT hZ (hw _ (List.mem_of_getElem? (i := 36) rfl))) (notFace_of_selects (args := #[]) (mvT hZ (hw _ (List.mem_of_getElem? (i := 38) rfl)))) (mvT hZ (hw _ (List.mem_of_getElem? (i := 38) rfl))) (mvT hZ (hw _ (List.mem_of_getElem? (i := 37) rfl))) (by decide) (backOf (W := 1) (rm4 l Z a0 hw [] b187 sa ta va ea cc (0 : Int32) r9 T208.heap n0 ZZ208 P208 hcc.1 hr9) hZ (hw _ (List.mem_of_getElem? (i := 39) rfl)) (hw _ (List.mem_of_getElem? (i := 3) rfl)) (by decide) (by decide)) q210a q210c (g := (mkF m 218 #[.val (.int p1), .val (.int p2), .val (.int p3), .val (.long p4), .second, .val (.long p5), .second, .val (.int cc), .val (.int kk), .val (.ref b187), .val (.ref b191), .val (.int (1 : Int32))] [(.ref b187), (.int (1 : Int32))])) rfl (by rw [hml]; rfl) (Steps.refl _) (argsL := []) (rest := [(.int (1 : Int32))]) (lenOf pd7 rfl) rfl (by show 2 * 0 + _ ≤ _; exact Nat.le_of_eq rfl) (hb hby at_218) (fun _ _ => ⟨rfl, rfl, (by decide : 6 + 0 ≤ _), (by decide : 21 + 0 ≤ _)⟩)
  dsimp only [Pt.U, Pt.locs, Pt.cells, Pt.slots] at X210 l210 y210 z210 st210 hQ210
  subst l210 y210 z210
  obtain ⟨rfl, N210q, q210⟩ := hQ210
  have N210 := Fr.app N208 N210q
  have C210 : ∀ t, Steps p.tables e below (T210.setTop (mkF m 221 #[.val (.int p1), .val (.int p2), .val (.int p3), .val (.long p4), .second, .val (.long p5), .second, .val (.int cc), .val (.int kk), .val (.ref b187), .val (.ref b191), .val (.int (1 : Int32))] [(.int r9), (.int (1 : Int32))])) t → Steps p.tables e below (s₁.setTop (entryFrame m #[(.int p1), (.int p2), (.int p3), (.long p4), (.long p5)] maxLocals)) t := fun t k => C209 t (st210.trans k)
  have C211 : ∀ t, Steps p.tables e below (T210.setTop (mkF m 223 #[.val (.int p1), .val (.int p2), .val (.int p3), .val (.long p4), .second, .val (.long p5), .second, .val (.int cc), .val (.int kk), .val (.ref b187), .val (.ref b191), .val (.int (1 : Int32))] [(.int cc), (.int r9), (.int (1 : Int32))])) t → Steps p.tables e below (s₁.setTop (entryFrame m #[(.int p1), (.int p2), (.int p3), (.long p4), (.long p5)] maxLocals)) t := by
    intro t k
    refine C210 t ?_
    show Steps p.tables e below (T210.setTop (mkF m 221 #[.val (.int p1), .val (.int p2), .val (.int p3), .val (.long p4), .second, .val (.long p5), .second, .val (.int cc), .val (.int kk), .val (.ref b187), .val (.ref b191), .val (.int (1 : Int32))] [(.int r9), (.int (1 : Int32))])) _
    refine XS.iload X210.here hx rfl (hb hby at_221) rfl ?_
    exact k
  have CC9 : ∀ t, Steps p.tables e below (T210.setTop (mkF m 239 #[.val (.int p1), .val (.int p2), .val (.int p3), .val (.long p4), .second, .val (.long p5), .second, .val (.int cc), .val (.int kk), .val (.ref b187), .val (.ref b191), .val (.int (1 : Int32))] [(.int (1 : Int32)), (.int (1 : Int32))])) t → Steps p.tables e below (s₁.setTop (entryFrame m #[(.int p1), (.int p2), (.int p3), (.long p4), (.long p5)] maxLocals)) t := by
    rcases hr9 with ⟨hc, er⟩ | ⟨hc, er⟩
    · intro t k
      refine C211 t ?_
      show Steps p.tables e below (T210.setTop (mkF m 223 #[.val (.int p1), .val (.int p2), .val (.int p3), .val (.long p4), .second, .val (.long p5), .second, .val (.int cc), .val (.int kk), .val (.ref b187), .val (.ref b191), .val (.int (1 : Int32))] [(.int cc), (.int r9), (.int (1 : Int32))])) _
      refine XS.ifNo X210.here hx rfl (hb hby at_223) rfl (XT.i0_ne_f (by rw [← hc])) ?_
      show Steps p.tables e below (T210.setTop (mkF m 226 #[.val (.int p1), .val (.int p2), .val (.int p3), .val (.long p4), .second, .val (.long p5), .second, .val (.int cc), .val (.int kk), .val (.ref b187), .val (.ref b191), .val (.int (1 : Int32))] [(.int r9), (.int (1 : Int32))])) _
      refine XS.iconst X210.here hx rfl (hb hby at_226) ?_
      show Steps p.tables e below (T210.setTop (mkF m 227 #[.val (.int p1), .val (.int p2), .val (.int p3), .val (.long p4), .second, .val (.long p5), .second, .val (.int cc), .val (.int kk), .val (.ref b187), .val (.ref b191), .val (.int (1 : Int32))] [(.int (1 : Int32)), (.int r9), (.int (1 : Int32))])) _
      refine XS.goto X210.here hx rfl (pc0 := 227) (pc' := 231) rfl (hb hby at_227) (by decide) (by decide) ?_
      show Steps p.tables e below (T210.setTop (mkF m 231 #[.val (.int p1), .val (.int p2), .val (.int p3), .val (.long p4), .second, .val (.long p5), .second, .val (.int cc), .val (.int kk), .val (.ref b187), .val (.ref b191), .val (.int (1 : Int32))] [(.int (1 : Int32)), (.int r9), (.int (1 : Int32))])) _
      refine XS.icmpNo X210.here hx rfl (hb hby at_231) rfl (XT.ii_ne_f er) ?_
      show Steps p.tables e below (T210.setTop (mkF m 234 #[.val (.int p1), .val (.int p2), .val (.int p3), .val (.long p4), .second, .val (.long p5), .second, .val (.int cc), .val (.int kk), .val (.ref b187), .val (.ref b191), .val (.int (1 : Int32))] [(.int (1 : Int32))])) _
      refine XS.iconst X210.here hx rfl (hb hby at_234) ?_
      show Steps p.tables e below (T210.setTop (mkF m 235 #[.val (.int p1), .val (.int p2), .val (.int p3), .val (.long p4), .second, .val (.long p5), .second, .val (.int cc), .val (.int kk), .val (.ref b187), .val (.ref b191), .val (.int (1 : Int32))] [(.int (1 : Int32)), (.int (1 : Int32))])) _
      refine XS.goto X210.here hx rfl (pc0 := 235) (pc' := 239) rfl (hb hby at_235) (by decide) (by decide) ?_
      exact k
    · intro t k
      refine C211 t ?_
      show Steps p.tables e below (T210.setTop (mkF m 223 #[.val (.int p1), .val (.int p2), .val (.int p3), .val (.long p4), .second, .val (.long p5), .second, .val (.int cc), .val (.int kk), .val (.ref b187), .val (.ref b191), .val (.int (1 : Int32))] [(.int cc), (.int r9), (.int (1 : Int32))])) _
      refine XS.ifYes X210.here hx rfl (pc0 := 223) (pc' := 230) rfl (hb hby at_223) rfl (XT.i0_ne_t (fun q => hc q.symm)) (by decide) (by decide) ?_
      show Steps p.tables e below (T210.setTop (mkF m 230 #[.val (.int p1), .val (.int p2), .val (.int p3), .val (.long p4), .second, .val (.long p5), .second, .val (.int cc), .val (.int kk), .val (.ref b187), .val (.ref b191), .val (.int (1 : Int32))] [(.int r9), (.int (1 : Int32))])) _
      refine XS.iconst X210.here hx rfl (hb hby at_230) ?_
      show Steps p.tables e below (T210.setTop (mkF m 231 #[.val (.int p1), .val (.int p2), .val (.int p3), .val (.long p4), .second, .val (.long p5), .second, .val (.int cc), .val (.int kk), .val (.ref b187), .val (.ref b191), .val (.int (1 : Int32))] [(.int (0 : Int32)), (.int r9), (.int (1 : Int32))])) _
      refine XS.icmpNo X210.here hx rfl (hb hby at_231) rfl (XT.ii_ne_f er) ?_
      show Steps p.tables e below (T210.setTop (mkF m 234 #[.val (.int p1), .val (.int p2), .val (.int p3), .val (.long p4), .second, .val (.long p5), .second, .val (.int cc), .val (.int kk), .val (.ref b187), .val (.ref b191), .val (.int (1 : Int32))] [(.int (1 : Int32))])) _
      refine XS.iconst X210.here hx rfl (hb hby at_234) ?_
      show Steps p.tables e below (T210.setTop (mkF m 235 #[.val (.int p1), .val (.int p2), .val (.int p3), .val (.long p4), .second, .val (.long p5), .second, .val (.int cc), .val (.int kk), .val (.ref b187), .val (.ref b191), .val (.int (1 : Int32))] [(.int (1 : Int32)), (.int (1 : Int32))])) _
      refine XS.goto X210.here hx rfl (pc0 := 235) (pc' := 239) rfl (hb hby at_235) (by decide) (by decide) ?_
      exact k
  have C212 : ∀ t, Steps p.tables e below (T210.setTop (mkF m 244 #[.val (.int p1), .val (.int p2), .val (.int p3), .val (.long p4), .second, .val (.long p5), .second, .val (.int cc), .val (.int kk), .val (.ref b187), .val (.ref b191), .val (.int (1 : Int32))] [(.int (1 : Int32))])) t → Steps p.tables e below (s₁.setTop (entryFrame m #[(.int p1), (.int p2), (.int p3), (.long p4), (.long p5)] maxLocals)) t := by
    intro t k
    refine CC9 t ?_
    show Steps p.tables e below (T210.setTop (mkF m 239 #[.val (.int p1), .val (.int p2), .val (.int p3), .val (.long p4), .second, .val (.long p5), .second, .val (.int cc), .val (.int kk), .val (.ref b187), .val (.ref b191), .val (.int (1 : Int32))] [(.int (1 : Int32)), (.int (1 : Int32))])) _
    refine XS.iand X210.here hx rfl (hb hby at_239) rfl ?_
    show Steps p.tables e below (T210.setTop (mkF m 240 #[.val (.int p1), .val (.int p2), .val (.int p3), .val (.long p4), .second, .val (.long p5), .second, .val (.int cc), .val (.int kk), .val (.ref b187), .val (.ref b191), .val (.int (1 : Int32))] [(.int (1 : Int32))])) _
    refine XS.istore X210.here hx rfl (hb hby at_240) rfl (l' := #[.val (.int p1), .val (.int p2), .val (.int p3), .val (.long p4), .second, .val (.long p5), .second, .val (.int cc), .val (.int kk), .val (.ref b187), .val (.ref b191), .val (.int (1 : Int32))]) rfl ?_
    show Steps p.tables e below (T210.setTop (mkF m 242 #[.val (.int p1), .val (.int p2), .val (.int p3), .val (.long p4), .second, .val (.long p5), .second, .val (.int cc), .val (.int kk), .val (.ref b187), .val (.ref b191), .val (.int (1 : Int32))] [])) _
    refine XS.iload X210.here hx rfl (hb hby at_242) rfl ?_
    exact k
  obtain ⟨fs, hr, hrun, hended, hW, hsame⟩ := X210.leave (v := some (.int (1 : Int32))) (fun h => by rw [Bd.returns] at h; cases h)
  refine ⟨_, _, C212 _ ?_, hrun, hended, _, _, rfl, ?_, ⟨_, rfl⟩, hW, hsame.mono (by decide) (by decide)⟩
  · show Steps p.tables e below (T210.setTop (mkF m 244 #[.val (.int p1), .val (.int p2), .val (.int p3), .val (.long p4), .second, .val (.long p5), .second, .val (.int cc), .val (.int kk), .val (.ref b187), .val (.ref b191), .val (.int (1 : Int32))] [(.int (1 : Int32))])) _
    exact retN X210 hx (t := .boolean) Bd.returns (by simp) (hb hby at_244) hr
  · show Q0 Z p1 p2 p3 p4 p5 h0 n0 _ T210.heap _
    rw [q210]
    exact ⟨rfl, N210⟩
set_option maxRecDepth 65536 in
set_option maxHeartbeats 40000000 in
theorem rm0_30 (l : Launch) (Z : State) (a0 : Array Value) (hw : ∀ d ∈ tables_1, d.before a0 Z = true) (ws : List Jvm.Cond) (p1 p2 p3 : Int32) (p4 p5 : Int64) (h0 : Heap) (n0 : Nat) (Z0 : n0 ≤ h0.size) (hk : ((p2 &&& (2147483647 : Int32)) - ((p2 &&& (2147483647 : Int32)) / ((p1 &&& (3 : Int32)) + (1 : Int32))) * ((p1 &&& (3 : Int32)) + (1 : Int32))) = (3 : Int32)) (hf : (p3 &&& (256 : Int32)) = 0) :
    MetFree l x (head1 (Jvm.Cond.code x code maxLocals ret :: ws) room_1) (fun a U => a = #[(.int p1), (.int p2), (.int p3), (.long p4), (.long p5)] ∧ Z.Warmed39 U.vm ∧ U.heap = h0) (fun _ _ _ _ _ => True) (fun _ U o U' => ∃ v L, o = .returned v ∧ Q0 Z p1 p2 p3 p4 p5 h0 n0 v U'.heap L ∧ FrameEnd U o U' L room_1.cells room_1.slots) := by
  refine MetFree.of_bodySF (plainFor_of_name pn3) hisR ?_
  intro p e s m args below meth c s₁ Bd hml0 hP hK
  obtain ⟨rfl, hZ, hh⟩ := hP
  have hx := Bd.exec
  have hby := Bd.bytes
  have hml : c.maxLocals = 12 := hml0
  have hown : s.vm.findClass "com/example/bucket/bucket/ingest/PointRunIsFullPinLaw" = some m.cls := findClass_of_methodNamed Bd.named
  have hnm := (name_of_methodNamed Bd.named Bd.method).1
  have X0 : Stand p l e room_1 s m #[(.int p1), (.int p2), (.int p3), (.long p4), (.long p5)] below meth c s₁ [] 0 0 := Stand.of_body Bd
  have e0 : s₁.heap = h0 := by rw [← hh, Bd.state]; rfl
  have N0 := Fr.nil n0
  have pre0 : ∀ t, Steps p.tables e below (s₁.setTop (mkF m 0 #[.val (.int p1), .val (.int p2), .val (.int p3), .val (.long p4), .second, .val (.long p5), .second, .unset, .unset, .unset, .unset, .unset] [])) t → Steps p.tables e below (s₁.setTop (entryFrame m #[(.int p1), (.int p2), (.int p3), (.long p4), (.long p5)] maxLocals)) t := fun t k => castTop (ef0 m p1 p2 p3 p4 p5) k
  have C213 : ∀ t, Steps p.tables e below (s₁.setTop (mkF m 5 #[.val (.int p1), .val (.int p2), .val (.int p3), .val (.long p4), .second, .val (.long p5), .second, .val (.int (p1 &&& (3 : Int32))), .unset, .unset, .unset, .unset] [])) t → Steps p.tables e below (s₁.setTop (entryFrame m #[(.int p1), (.int p2), (.int p3), (.long p4), (.long p5)] maxLocals)) t := by
    intro t k
    refine pre0 t ?_
    show Steps p.tables e below (s₁.setTop (mkF m 0 #[.val (.int p1), .val (.int p2), .val (.int p3), .val (.long p4), .second, .val (.long p5), .second, .unset, .unset, .unset, .unset, .unset] [])) _
    refine XS.iloadN X0.here hx rfl (hb hby at_0) rfl ?_
    show Steps p.tables e below (s₁.setTop (mkF m 1 #[.val (.int p1), .val (.int p2), .val (.int p3), .val (.long p4), .second, .val (.long p5), .second, .unset, .unset, .unset, .unset, .unset] [(.int p1)])) _
    refine XS.iconst X0.here hx rfl (hb hby at_1) ?_
    show Steps p.tables e below (s₁.setTop (mkF m 2 #[.val (.int p1), .val (.int p2), .val (.int p3), .val (.long p4), .second, .val (.long p5), .second, .unset, .unset, .unset, .unset, .unset] [(.int (3 : Int32)), (.int p1)])) _
    refine XS.iand X0.here hx rfl (hb hby at_2) rfl ?_
    show Steps p.tables e below (s₁.setTop (mkF m 3 #[.val (.int p1), .val (.int p2), .val (.int p3), .val (.long p4), .second, .val (.long p5), .second, .unset, .unset, .unset, .unset, .unset] [(.int (p1 &&& (3 : Int32)))])) _
    refine XS.istore X0.here hx rfl (hb hby at_3) rfl (l' := #[.val (.int p1), .val (.int p2), .val (.int p3), .val (.long p4), .second, .val (.long p5), .second, .val (.int (p1 &&& (3 : Int32))), .unset, .unset, .unset, .unset]) rfl ?_
    exact k
  obtain ⟨cc, h_cc⟩ : ∃ z : Int32, z = (p1 &&& (3 : Int32)) := ⟨_, rfl⟩
  rw [← h_cc] at C213
  have hcc := own_cap p1
  rw [← h_cc] at hcc
  have C214 : ∀ t, Steps p.tables e below (s₁.setTop (mkF m 16 #[.val (.int p1), .val (.int p2), .val (.int p3), .val (.long p4), .second, .val (.long p5), .second, .val (.int cc), .val (.int ((p2 &&& (2147483647 : Int32)) - ((p2 &&& (2147483647 : Int32)) / (cc + (1 : Int32))) * (cc + (1 : Int32)))), .unset, .unset, .unset] [])) t → Steps p.tables e below (s₁.setTop (entryFrame m #[(.int p1), (.int p2), (.int p3), (.long p4), (.long p5)] maxLocals)) t := by
    intro t k
    refine C213 t ?_
    show Steps p.tables e below (s₁.setTop (mkF m 5 #[.val (.int p1), .val (.int p2), .val (.int p3), .val (.long p4), .second, .val (.long p5), .second, .val (.int cc), .unset, .unset, .unset, .unset] [])) _
    refine XS.iloadN X0.here hx rfl (hb hby at_5) rfl ?_
    show Steps p.tables e below (s₁.setTop (mkF m 6 #[.val (.int p1), .val (.int p2), .val (.int p3), .val (.long p4), .second, .val (.long p5), .second, .val (.int cc), .unset, .unset, .unset, .unset] [(.int p2)])) _
    refine X0.ldcInt hx hown (mvT hZ (hw _ (List.mem_of_getElem? (i := 0) rfl))) (g := (mkF m 6 #[.val (.int p1), .val (.int p2), .val (.int p3), .val (.long p4), .second, .val (.long p5), .second, .val (.int cc), .unset, .unset, .unset, .unset] [(.int p2)])) rfl (hb hby at_6) _ ?_
    show Steps p.tables e below (s₁.setTop (mkF m 8 #[.val (.int p1), .val (.int p2), .val (.int p3), .val (.long p4), .second, .val (.long p5), .second, .val (.int cc), .unset, .unset, .unset, .unset] [(.int (2147483647 : Int32)), (.int p2)])) _
    refine XS.iand X0.here hx rfl (hb hby at_8) rfl ?_
    show Steps p.tables e below (s₁.setTop (mkF m 9 #[.val (.int p1), .val (.int p2), .val (.int p3), .val (.long p4), .second, .val (.long p5), .second, .val (.int cc), .unset, .unset, .unset, .unset] [(.int (p2 &&& (2147483647 : Int32)))])) _
    refine XS.iload X0.here hx rfl (hb hby at_9) rfl ?_
    show Steps p.tables e below (s₁.setTop (mkF m 11 #[.val (.int p1), .val (.int p2), .val (.int p3), .val (.long p4), .second, .val (.long p5), .second, .val (.int cc), .unset, .unset, .unset, .unset] [(.int cc), (.int (p2 &&& (2147483647 : Int32)))])) _
    refine XS.iconst X0.here hx rfl (hb hby at_11) ?_
    show Steps p.tables e below (s₁.setTop (mkF m 12 #[.val (.int p1), .val (.int p2), .val (.int p3), .val (.long p4), .second, .val (.long p5), .second, .val (.int cc), .unset, .unset, .unset, .unset] [(.int (1 : Int32)), (.int cc), (.int (p2 &&& (2147483647 : Int32)))])) _
    refine XS.iadd X0.here hx rfl (hb hby at_12) rfl ?_
    show Steps p.tables e below (s₁.setTop (mkF m 13 #[.val (.int p1), .val (.int p2), .val (.int p3), .val (.long p4), .second, .val (.long p5), .second, .val (.int cc), .unset, .unset, .unset, .unset] [(.int (cc + (1 : Int32))), (.int (p2 &&& (2147483647 : Int32)))])) _
    refine XS.irem X0.here hx rfl (hb hby at_13) rfl (own_cap1 hcc) ?_
    show Steps p.tables e below (s₁.setTop (mkF m 14 #[.val (.int p1), .val (.int p2), .val (.int p3), .val (.long p4), .second, .val (.long p5), .second, .val (.int cc), .unset, .unset, .unset, .unset] [(.int ((p2 &&& (2147483647 : Int32)) - ((p2 &&& (2147483647 : Int32)) / (cc + (1 : Int32))) * (cc + (1 : Int32))))])) _
    refine XS.istore X0.here hx rfl (hb hby at_14) rfl (l' := #[.val (.int p1), .val (.int p2), .val (.int p3), .val (.long p4), .second, .val (.long p5), .second, .val (.int cc), .val (.int ((p2 &&& (2147483647 : Int32)) - ((p2 &&& (2147483647 : Int32)) / (cc + (1 : Int32))) * (cc + (1 : Int32)))), .unset, .unset, .unset]) rfl ?_
    exact k
  obtain ⟨kk, h_kk⟩ : ∃ z : Int32, z = ((p2 &&& (2147483647 : Int32)) - ((p2 &&& (2147483647 : Int32)) / (cc + (1 : Int32))) * (cc + (1 : Int32))) := ⟨_, rfl⟩
  rw [← h_kk] at C214
  have hkk : kk = (3 : Int32) := by rw [h_kk, h_cc]; exact hk
  have hkb : (3 : Int) ≤ cc.toInt := by have q := own_kle hcc p2; rw [← h_kk, hkk] at q; exact q
  obtain ⟨T215, h215, X215, e215, E215, A215, D215, -, st215⟩ := newO X0 hx hZ hown (hw _ (List.mem_of_getElem? (i := 1) rfl)) (hw _ (List.mem_of_getElem? (i := 2) rfl)) (hw _ (List.mem_of_getElem? (i := 3) rfl)) e0 (g := (mkF m 16 #[.val (.int p1), .val (.int p2), .val (.int p3), .val (.long p4), .second, .val (.long p5), .second, .val (.int cc), .val (.int kk), .unset, .unset, .unset] [])) rfl (hb hby at_16) (by decide) (by decide)
  obtain ⟨b215, g215⟩ : ∃ z, z = h0.size := ⟨_, rfl⟩
  rw [← g215] at A215 D215 st215
  have C215 : ∀ t, Steps p.tables e below (T215.setTop (mkF m 19 #[.val (.int p1), .val (.int p2), .val (.int p3), .val (.long p4), .second, .val (.long p5), .second, .val (.int cc), .val (.int kk), .unset, .unset, .unset] [(.ref b215)])) t → Steps p.tables e below (s₁.setTop (entryFrame m #[(.int p1), (.int p2), (.int p3), (.long p4), (.long p5)] maxLocals)) t := fun t k => C214 t (st215 t k)
  have F_series : Fld Z h215 b215 "com/example/bucket/bucket/ingest/PointRun" "series" "[Lcom/example/bucket/bucket/lineformat/Series;" .null := D215 (Or.inr (hw _ (List.mem_of_getElem? (i := 13) rfl))) (ty := (.array (.object "com/example/bucket/bucket/lineformat/Series"))) (by decide)
  have F_times : Fld Z h215 b215 "com/example/bucket/bucket/ingest/PointRun" "times" "[J" .null := D215 (Or.inr (hw _ (List.mem_of_getElem? (i := 16) rfl))) (ty := (.array .long)) (by decide)
  have F_values : Fld Z h215 b215 "com/example/bucket/bucket/ingest/PointRun" "values" "[D" .null := D215 (Or.inr (hw _ (List.mem_of_getElem? (i := 19) rfl))) (ty := (.array .double)) (by decide)
  have F_ends : Fld Z h215 b215 "com/example/bucket/bucket/ingest/PointRun" "ends" "[J" .null := D215 (Or.inr (hw _ (List.mem_of_getElem? (i := 21) rfl))) (ty := (.array .long)) (by decide)
  have F_size : Fld Z h215 b215 "com/example/bucket/bucket/ingest/PointRun" "size" "I" (.int 0) := D215 (Or.inl (hw _ (List.mem_of_getElem? (i := 41) rfl))) (ty := .int) (by decide)
  have F_merged : Fld Z h215 b215 "com/example/bucket/bucket/ingest/PointRun" "merged" "I" (.int 0) := D215 (Or.inl (hw _ (List.mem_of_getElem? (i := 75) rfl))) (ty := .int) (by decide)
  have Z1 : n0 ≤ h215.size := Nat.le_trans Z0 E215.1
  have g1 : n0 ≤ b215 := Nat.le_trans Z0 (Nat.le_of_eq g215.symm)
  have C216 : ∀ t, Steps p.tables e below (T215.setTop (mkF m 22 #[.val (.int p1), .val (.int p2), .val (.int p3), .val (.long p4), .second, .val (.long p5), .second, .val (.int cc), .val (.int kk), .unset, .unset, .unset] [(.int cc), (.ref b215), (.ref b215)])) t → Steps p.tables e below (s₁.setTop (entryFrame m #[(.int p1), (.int p2), (.int p3), (.long p4), (.long p5)] maxLocals)) t := by
    intro t k
    refine C215 t ?_
    show Steps p.tables e below (T215.setTop (mkF m 19 #[.val (.int p1), .val (.int p2), .val (.int p3), .val (.long p4), .second, .val (.long p5), .second, .val (.int cc), .val (.int kk), .unset, .unset, .unset] [(.ref b215)])) _
    refine XS.dup X215.here hx rfl (hb hby at_19) rfl rfl ?_
    show Steps p.tables e below (T215.setTop (mkF m 20 #[.val (.int p1), .val (.int p2), .val (.int p3), .val (.long p4), .second, .val (.long p5), .second, .val (.int cc), .val (.int kk), .unset, .unset, .unset] [(.ref b215), (.ref b215)])) _
    refine XS.iload X215.here hx rfl (hb hby at_20) rfl ?_
    exact k
  obtain ⟨_, _, ⟨T217, L217, k217, n217⟩, -, X217, ⟨Lc217, hQ217, l217, y217, z217⟩, st217⟩ := X215.specialBack hx (y := (⟨"com/example/bucket/bucket/ingest/PointRun", "<init>", "(I)V"⟩ : MethodName)) rfl hown (mvT hZ (hw _ (List.mem_of_getElem? (i := 4) rfl))) (mvT hZ (hw _ (List.mem_of_getElem? (i := 5) rfl))) (mvT hZ (hw _ (List.mem_of_getElem? (i := 6) rfl))) (by decide) (backOf (W := 1) (rm1 l Z a0 hw [] b215 cc h215 n0 Z1 F_series F_times F_values F_ends F_size F_merged A215 g1 hcc.1 hcc.2.2) hZ (hw _ (List.mem_of_getElem? (i := 6) rfl)) (hw _ (List.mem_of_getElem? (i := 3) rfl)) (by decide) (by decide)) (g := (mkF m 22 #[.val (.int p1), .val (.int p2), .val (.int p3), .val (.long p4), .second, .val (.long p5), .second, .val (.int cc), .val (.int kk), .unset, .unset, .unset] [(.int cc), (.ref b215), (.ref b215)])) rfl (by rw [hml]; rfl) (Steps.refl _) (a := b215) (argsL := [(.int cc)]) (rest := [(.ref b215)]) (lenOf pd5 rfl) rfl (by show 2 * 0 + _ ≤ _; exact Nat.le_of_eq rfl) (hb hby at_22) (fun _ _ => ⟨rfl, e215, (by decide : 1 + 4 ≤ _), (by decide : 6 + 12 ≤ _)⟩)
  dsimp only [Pt.U, Pt.locs, Pt.cells, Pt.slots] at X217 l217 y217 z217 st217 hQ217
  subst l217 y217 z217
  obtain ⟨rfl, N217q, sa, ta, va, ea, P217, K217, fs, ft, fv, fe⟩ := hQ217
  have N217 := Fr.app N0 N217q
  have C217 : ∀ t, Steps p.tables e below (T217.setTop (mkF m 25 #[.val (.int p1), .val (.int p2), .val (.int p3), .val (.long p4), .second, .val (.long p5), .second, .val (.int cc), .val (.int kk), .unset, .unset, .unset] [(.ref b215)])) t → Steps p.tables e below (s₁.setTop (entryFrame m #[(.int p1), (.int p2), (.int p3), (.long p4), (.long p5)] maxLocals)) t := fun t k => C216 t (st217.trans k)
  have Z2 : n0 ≤ T217.heap.size := Nat.le_trans Z1 K217.1
  have gs := Nat.le_trans Z1 fs
  have gt := Nat.le_trans Z1 ft
  have gv := Nat.le_trans Z1 fv
  have ge := Nat.le_trans Z1 fe
  have C218 : ∀ t, Steps p.tables e below (T217.setTop (mkF m 27 #[.val (.int p1), .val (.int p2), .val (.int p3), .val (.long p4), .second, .val (.long p5), .second, .val (.int cc), .val (.int kk), .val (.ref b215), .unset, .unset] [])) t → Steps p.tables e below (s₁.setTop (entryFrame m #[(.int p1), (.int p2), (.int p3), (.long p4), (.long p5)] maxLocals)) t := by
    intro t k
    refine C217 t ?_
    show Steps p.tables e below (T217.setTop (mkF m 25 #[.val (.int p1), .val (.int p2), .val (.int p3), .val (.long p4), .second, .val (.long p5), .second, .val (.int cc), .val (.int kk), .unset, .unset, .unset] [(.ref b215)])) _
    refine XS.astore X217.here hx rfl (hb hby at_25) rfl rfl (l' := #[.val (.int p1), .val (.int p2), .val (.int p3), .val (.long p4), .second, .val (.long p5), .second, .val (.int cc), .val (.int kk), .val (.ref b215), .unset, .unset]) rfl ?_
    exact k
  obtain ⟨T219, h219, X219, e219, E219, A219, D219, -, st219⟩ := newO X217 hx hZ hown (hw _ (List.mem_of_getElem? (i := 22) rfl)) (hw _ (List.mem_of_getElem? (i := 23) rfl)) (hw _ (List.mem_of_getElem? (i := 24) rfl)) rfl (g := (mkF m 27 #[.val (.int p1), .val (.int p2), .val (.int p3), .val (.long p4), .second, .val (.long p5), .second, .val (.int cc), .val (.int kk), .val (.ref b215), .unset, .unset] [])) rfl (hb hby at_27) (by decide) (by decide)
  obtain ⟨b219, g219⟩ : ∃ z, z = T217.heap.size := ⟨_, rfl⟩
  rw [← g219] at A219 D219 st219
  have C219 : ∀ t, Steps p.tables e below (T219.setTop (mkF m 30 #[.val (.int p1), .val (.int p2), .val (.int p3), .val (.long p4), .second, .val (.long p5), .second, .val (.int cc), .val (.int kk), .val (.ref b215), .unset, .unset] [(.ref b219)])) t → Steps p.tables e below (s₁.setTop (entryFrame m #[(.int p1), (.int p2), (.int p3), (.long p4), (.long p5)] maxLocals)) t := fun t k => C218 t (st219 t k)
  have G_series : Fld Z h219 b219 "com/example/bucket/bucket/lineformat/Point" "series" "Lcom/example/bucket/bucket/lineformat/Series;" .null := D219 (Or.inr (hw _ (List.mem_of_getElem? (i := 30) rfl))) (ty := (.object "com/example/bucket/bucket/lineformat/Series")) (by decide)
  have G_time : Fld Z h219 b219 "com/example/bucket/bucket/lineformat/Point" "time" "J" (.long 0) := D219 (Or.inr (hw _ (List.mem_of_getElem? (i := 32) rfl))) (ty := .long) (by decide)
  have G_value : Fld Z h219 b219 "com/example/bucket/bucket/lineformat/Point" "value" "D" (.double 0) := D219 (Or.inr (hw _ (List.mem_of_getElem? (i := 34) rfl))) (ty := .double) (by decide)
  have Z3 : n0 ≤ h219.size := Nat.le_trans Z2 E219.1
  have g2 : n0 ≤ b219 := Nat.le_trans Z2 (Nat.le_of_eq g219.symm)
  have C220 : ∀ t, Steps p.tables e below (T219.setTop (mkF m 39 #[.val (.int p1), .val (.int p2), .val (.int p3), .val (.long p4), .second, .val (.long p5), .second, .val (.int cc), .val (.int kk), .val (.ref b215), .unset, .unset] [(.double (FP.i2d (p3 &&& (255 : Int32)))), (.long p4), .null, (.ref b219), (.ref b219)])) t → Steps p.tables e below (s₁.setTop (entryFrame m #[(.int p1), (.int p2), (.int p3), (.long p4), (.long p5)] maxLocals)) t := by
    intro t k
    refine C219 t ?_
    show Steps p.tables e below (T219.setTop (mkF m 30 #[.val (.int p1), .val (.int p2), .val (.int p3), .val (.long p4), .second, .val (.long p5), .second, .val (.int cc), .val (.int kk), .val (.ref b215), .unset, .unset] [(.ref b219)])) _
    refine XS.dup X219.here hx rfl (hb hby at_30) rfl rfl ?_
    show Steps p.tables e below (T219.setTop (mkF m 31 #[.val (.int p1), .val (.int p2), .val (.int p3), .val (.long p4), .second, .val (.long p5), .second, .val (.int cc), .val (.int kk), .val (.ref b215), .unset, .unset] [(.ref b219), (.ref b219)])) _
    refine XS.aconstNull X219.here hx rfl (hb hby at_31) ?_
    show Steps p.tables e below (T219.setTop (mkF m 32 #[.val (.int p1), .val (.int p2), .val (.int p3), .val (.long p4), .second, .val (.long p5), .second, .val (.int cc), .val (.int kk), .val (.ref b215), .unset, .unset] [.null, (.ref b219), (.ref b219)])) _
    refine XS.lloadN X219.here hx rfl (hb hby at_32) rfl ?_
    show Steps p.tables e below (T219.setTop (mkF m 33 #[.val (.int p1), .val (.int p2), .val (.int p3), .val (.long p4), .second, .val (.long p5), .second, .val (.int cc), .val (.int kk), .val (.ref b215), .unset, .unset] [(.long p4), .null, (.ref b219), (.ref b219)])) _
    refine XS.iloadN X219.here hx rfl (hb hby at_33) rfl ?_
    show Steps p.tables e below (T219.setTop (mkF m 34 #[.val (.int p1), .val (.int p2), .val (.int p3), .val (.long p4), .second, .val (.long p5), .second, .val (.int cc), .val (.int kk), .val (.ref b215), .unset, .unset] [(.int p3), (.long p4), .null, (.ref b219), (.ref b219)])) _
    refine XS.sipush X219.here hx rfl (hb hby at_34) ?_
    show Steps p.tables e below (T219.setTop (mkF m 37 #[.val (.int p1), .val (.int p2), .val (.int p3), .val (.long p4), .second, .val (.long p5), .second, .val (.int cc), .val (.int kk), .val (.ref b215), .unset, .unset] [(.int (255 : Int32)), (.int p3), (.long p4), .null, (.ref b219), (.ref b219)])) _
    refine XS.iand X219.here hx rfl (hb hby at_37) rfl ?_
    show Steps p.tables e below (T219.setTop (mkF m 38 #[.val (.int p1), .val (.int p2), .val (.int p3), .val (.long p4), .second, .val (.long p5), .second, .val (.int cc), .val (.int kk), .val (.ref b215), .unset, .unset] [(.int (p3 &&& (255 : Int32))), (.long p4), .null, (.ref b219), (.ref b219)])) _
    refine XS.i2dS X219.here hx rfl (hb hby at_38) rfl rfl ?_
    exact k
  obtain ⟨_, _, ⟨T221, L221, k221, n221⟩, -, X221, ⟨Lc221, hQ221, l221, y221, z221⟩, st221⟩ := X219.specialBack hx (y := (⟨"com/example/bucket/bucket/lineformat/Point", "<init>", "(Lcom/example/bucket/bucket/lineformat/Series;JD)V"⟩ : MethodName)) rfl hown (mvT hZ (hw _ (List.mem_of_getElem? (i := 25) rfl))) (mvT hZ (hw _ (List.mem_of_getElem? (i := 26) rfl))) (mvT hZ (hw _ (List.mem_of_getElem? (i := 27) rfl))) (by decide) (backOf (W := 1) (rm3 l Z a0 hw [] b219 p4 (FP.i2d (p3 &&& (255 : Int32))) h219 n0 Z3 G_series G_time G_value A219 g2) hZ (hw _ (List.mem_of_getElem? (i := 27) rfl)) (hw _ (List.mem_of_getElem? (i := 24) rfl)) (by decide) (by decide)) (g := (mkF m 39 #[.val (.int p1), .val (.int p2), .val (.int p3), .val (.long p4), .second, .val (.long p5), .second, .val (.int cc), .val (.int kk), .val (.ref b215), .unset, .unset] [(.double (FP.i2d (p3 &&& (255 : Int32)))), (.long p4), .null, (.ref b219), (.ref b219)])) rfl (by rw [hml]; rfl) (Steps.refl _) (a := b219) (argsL := [.null, (.long p4), (.double (FP.i2d (p3 &&& (255 : Int32))))]) (rest := [(.ref b219)]) (lenOf pd6 rfl) rfl (by show 2 * 0 + _ ≤ _; exact Nat.le_of_eq rfl) (hb hby at_39) (fun _ _ => ⟨rfl, e219, (by decide : 6 + 0 ≤ _), (by decide : 21 + 0 ≤ _)⟩)
  dsimp only [Pt.U, Pt.locs, Pt.cells, Pt.slots] at X221 l221 y221 z221 st221 hQ221
  subst l221 y221 z221
  obtain ⟨rfl, N221q, Q221, K221⟩ := hQ221
  have N221 := Fr.app N217 N221q
  have C221 : ∀ t, Steps p.tables e below (T221.setTop (mkF m 42 #[.val (.int p1), .val (.int p2), .val (.int p3), .val (.long p4), .second, .val (.long p5), .second, .val (.int cc), .val (.int kk), .val (.ref b215), .unset, .unset] [(.ref b219)])) t → Steps p.tables e below (s₁.setTop (entryFrame m #[(.int p1), (.int p2), (.int p3), (.long p4), (.long p5)] maxLocals)) t := fun t k => C220 t (st221.trans k)
  have Z4 : n0 ≤ T221.heap.size := Nat.le_trans Z3 K221.1
  have PA : OwnP Z T221.heap b215 sa ta va ea cc.toNatClampNeg 0 := (P217.ext E219).keep K221 (own_nin1 (own_natne (by have := own_natlt P217.lt.1; omega)))
  obtain ⟨r0, hr0⟩ : ∃ r : Int32, ((0 : Int32) = cc ∧ r = 1) ∨ (¬ (0 : Int32) = cc ∧ r = 0) := by
    by_cases q : (0 : Int32) = cc
    · exact ⟨1, Or.inl ⟨q, rfl⟩⟩
    · exact ⟨0, Or.inr ⟨q, rfl⟩⟩
  have C222 : ∀ t, Steps p.tables e below (T221.setTop (mkF m 46 #[.val (.int p1), .val (.int p2), .val (.int p3), .val (.long p4), .second, .val (.long p5), .second, .val (.int cc), .val (.int kk), .val (.ref b215), .val (.ref b219), .unset] [(.ref b215)])) t → Steps p.tables e below (s₁.setTop (entryFrame m #[(.int p1), (.int p2), (.int p3), (.long p4), (.long p5)] maxLocals)) t := by
    intro t k
    refine C221 t ?_
    show Steps p.tables e below (T221.setTop (mkF m 42 #[.val (.int p1), .val (.int p2), .val (.int p3), .val (.long p4), .second, .val (.long p5), .second, .val (.int cc), .val (.int kk), .val (.ref b215), .unset, .unset] [(.ref b219)])) _
    refine XS.astore X221.here hx rfl (hb hby at_42) rfl rfl (l' := #[.val (.int p1), .val (.int p2), .val (.int p3), .val (.long p4), .second, .val (.long p5), .second, .val (.int cc), .val (.int kk), .val (.ref b215), .val (.ref b219), .unset]) rfl ?_
    show Steps p.tables e below (T221.setTop (mkF m 44 #[.val (.int p1), .val (.int p2), .val (.int p3), .val (.long p4), .second, .val (.long p5), .second, .val (.int cc), .val (.int kk), .val (.ref b215), .val (.ref b219), .unset] [])) _
    refine XS.aload X221.here hx rfl (hb hby at_44) rfl rfl ?_
    exact k
  obtain ⟨cq223, kq223, q223a, q223b, q223c⟩ := isOf hZ rfl PA.1
  obtain ⟨_, _, ⟨T223, L223, k223, n223⟩, -, X223, ⟨Lc223, hQ223, l223, y223, z223⟩, st223⟩ := X221.virtualBack hx (y := (⟨"com/example/bucket/bucket/ingest/PointRun", "isFull", "()Z"⟩ : MethodName)) (z := (⟨"com/example/bucket/bucket/ingest/PointRun", "isFull", "()Z"⟩ : MethodName)) hown (mvT hZ (hw _ (List.mem_of_getElem? (i := 35) rfl))) (mvT hZ (hw _ (List.mem_of_getElem? (i := 36) rfl))) (notFace_of_selects (args := #[]) (mvT hZ (hw _ (List.mem_of_getElem? (i := 38) rfl)))) (mvT hZ (hw _ (List.mem_of_getElem? (i := 38) rfl))) (mvT hZ (hw _ (List.mem_of_getElem? (i := 37) rfl))) (by decide) (backOf (W := 0) (rm4 l Z a0 hw [] b215 sa ta va ea cc (0 : Int32) r0 T221.heap n0 Z4 PA hcc.1 hr0) hZ (hw _ (List.mem_of_getElem? (i := 39) rfl)) (hw _ (List.mem_of_getElem? (i := 3) rfl)) (by decide) (by decide)) q223a q223c (g := (mkF m 46 #[.val (.int p1), .val (.int p2), .val (.int p3), .val (.long p4), .second, .val (.long p5), .second, .val (.int cc), .val (.int kk), .val (.ref b215), .val (.ref b219), .unset] [(.ref b215)])) rfl (by rw [hml]; rfl) (Steps.refl _) (argsL := []) (rest := []) (lenOf pd7 rfl) rfl (by show 2 * 0 + _ ≤ _; exact Nat.le_of_eq rfl) (hb hby at_46) (fun _ _ => ⟨rfl, rfl, (by decide : 6 + 0 ≤ _), (by decide : 21 + 0 ≤ _)⟩)
  dsimp only [Pt.U, Pt.locs, Pt.cells, Pt.slots] at X223 l223 y223 z223 st223 hQ223
  subst l223 y223 z223
  obtain ⟨rfl, N223q, q223⟩ := hQ223
  have N223 := Fr.app N221 N223q
  have C223 : ∀ t, Steps p.tables e below (T223.setTop (mkF m 49 #[.val (.int p1), .val (.int p2), .val (.int p3), .val (.long p4), .second, .val (.long p5), .second, .val (.int cc), .val (.int kk), .val (.ref b215), .val (.ref b219), .unset] [(.int r0)])) t → Steps p.tables e below (s₁.setTop (entryFrame m #[(.int p1), (.int p2), (.int p3), (.long p4), (.long p5)] maxLocals)) t := fun t k => C222 t (st223.trans k)
  have C224 : ∀ t, Steps p.tables e below (T223.setTop (mkF m 51 #[.val (.int p1), .val (.int p2), .val (.int p3), .val (.long p4), .second, .val (.long p5), .second, .val (.int cc), .val (.int kk), .val (.ref b215), .val (.ref b219), .unset] [(.int cc), (.int r0)])) t → Steps p.tables e below (s₁.setTop (entryFrame m #[(.int p1), (.int p2), (.int p3), (.long p4), (.long p5)] maxLocals)) t := by
    intro t k
    refine C223 t ?_
    show Steps p.tables e below (T223.setTop (mkF m 49 #[.val (.int p1), .val (.int p2), .val (.int p3), .val (.long p4), .second, .val (.long p5), .second, .val (.int cc), .val (.int kk), .val (.ref b215), .val (.ref b219), .unset] [(.int r0)])) _
    refine XS.iload X223.here hx rfl (hb hby at_49) rfl ?_
    exact k
  have CC0 : ∀ t, Steps p.tables e below (T223.setTop (mkF m 67 #[.val (.int p1), .val (.int p2), .val (.int p3), .val (.long p4), .second, .val (.long p5), .second, .val (.int cc), .val (.int kk), .val (.ref b215), .val (.ref b219), .unset] [(.int (1 : Int32))])) t → Steps p.tables e below (s₁.setTop (entryFrame m #[(.int p1), (.int p2), (.int p3), (.long p4), (.long p5)] maxLocals)) t := by
    rcases hr0 with ⟨hc, er⟩ | ⟨hc, er⟩
    · intro t k
      refine C224 t ?_
      show Steps p.tables e below (T223.setTop (mkF m 51 #[.val (.int p1), .val (.int p2), .val (.int p3), .val (.long p4), .second, .val (.long p5), .second, .val (.int cc), .val (.int kk), .val (.ref b215), .val (.ref b219), .unset] [(.int cc), (.int r0)])) _
      refine XS.ifNo X223.here hx rfl (hb hby at_51) rfl (XT.i0_ne_f (by rw [← hc])) ?_
      show Steps p.tables e below (T223.setTop (mkF m 54 #[.val (.int p1), .val (.int p2), .val (.int p3), .val (.long p4), .second, .val (.long p5), .second, .val (.int cc), .val (.int kk), .val (.ref b215), .val (.ref b219), .unset] [(.int r0)])) _
      refine XS.iconst X223.here hx rfl (hb hby at_54) ?_
      show Steps p.tables e below (T223.setTop (mkF m 55 #[.val (.int p1), .val (.int p2), .val (.int p3), .val (.long p4), .second, .val (.long p5), .second, .val (.int cc), .val (.int kk), .val (.ref b215), .val (.ref b219), .unset] [(.int (1 : Int32)), (.int r0)])) _
      refine XS.goto X223.here hx rfl (pc0 := 55) (pc' := 59) rfl (hb hby at_55) (by decide) (by decide) ?_
      show Steps p.tables e below (T223.setTop (mkF m 59 #[.val (.int p1), .val (.int p2), .val (.int p3), .val (.long p4), .second, .val (.long p5), .second, .val (.int cc), .val (.int kk), .val (.ref b215), .val (.ref b219), .unset] [(.int (1 : Int32)), (.int r0)])) _
      refine XS.icmpNo X223.here hx rfl (hb hby at_59) rfl (XT.ii_ne_f er) ?_
      show Steps p.tables e below (T223.setTop (mkF m 62 #[.val (.int p1), .val (.int p2), .val (.int p3), .val (.long p4), .second, .val (.long p5), .second, .val (.int cc), .val (.int kk), .val (.ref b215), .val (.ref b219), .unset] [])) _
      refine XS.iconst X223.here hx rfl (hb hby at_62) ?_
      show Steps p.tables e below (T223.setTop (mkF m 63 #[.val (.int p1), .val (.int p2), .val (.int p3), .val (.long p4), .second, .val (.long p5), .second, .val (.int cc), .val (.int kk), .val (.ref b215), .val (.ref b219), .unset] [(.int (1 : Int32))])) _
      refine XS.goto X223.here hx rfl (pc0 := 63) (pc' := 67) rfl (hb hby at_63) (by decide) (by decide) ?_
      exact k
    · intro t k
      refine C224 t ?_
      show Steps p.tables e below (T223.setTop (mkF m 51 #[.val (.int p1), .val (.int p2), .val (.int p3), .val (.long p4), .second, .val (.long p5), .second, .val (.int cc), .val (.int kk), .val (.ref b215), .val (.ref b219), .unset] [(.int cc), (.int r0)])) _
      refine XS.ifYes X223.here hx rfl (pc0 := 51) (pc' := 58) rfl (hb hby at_51) rfl (XT.i0_ne_t (fun q => hc q.symm)) (by decide) (by decide) ?_
      show Steps p.tables e below (T223.setTop (mkF m 58 #[.val (.int p1), .val (.int p2), .val (.int p3), .val (.long p4), .second, .val (.long p5), .second, .val (.int cc), .val (.int kk), .val (.ref b215), .val (.ref b219), .unset] [(.int r0)])) _
      refine XS.iconst X223.here hx rfl (hb hby at_58) ?_
      show Steps p.tables e below (T223.setTop (mkF m 59 #[.val (.int p1), .val (.int p2), .val (.int p3), .val (.long p4), .second, .val (.long p5), .second, .val (.int cc), .val (.int kk), .val (.ref b215), .val (.ref b219), .unset] [(.int (0 : Int32)), (.int r0)])) _
      refine XS.icmpNo X223.here hx rfl (hb hby at_59) rfl (XT.ii_ne_f er) ?_
      show Steps p.tables e below (T223.setTop (mkF m 62 #[.val (.int p1), .val (.int p2), .val (.int p3), .val (.long p4), .second, .val (.long p5), .second, .val (.int cc), .val (.int kk), .val (.ref b215), .val (.ref b219), .unset] [])) _
      refine XS.iconst X223.here hx rfl (hb hby at_62) ?_
      show Steps p.tables e below (T223.setTop (mkF m 63 #[.val (.int p1), .val (.int p2), .val (.int p3), .val (.long p4), .second, .val (.long p5), .second, .val (.int cc), .val (.int kk), .val (.ref b215), .val (.ref b219), .unset] [(.int (1 : Int32))])) _
      refine XS.goto X223.here hx rfl (pc0 := 63) (pc' := 67) rfl (hb hby at_63) (by decide) (by decide) ?_
      exact k
  have C225 : ∀ t, Steps p.tables e below (T223.setTop (mkF m 81 #[.val (.int p1), .val (.int p2), .val (.int p3), .val (.long p4), .second, .val (.long p5), .second, .val (.int cc), .val (.int kk), .val (.ref b215), .val (.ref b219), .val (.int (1 : Int32))] [(.long p5), (.ref b219), (.ref b215)])) t → Steps p.tables e below (s₁.setTop (entryFrame m #[(.int p1), (.int p2), (.int p3), (.long p4), (.long p5)] maxLocals)) t := by
    intro t k
    refine CC0 t ?_
    show Steps p.tables e below (T223.setTop (mkF m 67 #[.val (.int p1), .val (.int p2), .val (.int p3), .val (.long p4), .second, .val (.long p5), .second, .val (.int cc), .val (.int kk), .val (.ref b215), .val (.ref b219), .unset] [(.int (1 : Int32))])) _
    refine XS.istore X223.here hx rfl (hb hby at_67) rfl (l' := #[.val (.int p1), .val (.int p2), .val (.int p3), .val (.long p4), .second, .val (.long p5), .second, .val (.int cc), .val (.int kk), .val (.ref b215), .val (.ref b219), .val (.int (1 : Int32))]) rfl ?_
    show Steps p.tables e below (T223.setTop (mkF m 69 #[.val (.int p1), .val (.int p2), .val (.int p3), .val (.long p4), .second, .val (.long p5), .second, .val (.int cc), .val (.int kk), .val (.ref b215), .val (.ref b219), .val (.int (1 : Int32))] [])) _
    refine XS.iload X223.here hx rfl (hb hby at_69) rfl ?_
    show Steps p.tables e below (T223.setTop (mkF m 71 #[.val (.int p1), .val (.int p2), .val (.int p3), .val (.long p4), .second, .val (.long p5), .second, .val (.int cc), .val (.int kk), .val (.ref b215), .val (.ref b219), .val (.int (1 : Int32))] [(.int kk)])) _
    refine XS.iconst X223.here hx rfl (hb hby at_71) ?_
    show Steps p.tables e below (T223.setTop (mkF m 72 #[.val (.int p1), .val (.int p2), .val (.int p3), .val (.long p4), .second, .val (.long p5), .second, .val (.int cc), .val (.int kk), .val (.ref b215), .val (.ref b219), .val (.int (1 : Int32))] [(.int (1 : Int32)), (.int kk)])) _
    refine XS.icmpNo X223.here hx rfl (hb hby at_72) rfl (XT.ii_lt_f (by rw [hkk]; decide)) ?_
    show Steps p.tables e below (T223.setTop (mkF m 75 #[.val (.int p1), .val (.int p2), .val (.int p3), .val (.long p4), .second, .val (.long p5), .second, .val (.int cc), .val (.int kk), .val (.ref b215), .val (.ref b219), .val (.int (1 : Int32))] [])) _
    refine XS.aload X223.here hx rfl (hb hby at_75) rfl rfl ?_
    show Steps p.tables e below (T223.setTop (mkF m 77 #[.val (.int p1), .val (.int p2), .val (.int p3), .val (.long p4), .second, .val (.long p5), .second, .val (.int cc), .val (.int kk), .val (.ref b215), .val (.ref b219), .val (.int (1 : Int32))] [(.ref b215)])) _
    refine XS.aload X223.here hx rfl (hb hby at_77) rfl rfl ?_
    show Steps p.tables e below (T223.setTop (mkF m 79 #[.val (.int p1), .val (.int p2), .val (.int p3), .val (.long p4), .second, .val (.long p5), .second, .val (.int cc), .val (.int kk), .val (.ref b215), .val (.ref b219), .val (.int (1 : Int32))] [(.ref b219), (.ref b215)])) _
    refine XS.lload X223.here hx rfl (hb hby at_79) rfl ?_
    exact k
  obtain ⟨cq226, kq226, q226a, q226b, q226c⟩ := isOf hZ q223 PA.1
  obtain ⟨_, _, ⟨T226, L226, k226, n226⟩, -, X226, ⟨Lc226, hQ226, l226, y226, z226⟩, st226⟩ := X223.virtualBack hx (y := (⟨"com/example/bucket/bucket/ingest/PointRun", "add", "(Lcom/example/bucket/bucket/lineformat/Point;J)V"⟩ : MethodName)) (z := (⟨"com/example/bucket/bucket/ingest/PointRun", "add", "(Lcom/example/bucket/bucket/lineformat/Point;J)V"⟩ : MethodName)) hown (mvT hZ (hw _ (List.mem_of_getElem? (i := 42) rfl))) (mvT hZ (hw _ (List.mem_of_getElem? (i := 43) rfl))) (notFace_of_selects (args := #[]) (mvT hZ (hw _ (List.mem_of_getElem? (i := 45) rfl)))) (mvT hZ (hw _ (List.mem_of_getElem? (i := 45) rfl))) (mvT hZ (hw _ (List.mem_of_getElem? (i := 44) rfl))) (by decide) (backOf (W := 0) (rm5 l Z a0 hw [] b215 b219 p5 sa ta va ea cc.toNatClampNeg 0 1 p4 (FP.i2d (p3 &&& (255 : Int32))) T221.heap n0 Z4 PA Q221 (own_room hkb (by decide)) (by decide) g1 gs gt gv ge) hZ (hw _ (List.mem_of_getElem? (i := 46) rfl)) (hw _ (List.mem_of_getElem? (i := 3) rfl)) (by decide) (by decide)) q226a q226c (g := (mkF m 81 #[.val (.int p1), .val (.int p2), .val (.int p3), .val (.long p4), .second, .val (.long p5), .second, .val (.int cc), .val (.int kk), .val (.ref b215), .val (.ref b219), .val (.int (1 : Int32))] [(.long p5), (.ref b219), (.ref b215)])) rfl (by rw [hml]; rfl) (Steps.refl _) (argsL := [(.ref b219), (.long p5)]) (rest := []) (lenOf pd9 rfl) rfl (by show 2 * 0 + _ ≤ _; exact Nat.le_of_eq rfl) (hb hby at_81) (fun _ _ => ⟨rfl, q223, (by decide : 6 + 0 ≤ _), (by decide : 21 + 0 ≤ _)⟩)
  dsimp only [Pt.U, Pt.locs, Pt.cells, Pt.slots] at X226 l226 y226 z226 st226 hQ226
  subst l226 y226 z226
  obtain ⟨rfl, N226q, P226, Q226, s226⟩ := hQ226
  have N226 := Fr.app N223 N226q
  have C226 : ∀ t, Steps p.tables e below (T226.setTop (mkF m 84 #[.val (.int p1), .val (.int p2), .val (.int p3), .val (.long p4), .second, .val (.long p5), .second, .val (.int cc), .val (.int kk), .val (.ref b215), .val (.ref b219), .val (.int (1 : Int32))] [])) t → Steps p.tables e below (s₁.setTop (entryFrame m #[(.int p1), (.int p2), (.int p3), (.long p4), (.long p5)] maxLocals)) t := fun t k => C225 t (st226.trans k)
  have ZZ226 : n0 ≤ T226.heap.size := Nat.le_trans Z4 s226
  obtain ⟨r1, hr1⟩ : ∃ r : Int32, ((1 : Int32) = cc ∧ r = 1) ∨ (¬ (1 : Int32) = cc ∧ r = 0) := by
    by_cases q : (1 : Int32) = cc
    · exact ⟨1, Or.inl ⟨q, rfl⟩⟩
    · exact ⟨0, Or.inr ⟨q, rfl⟩⟩
  have C227 : ∀ t, Steps p.tables e below (T226.setTop (mkF m 88 #[.val (.int p1), .val (.int p2), .val (.int p3), .val (.long p4), .second, .val (.long p5), .second, .val (.int cc), .val (.int kk), .val (.ref b215), .val (.ref b219), .val (.int (1 : Int32))] [(.ref b215), (.int (1 : Int32))])) t → Steps p.tables e below (s₁.setTop (entryFrame m #[(.int p1), (.int p2), (.int p3), (.long p4), (.long p5)] maxLocals)) t := by
    intro t k
    refine C226 t ?_
    show Steps p.tables e below (T226.setTop (mkF m 84 #[.val (.int p1), .val (.int p2), .val (.int p3), .val (.long p4), .second, .val (.long p5), .second, .val (.int cc), .val (.int kk), .val (.ref b215), .val (.ref b219), .val (.int (1 : Int32))] [])) _
    refine XS.iload X226.here hx rfl (hb hby at_84) rfl ?_
    show Steps p.tables e below (T226.setTop (mkF m 86 #[.val (.int p1), .val (.int p2), .val (.int p3), .val (.long p4), .second, .val (.long p5), .second, .val (.int cc), .val (.int kk), .val (.ref b215), .val (.ref b219), .val (.int (1 : Int32))] [(.int (1 : Int32))])) _
    refine XS.aload X226.here hx rfl (hb hby at_86) rfl rfl ?_
    exact k
  obtain ⟨cq228, kq228, q228a, q228b, q228c⟩ := isOf hZ rfl P226.1
  obtain ⟨_, _, ⟨T228, L228, k228, n228⟩, -, X228, ⟨Lc228, hQ228, l228, y228, z228⟩, st228⟩ := X226.virtualBack hx (y := (⟨"com/example/bucket/bucket/ingest/PointRun", "isFull", "()Z"⟩ : MethodName)) (z := (⟨"com/example/bucket/bucket/ingest/PointRun", "isFull", "()Z"⟩ : MethodName)) hown (mvT hZ (hw _ (List.mem_of_getElem? (i := 35) rfl))) (mvT hZ (hw _ (List.mem_of_getElem? (i := 36) rfl))) (notFace_of_selects (args := #[]) (mvT hZ (hw _ (List.mem_of_getElem? (i := 38) rfl)))) (mvT hZ (hw _ (List.mem_of_getElem? (i := 38) rfl))) (mvT hZ (hw _ (List.mem_of_getElem? (i := 37) rfl))) (by decide) (backOf (W := 1) (rm4 l Z a0 hw [] b215 sa ta va ea cc (1 : Int32) r1 T226.heap n0 ZZ226 P226 hcc.1 hr1) hZ (hw _ (List.mem_of_getElem? (i := 39) rfl)) (hw _ (List.mem_of_getElem? (i := 3) rfl)) (by decide) (by decide)) q228a q228c (g := (mkF m 88 #[.val (.int p1), .val (.int p2), .val (.int p3), .val (.long p4), .second, .val (.long p5), .second, .val (.int cc), .val (.int kk), .val (.ref b215), .val (.ref b219), .val (.int (1 : Int32))] [(.ref b215), (.int (1 : Int32))])) rfl (by rw [hml]; rfl) (Steps.refl _) (argsL := []) (rest := [(.int (1 : Int32))]) (lenOf pd7 rfl) rfl (by show 2 * 0 + _ ≤ _; exact Nat.le_of_eq rfl) (hb hby at_88) (fun _ _ => ⟨rfl, rfl, (by decide : 6 + 0 ≤ _), (by decide : 21 + 0 ≤ _)⟩)
  dsimp only [Pt.U, Pt.locs, Pt.cells, Pt.slots] at X228 l228 y228 z228 st228 hQ228
  subst l228 y228 z228
  obtain ⟨rfl, N228q, q228⟩ := hQ228
  have N228 := Fr.app N226 N228q
  have C228 : ∀ t, Steps p.tables e below (T228.setTop (mkF m 91 #[.val (.int p1), .val (.int p2), .val (.int p3), .val (.long p4), .second, .val (.long p5), .second, .val (.int cc), .val (.int kk), .val (.ref b215), .val (.ref b219), .val (.int (1 : Int32))] [(.int r1), (.int (1 : Int32))])) t → Steps p.tables e below (s₁.setTop (entryFrame m #[(.int p1), (.int p2), (.int p3), (.long p4), (.long p5)] maxLocals)) t := fun t k => C227 t (st228.trans k)
  have C229 : ∀ t, Steps p.tables e below (T228.setTop (mkF m 94 #[.val (.int p1), .val (.int p2), .val (.int p3), .val (.long p4), .second, .val (.long p5), .second, .val (.int cc), .val (.int kk), .val (.ref b215), .val (.ref b219), .val (.int (1 : Int32))] [(.int (1 : Int32)), (.int cc), (.int r1), (.int (1 : Int32))])) t → Steps p.tables e below (s₁.setTop (entryFrame m #[(.int p1), (.int p2), (.int p3), (.long p4), (.long p5)] maxLocals)) t := by
    intro t k
    refine C228 t ?_
    show Steps p.tables e below (T228.setTop (mkF m 91 #[.val (.int p1), .val (.int p2), .val (.int p3), .val (.long p4), .second, .val (.long p5), .second, .val (.int cc), .val (.int kk), .val (.ref b215), .val (.ref b219), .val (.int (1 : Int32))] [(.int r1), (.int (1 : Int32))])) _
    refine XS.iload X228.here hx rfl (hb hby at_91) rfl ?_
    show Steps p.tables e below (T228.setTop (mkF m 93 #[.val (.int p1), .val (.int p2), .val (.int p3), .val (.long p4), .second, .val (.long p5), .second, .val (.int cc), .val (.int kk), .val (.ref b215), .val (.ref b219), .val (.int (1 : Int32))] [(.int cc), (.int r1), (.int (1 : Int32))])) _
    refine XS.iconst X228.here hx rfl (hb hby at_93) ?_
    exact k
  have CC1 : ∀ t, Steps p.tables e below (T228.setTop (mkF m 110 #[.val (.int p1), .val (.int p2), .val (.int p3), .val (.long p4), .second, .val (.long p5), .second, .val (.int cc), .val (.int kk), .val (.ref b215), .val (.ref b219), .val (.int (1 : Int32))] [(.int (1 : Int32)), (.int (1 : Int32))])) t → Steps p.tables e below (s₁.setTop (entryFrame m #[(.int p1), (.int p2), (.int p3), (.long p4), (.long p5)] maxLocals)) t := by
    rcases hr1 with ⟨hc, er⟩ | ⟨hc, er⟩
    · intro t k
      refine C229 t ?_
      show Steps p.tables e below (T228.setTop (mkF m 94 #[.val (.int p1), .val (.int p2), .val (.int p3), .val (.long p4), .second, .val (.long p5), .second, .val (.int cc), .val (.int kk), .val (.ref b215), .val (.ref b219), .val (.int (1 : Int32))] [(.int (1 : Int32)), (.int cc), (.int r1), (.int (1 : Int32))])) _
      refine XS.icmpNo X228.here hx rfl (hb hby at_94) rfl (XT.ii_ne_f hc.symm) ?_
      show Steps p.tables e below (T228.setTop (mkF m 97 #[.val (.int p1), .val (.int p2), .val (.int p3), .val (.long p4), .second, .val (.long p5), .second, .val (.int cc), .val (.int kk), .val (.ref b215), .val (.ref b219), .val (.int (1 : Int32))] [(.int r1), (.int (1 : Int32))])) _
      refine XS.iconst X228.here hx rfl (hb hby at_97) ?_
      show Steps p.tables e below (T228.setTop (mkF m 98 #[.val (.int p1), .val (.int p2), .val (.int p3), .val (.long p4), .second, .val (.long p5), .second, .val (.int cc), .val (.int kk), .val (.ref b215), .val (.ref b219), .val (.int (1 : Int32))] [(.int (1 : Int32)), (.int r1), (.int (1 : Int32))])) _
      refine XS.goto X228.here hx rfl (pc0 := 98) (pc' := 102) rfl (hb hby at_98) (by decide) (by decide) ?_
      show Steps p.tables e below (T228.setTop (mkF m 102 #[.val (.int p1), .val (.int p2), .val (.int p3), .val (.long p4), .second, .val (.long p5), .second, .val (.int cc), .val (.int kk), .val (.ref b215), .val (.ref b219), .val (.int (1 : Int32))] [(.int (1 : Int32)), (.int r1), (.int (1 : Int32))])) _
      refine XS.icmpNo X228.here hx rfl (hb hby at_102) rfl (XT.ii_ne_f er) ?_
      show Steps p.tables e below (T228.setTop (mkF m 105 #[.val (.int p1), .val (.int p2), .val (.int p3), .val (.long p4), .second, .val (.long p5), .second, .val (.int cc), .val (.int kk), .val (.ref b215), .val (.ref b219), .val (.int (1 : Int32))] [(.int (1 : Int32))])) _
      refine XS.iconst X228.here hx rfl (hb hby at_105) ?_
      show Steps p.tables e below (T228.setTop (mkF m 106 #[.val (.int p1), .val (.int p2), .val (.int p3), .val (.long p4), .second, .val (.long p5), .second, .val (.int cc), .val (.int kk), .val (.ref b215), .val (.ref b219), .val (.int (1 : Int32))] [(.int (1 : Int32)), (.int (1 : Int32))])) _
      refine XS.goto X228.here hx rfl (pc0 := 106) (pc' := 110) rfl (hb hby at_106) (by decide) (by decide) ?_
      exact k
    · intro t k
      refine C229 t ?_
      show Steps p.tables e below (T228.setTop (mkF m 94 #[.val (.int p1), .val (.int p2), .val (.int p3), .val (.long p4), .second, .val (.long p5), .second, .val (.int cc), .val (.int kk), .val (.ref b215), .val (.ref b219), .val (.int (1 : Int32))] [(.int (1 : Int32)), (.int cc), (.int r1), (.int (1 : Int32))])) _
      refine XS.icmpYes X228.here hx rfl (pc0 := 94) (pc' := 101) rfl (hb hby at_94) rfl (XT.ii_ne_t (fun q => hc q.symm)) (by decide) (by decide) ?_
      show Steps p.tables e below (T228.setTop (mkF m 101 #[.val (.int p1), .val (.int p2), .val (.int p3), .val (.long p4), .second, .val (.long p5), .second, .val (.int cc), .val (.int kk), .val (.ref b215), .val (.ref b219), .val (.int (1 : Int32))] [(.int r1), (.int (1 : Int32))])) _
      refine XS.iconst X228.here hx rfl (hb hby at_101) ?_
      show Steps p.tables e below (T228.setTop (mkF m 102 #[.val (.int p1), .val (.int p2), .val (.int p3), .val (.long p4), .second, .val (.long p5), .second, .val (.int cc), .val (.int kk), .val (.ref b215), .val (.ref b219), .val (.int (1 : Int32))] [(.int (0 : Int32)), (.int r1), (.int (1 : Int32))])) _
      refine XS.icmpNo X228.here hx rfl (hb hby at_102) rfl (XT.ii_ne_f er) ?_
      show Steps p.tables e below (T228.setTop (mkF m 105 #[.val (.int p1), .val (.int p2), .val (.int p3), .val (.long p4), .second, .val (.long p5), .second, .val (.int cc), .val (.int kk), .val (.ref b215), .val (.ref b219), .val (.int (1 : Int32))] [(.int (1 : Int32))])) _
      refine XS.iconst X228.here hx rfl (hb hby at_105) ?_
      show Steps p.tables e below (T228.setTop (mkF m 106 #[.val (.int p1), .val (.int p2), .val (.int p3), .val (.long p4), .second, .val (.long p5), .second, .val (.int cc), .val (.int kk), .val (.ref b215), .val (.ref b219), .val (.int (1 : Int32))] [(.int (1 : Int32)), (.int (1 : Int32))])) _
      refine XS.goto X228.here hx rfl (pc0 := 106) (pc' := 110) rfl (hb hby at_106) (by decide) (by decide) ?_
      exact k
  have C230 : ∀ t, Steps p.tables e below (T228.setTop (mkF m 125 #[.val (.int p1), .val (.int p2), .val (.int p3), .val (.long p4), .second, .val (.long p5), .second, .val (.int cc), .val (.int kk), .val (.ref b215), .val (.ref b219), .val (.int (1 : Int32))] [(.long p5), (.ref b219), (.ref b215)])) t → Steps p.tables e below (s₁.setTop (entryFrame m #[(.int p1), (.int p2), (.int p3), (.long p4), (.long p5)] maxLocals)) t := by
    intro t k
    refine CC1 t ?_
    show Steps p.tables e below (T228.setTop (mkF m 110 #[.val (.int p1), .val (.int p2), .val (.int p3), .val (.long p4), .second, .val (.long p5), .second, .val (.int cc), .val (.int kk), .val (.ref b215), .val (.ref b219), .val (.int (1 : Int32))] [(.int (1 : Int32)), (.int (1 : Int32))])) _
    refine XS.iand X228.here hx rfl (hb hby at_110) rfl ?_
    show Steps p.tables e below (T228.setTop (mkF m 111 #[.val (.int p1), .val (.int p2), .val (.int p3), .val (.long p4), .second, .val (.long p5), .second, .val (.int cc), .val (.int kk), .val (.ref b215), .val (.ref b219), .val (.int (1 : Int32))] [(.int (1 : Int32))])) _
    refine XS.istore X228.here hx rfl (hb hby at_111) rfl (l' := #[.val (.int p1), .val (.int p2), .val (.int p3), .val (.long p4), .second, .val (.long p5), .second, .val (.int cc), .val (.int kk), .val (.ref b215), .val (.ref b219), .val (.int (1 : Int32))]) rfl ?_
    show Steps p.tables e below (T228.setTop (mkF m 113 #[.val (.int p1), .val (.int p2), .val (.int p3), .val (.long p4), .second, .val (.long p5), .second, .val (.int cc), .val (.int kk), .val (.ref b215), .val (.ref b219), .val (.int (1 : Int32))] [])) _
    refine XS.iload X228.here hx rfl (hb hby at_113) rfl ?_
    show Steps p.tables e below (T228.setTop (mkF m 115 #[.val (.int p1), .val (.int p2), .val (.int p3), .val (.long p4), .second, .val (.long p5), .second, .val (.int cc), .val (.int kk), .val (.ref b215), .val (.ref b219), .val (.int (1 : Int32))] [(.int kk)])) _
    refine XS.iconst X228.here hx rfl (hb hby at_115) ?_
    show Steps p.tables e below (T228.setTop (mkF m 116 #[.val (.int p1), .val (.int p2), .val (.int p3), .val (.long p4), .second, .val (.long p5), .second, .val (.int cc), .val (.int kk), .val (.ref b215), .val (.ref b219), .val (.int (1 : Int32))] [(.int (2 : Int32)), (.int kk)])) _
    refine XS.icmpNo X228.here hx rfl (hb hby at_116) rfl (XT.ii_lt_f (by rw [hkk]; decide)) ?_
    show Steps p.tables e below (T228.setTop (mkF m 119 #[.val (.int p1), .val (.int p2), .val (.int p3), .val (.long p4), .second, .val (.long p5), .second, .val (.int cc), .val (.int kk), .val (.ref b215), .val (.ref b219), .val (.int (1 : Int32))] [])) _
    refine XS.aload X228.here hx rfl (hb hby at_119) rfl rfl ?_
    show Steps p.tables e below (T228.setTop (mkF m 121 #[.val (.int p1), .val (.int p2), .val (.int p3), .val (.long p4), .second, .val (.long p5), .second, .val (.int cc), .val (.int kk), .val (.ref b215), .val (.ref b219), .val (.int (1 : Int32))] [(.ref b215)])) _
    refine XS.aload X228.here hx rfl (hb hby at_121) rfl rfl ?_
    show Steps p.tables e below (T228.setTop (mkF m 123 #[.val (.int p1), .val (.int p2), .val (.int p3), .val (.long p4), .second, .val (.long p5), .second, .val (.int cc), .val (.int kk), .val (.ref b215), .val (.ref b219), .val (.int (1 : Int32))] [(.ref b219), (.ref b215)])) _
    refine XS.lload X228.here hx rfl (hb hby at_123) rfl ?_
    exact k
  obtain ⟨cq231, kq231, q231a, q231b, q231c⟩ := isOf hZ q228 P226.1
  obtain ⟨_, _, ⟨T231, L231, k231, n231⟩, -, X231, ⟨Lc231, hQ231, l231, y231, z231⟩, st231⟩ := X228.virtualBack hx (y := (⟨"com/example/bucket/bucket/ingest/PointRun", "add", "(Lcom/example/bucket/bucket/lineformat/Point;J)V"⟩ : MethodName)) (z := (⟨"com/example/bucket/bucket/ingest/PointRun", "add", "(Lcom/example/bucket/bucket/lineformat/Point;J)V"⟩ : MethodName)) hown (mvT hZ (hw _ (List.mem_of_getElem? (i := 42) rfl))) (mvT hZ (hw _ (List.mem_of_getElem? (i := 43) rfl))) (notFace_of_selects (args := #[]) (mvT hZ (hw _ (List.mem_of_getElem? (i := 45) rfl)))) (mvT hZ (hw _ (List.mem_of_getElem? (i := 45) rfl))) (mvT hZ (hw _ (List.mem_of_getElem? (i := 44) rfl))) (by decide) (backOf (W := 0) (rm5 l Z a0 hw [] b215 b219 p5 sa ta va ea cc.toNatClampNeg 1 2 p4 (FP.i2d (p3 &&& (255 : Int32))) T226.heap n0 ZZ226 P226 Q226 (own_room hkb (by decide)) (by decide) g1 gs gt gv ge) hZ (hw _ (List.mem_of_getElem? (i := 46) rfl)) (hw _ (List.mem_of_getElem? (i := 3) rfl)) (by decide) (by decide)) q231a q231c (g := (mkF m 125 #[.val (.int p1), .val (.int p2), .val (.int p3), .val (.long p4), .second, .val (.long p5), .second, .val (.int cc), .val (.int kk), .val (.ref b215), .val (.ref b219), .val (.int (1 : Int32))] [(.long p5), (.ref b219), (.ref b215)])) rfl (by rw [hml]; rfl) (Steps.refl _) (argsL := [(.ref b219), (.long p5)]) (rest := []) (lenOf pd9 rfl) rfl (by show 2 * 0 + _ ≤ _; exact Nat.le_of_eq rfl) (hb hby at_125) (fun _ _ => ⟨rfl, q228, (by decide : 6 + 0 ≤ _), (by decide : 21 + 0 ≤ _)⟩)
  dsimp only [Pt.U, Pt.locs, Pt.cells, Pt.slots] at X231 l231 y231 z231 st231 hQ231
  subst l231 y231 z231
  obtain ⟨rfl, N231q, P231, Q231, s231⟩ := hQ231
  have N231 := Fr.app N228 N231q
  have C231 : ∀ t, Steps p.tables e below (T231.setTop (mkF m 128 #[.val (.int p1), .val (.int p2), .val (.int p3), .val (.long p4), .second, .val (.long p5), .second, .val (.int cc), .val (.int kk), .val (.ref b215), .val (.ref b219), .val (.int (1 : Int32))] [])) t → Steps p.tables e below (s₁.setTop (entryFrame m #[(.int p1), (.int p2), (.int p3), (.long p4), (.long p5)] maxLocals)) t := fun t k => C230 t (st231.trans k)
  have ZZ231 : n0 ≤ T231.heap.size := Nat.le_trans ZZ226 s231
  obtain ⟨r2, hr2⟩ : ∃ r : Int32, ((2 : Int32) = cc ∧ r = 1) ∨ (¬ (2 : Int32) = cc ∧ r = 0) := by
    by_cases q : (2 : Int32) = cc
    · exact ⟨1, Or.inl ⟨q, rfl⟩⟩
    · exact ⟨0, Or.inr ⟨q, rfl⟩⟩
  have C232 : ∀ t, Steps p.tables e below (T231.setTop (mkF m 132 #[.val (.int p1), .val (.int p2), .val (.int p3), .val (.long p4), .second, .val (.long p5), .second, .val (.int cc), .val (.int kk), .val (.ref b215), .val (.ref b219), .val (.int (1 : Int32))] [(.ref b215), (.int (1 : Int32))])) t → Steps p.tables e below (s₁.setTop (entryFrame m #[(.int p1), (.int p2), (.int p3), (.long p4), (.long p5)] maxLocals)) t := by
    intro t k
    refine C231 t ?_
    show Steps p.tables e below (T231.setTop (mkF m 128 #[.val (.int p1), .val (.int p2), .val (.int p3), .val (.long p4), .second, .val (.long p5), .second, .val (.int cc), .val (.int kk), .val (.ref b215), .val (.ref b219), .val (.int (1 : Int32))] [])) _
    refine XS.iload X231.here hx rfl (hb hby at_128) rfl ?_
    show Steps p.tables e below (T231.setTop (mkF m 130 #[.val (.int p1), .val (.int p2), .val (.int p3), .val (.long p4), .second, .val (.long p5), .second, .val (.int cc), .val (.int kk), .val (.ref b215), .val (.ref b219), .val (.int (1 : Int32))] [(.int (1 : Int32))])) _
    refine XS.aload X231.here hx rfl (hb hby at_130) rfl rfl ?_
    exact k
  obtain ⟨cq233, kq233, q233a, q233b, q233c⟩ := isOf hZ rfl P231.1
  obtain ⟨_, _, ⟨T233, L233, k233, n233⟩, -, X233, ⟨Lc233, hQ233, l233, y233, z233⟩, st233⟩ := X231.virtualBack hx (y := (⟨"com/example/bucket/bucket/ingest/PointRun", "isFull", "()Z"⟩ : MethodName)) (z := (⟨"com/example/bucket/bucket/ingest/PointRun", "isFull", "()Z"⟩ : MethodName)) hown (mvT hZ (hw _ (List.mem_of_getElem? (i := 35) rfl))) (mvT hZ (hw _ (List.mem_of_getElem? (i := 36) rfl))) (notFace_of_selects (args := #[]) (mvT hZ (hw _ (List.mem_of_getElem? (i := 38) rfl)))) (mvT hZ (hw _ (List.mem_of_getElem? (i := 38) rfl))) (mvT hZ (hw _ (List.mem_of_getElem? (i := 37) rfl))) (by decide) (backOf (W := 1) (rm4 l Z a0 hw [] b215 sa ta va ea cc (2 : Int32) r2 T231.heap n0 ZZ231 P231 hcc.1 hr2) hZ (hw _ (List.mem_of_getElem? (i := 39) rfl)) (hw _ (List.mem_of_getElem? (i := 3) rfl)) (by decide) (by decide)) q233a q233c (g := (mkF m 132 #[.val (.int p1), .val (.int p2), .val (.int p3), .val (.long p4), .second, .val (.long p5), .second, .val (.int cc), .val (.int kk), .val (.ref b215), .val (.ref b219), .val (.int (1 : Int32))] [(.ref b215), (.int (1 : Int32))])) rfl (by rw [hml]; rfl) (Steps.refl _) (argsL := []) (rest := [(.int (1 : Int32))]) (lenOf pd7 rfl) rfl (by show 2 * 0 + _ ≤ _; exact Nat.le_of_eq rfl) (hb hby at_132) (fun _ _ => ⟨rfl, rfl, (by decide : 6 + 0 ≤ _), (by decide : 21 + 0 ≤ _)⟩)
  dsimp only [Pt.U, Pt.locs, Pt.cells, Pt.slots] at X233 l233 y233 z233 st233 hQ233
  subst l233 y233 z233
  obtain ⟨rfl, N233q, q233⟩ := hQ233
  have N233 := Fr.app N231 N233q
  have C233 : ∀ t, Steps p.tables e below (T233.setTop (mkF m 135 #[.val (.int p1), .val (.int p2), .val (.int p3), .val (.long p4), .second, .val (.long p5), .second, .val (.int cc), .val (.int kk), .val (.ref b215), .val (.ref b219), .val (.int (1 : Int32))] [(.int r2), (.int (1 : Int32))])) t → Steps p.tables e below (s₁.setTop (entryFrame m #[(.int p1), (.int p2), (.int p3), (.long p4), (.long p5)] maxLocals)) t := fun t k => C232 t (st233.trans k)
  have C234 : ∀ t, Steps p.tables e below (T233.setTop (mkF m 138 #[.val (.int p1), .val (.int p2), .val (.int p3), .val (.long p4), .second, .val (.long p5), .second, .val (.int cc), .val (.int kk), .val (.ref b215), .val (.ref b219), .val (.int (1 : Int32))] [(.int (2 : Int32)), (.int cc), (.int r2), (.int (1 : Int32))])) t → Steps p.tables e below (s₁.setTop (entryFrame m #[(.int p1), (.int p2), (.int p3), (.long p4), (.long p5)] maxLocals)) t := by
    intro t k
    refine C233 t ?_
    show Steps p.tables e below (T233.setTop (mkF m 135 #[.val (.int p1), .val (.int p2), .val (.int p3), .val (.long p4), .second, .val (.long p5), .second, .val (.int cc), .val (.int kk), .val (.ref b215), .val (.ref b219), .val (.int (1 : Int32))] [(.int r2), (.int (1 : Int32))])) _
    refine XS.iload X233.here hx rfl (hb hby at_135) rfl ?_
    show Steps p.tables e below (T233.setTop (mkF m 137 #[.val (.int p1), .val (.int p2), .val (.int p3), .val (.long p4), .second, .val (.long p5), .second, .val (.int cc), .val (.int kk), .val (.ref b215), .val (.ref b219), .val (.int (1 : Int32))] [(.int cc), (.int r2), (.int (1 : Int32))])) _
    refine XS.iconst X233.here hx rfl (hb hby at_137) ?_
    exact k
  have CC2 : ∀ t, Steps p.tables e below (T233.setTop (mkF m 154 #[.val (.int p1), .val (.int p2), .val (.int p3), .val (.long p4), .second, .val (.long p5), .second, .val (.int cc), .val (.int kk), .val (.ref b215), .val (.ref b219), .val (.int (1 : Int32))] [(.int (1 : Int32)), (.int (1 : Int32))])) t → Steps p.tables e below (s₁.setTop (entryFrame m #[(.int p1), (.int p2), (.int p3), (.long p4), (.long p5)] maxLocals)) t := by
    rcases hr2 with ⟨hc, er⟩ | ⟨hc, er⟩
    · intro t k
      refine C234 t ?_
      show Steps p.tables e below (T233.setTop (mkF m 138 #[.val (.int p1), .val (.int p2), .val (.int p3), .val (.long p4), .second, .val (.long p5), .second, .val (.int cc), .val (.int kk), .val (.ref b215), .val (.ref b219), .val (.int (1 : Int32))] [(.int (2 : Int32)), (.int cc), (.int r2), (.int (1 : Int32))])) _
      refine XS.icmpNo X233.here hx rfl (hb hby at_138) rfl (XT.ii_ne_f hc.symm) ?_
      show Steps p.tables e below (T233.setTop (mkF m 141 #[.val (.int p1), .val (.int p2), .val (.int p3), .val (.long p4), .second, .val (.long p5), .second, .val (.int cc), .val (.int kk), .val (.ref b215), .val (.ref b219), .val (.int (1 : Int32))] [(.int r2), (.int (1 : Int32))])) _
      refine XS.iconst X233.here hx rfl (hb hby at_141) ?_
      show Steps p.tables e below (T233.setTop (mkF m 142 #[.val (.int p1), .val (.int p2), .val (.int p3), .val (.long p4), .second, .val (.long p5), .second, .val (.int cc), .val (.int kk), .val (.ref b215), .val (.ref b219), .val (.int (1 : Int32))] [(.int (1 : Int32)), (.int r2), (.int (1 : Int32))])) _
      refine XS.goto X233.here hx rfl (pc0 := 142) (pc' := 146) rfl (hb hby at_142) (by decide) (by decide) ?_
      show Steps p.tables e below (T233.setTop (mkF m 146 #[.val (.int p1), .val (.int p2), .val (.int p3), .val (.long p4), .second, .val (.long p5), .second, .val (.int cc), .val (.int kk), .val (.ref b215), .val (.ref b219), .val (.int (1 : Int32))] [(.int (1 : Int32)), (.int r2), (.int (1 : Int32))])) _
      refine XS.icmpNo X233.here hx rfl (hb hby at_146) rfl (XT.ii_ne_f er) ?_
      show Steps p.tables e below (T233.setTop (mkF m 149 #[.val (.int p1), .val (.int p2), .val (.int p3), .val (.long p4), .second, .val (.long p5), .second, .val (.int cc), .val (.int kk), .val (.ref b215), .val (.ref b219), .val (.int (1 : Int32))] [(.int (1 : Int32))])) _
      refine XS.iconst X233.here hx rfl (hb hby at_149) ?_
      show Steps p.tables e below (T233.setTop (mkF m 150 #[.val (.int p1), .val (.int p2), .val (.int p3), .val (.long p4), .second, .val (.long p5), .second, .val (.int cc), .val (.int kk), .val (.ref b215), .val (.ref b219), .val (.int (1 : Int32))] [(.int (1 : Int32)), (.int (1 : Int32))])) _
      refine XS.goto X233.here hx rfl (pc0 := 150) (pc' := 154) rfl (hb hby at_150) (by decide) (by decide) ?_
      exact k
    · intro t k
      refine C234 t ?_
      show Steps p.tables e below (T233.setTop (mkF m 138 #[.val (.int p1), .val (.int p2), .val (.int p3), .val (.long p4), .second, .val (.long p5), .second, .val (.int cc), .val (.int kk), .val (.ref b215), .val (.ref b219), .val (.int (1 : Int32))] [(.int (2 : Int32)), (.int cc), (.int r2), (.int (1 : Int32))])) _
      refine XS.icmpYes X233.here hx rfl (pc0 := 138) (pc' := 145) rfl (hb hby at_138) rfl (XT.ii_ne_t (fun q => hc q.symm)) (by decide) (by decide) ?_
      show Steps p.tables e below (T233.setTop (mkF m 145 #[.val (.int p1), .val (.int p2), .val (.int p3), .val (.long p4), .second, .val (.long p5), .second, .val (.int cc), .val (.int kk), .val (.ref b215), .val (.ref b219), .val (.int (1 : Int32))] [(.int r2), (.int (1 : Int32))])) _
      refine XS.iconst X233.here hx rfl (hb hby at_145) ?_
      show Steps p.tables e below (T233.setTop (mkF m 146 #[.val (.int p1), .val (.int p2), .val (.int p3), .val (.long p4), .second, .val (.long p5), .second, .val (.int cc), .val (.int kk), .val (.ref b215), .val (.ref b219), .val (.int (1 : Int32))] [(.int (0 : Int32)), (.int r2), (.int (1 : Int32))])) _
      refine XS.icmpNo X233.here hx rfl (hb hby at_146) rfl (XT.ii_ne_f er) ?_
      show Steps p.tables e below (T233.setTop (mkF m 149 #[.val (.int p1), .val (.int p2), .val (.int p3), .val (.long p4), .second, .val (.long p5), .second, .val (.int cc), .val (.int kk), .val (.ref b215), .val (.ref b219), .val (.int (1 : Int32))] [(.int (1 : Int32))])) _
      refine XS.iconst X233.here hx rfl (hb hby at_149) ?_
      show Steps p.tables e below (T233.setTop (mkF m 150 #[.val (.int p1), .val (.int p2), .val (.int p3), .val (.long p4), .second, .val (.long p5), .second, .val (.int cc), .val (.int kk), .val (.ref b215), .val (.ref b219), .val (.int (1 : Int32))] [(.int (1 : Int32)), (.int (1 : Int32))])) _
      refine XS.goto X233.here hx rfl (pc0 := 150) (pc' := 154) rfl (hb hby at_150) (by decide) (by decide) ?_
      exact k
  have C235 : ∀ t, Steps p.tables e below (T233.setTop (mkF m 169 #[.val (.int p1), .val (.int p2), .val (.int p3), .val (.long p4), .second, .val (.long p5), .second, .val (.int cc), .val (.int kk), .val (.ref b215), .val (.ref b219), .val (.int (1 : Int32))] [(.long p5), (.ref b219), (.ref b215)])) t → Steps p.tables e below (s₁.setTop (entryFrame m #[(.int p1), (.int p2), (.int p3), (.long p4), (.long p5)] maxLocals)) t := by
    intro t k
    refine CC2 t ?_
    show Steps p.tables e below (T233.setTop (mkF m 154 #[.val (.int p1), .val (.int p2), .val (.int p3), .val (.long p4), .second, .val (.long p5), .second, .val (.int cc), .val (.int kk), .val (.ref b215), .val (.ref b219), .val (.int (1 : Int32))] [(.int (1 : Int32)), (.int (1 : Int32))])) _
    refine XS.iand X233.here hx rfl (hb hby at_154) rfl ?_
    show Steps p.tables e below (T233.setTop (mkF m 155 #[.val (.int p1), .val (.int p2), .val (.int p3), .val (.long p4), .second, .val (.long p5), .second, .val (.int cc), .val (.int kk), .val (.ref b215), .val (.ref b219), .val (.int (1 : Int32))] [(.int (1 : Int32))])) _
    refine XS.istore X233.here hx rfl (hb hby at_155) rfl (l' := #[.val (.int p1), .val (.int p2), .val (.int p3), .val (.long p4), .second, .val (.long p5), .second, .val (.int cc), .val (.int kk), .val (.ref b215), .val (.ref b219), .val (.int (1 : Int32))]) rfl ?_
    show Steps p.tables e below (T233.setTop (mkF m 157 #[.val (.int p1), .val (.int p2), .val (.int p3), .val (.long p4), .second, .val (.long p5), .second, .val (.int cc), .val (.int kk), .val (.ref b215), .val (.ref b219), .val (.int (1 : Int32))] [])) _
    refine XS.iload X233.here hx rfl (hb hby at_157) rfl ?_
    show Steps p.tables e below (T233.setTop (mkF m 159 #[.val (.int p1), .val (.int p2), .val (.int p3), .val (.long p4), .second, .val (.long p5), .second, .val (.int cc), .val (.int kk), .val (.ref b215), .val (.ref b219), .val (.int (1 : Int32))] [(.int kk)])) _
    refine XS.iconst X233.here hx rfl (hb hby at_159) ?_
    show Steps p.tables e below (T233.setTop (mkF m 160 #[.val (.int p1), .val (.int p2), .val (.int p3), .val (.long p4), .second, .val (.long p5), .second, .val (.int cc), .val (.int kk), .val (.ref b215), .val (.ref b219), .val (.int (1 : Int32))] [(.int (3 : Int32)), (.int kk)])) _
    refine XS.icmpNo X233.here hx rfl (hb hby at_160) rfl (XT.ii_lt_f (by rw [hkk]; decide)) ?_
    show Steps p.tables e below (T233.setTop (mkF m 163 #[.val (.int p1), .val (.int p2), .val (.int p3), .val (.long p4), .second, .val (.long p5), .second, .val (.int cc), .val (.int kk), .val (.ref b215), .val (.ref b219), .val (.int (1 : Int32))] [])) _
    refine XS.aload X233.here hx rfl (hb hby at_163) rfl rfl ?_
    show Steps p.tables e below (T233.setTop (mkF m 165 #[.val (.int p1), .val (.int p2), .val (.int p3), .val (.long p4), .second, .val (.long p5), .second, .val (.int cc), .val (.int kk), .val (.ref b215), .val (.ref b219), .val (.int (1 : Int32))] [(.ref b215)])) _
    refine XS.aload X233.here hx rfl (hb hby at_165) rfl rfl ?_
    show Steps p.tables e below (T233.setTop (mkF m 167 #[.val (.int p1), .val (.int p2), .val (.int p3), .val (.long p4), .second, .val (.long p5), .second, .val (.int cc), .val (.int kk), .val (.ref b215), .val (.ref b219), .val (.int (1 : Int32))] [(.ref b219), (.ref b215)])) _
    refine XS.lload X233.here hx rfl (hb hby at_167) rfl ?_
    exact k
  obtain ⟨cq236, kq236, q236a, q236b, q236c⟩ := isOf hZ q233 P231.1
  obtain ⟨_, _, ⟨T236, L236, k236, n236⟩, -, X236, ⟨Lc236, hQ236, l236, y236, z236⟩, st236⟩ := X233.virtualBack hx (y := (⟨"com/example/bucket/bucket/ingest/PointRun", "add", "(Lcom/example/bucket/bucket/lineformat/Point;J)V"⟩ : MethodName)) (z := (⟨"com/example/bucket/bucket/ingest/PointRun", "add", "(Lcom/example/bucket/bucket/lineformat/Point;J)V"⟩ : MethodName)) hown (mvT hZ (hw _ (List.mem_of_getElem? (i := 42) rfl))) (mvT hZ (hw _ (List.mem_of_getElem? (i := 43) rfl))) (notFace_of_selects (args := #[]) (mvT hZ (hw _ (List.mem_of_getElem? (i := 45) rfl)))) (mvT hZ (hw _ (List.mem_of_getElem? (i := 45) rfl))) (mvT hZ (hw _ (List.mem_of_getElem? (i := 44) rfl))) (by decide) (backOf (W := 0) (rm5 l Z a0 hw [] b215 b219 p5 sa ta va ea cc.toNatClampNeg 2 3 p4 (FP.i2d (p3 &&& (255 : Int32))) T231.heap n0 ZZ231 P231 Q231 (own_room hkb (by decide)) (by decide) g1 gs gt gv ge) hZ (hw _ (List.mem_of_getElem? (i := 46) rfl)) (hw _ (List.mem_of_getElem? (i := 3) rfl)) (by decide) (by decide)) q236a q236c (g := (mkF m 169 #[.val (.int p1), .val (.int p2), .val (.int p3), .val (.long p4), .second, .val (.long p5), .second, .val (.int cc), .val (.int kk), .val (.ref b215), .val (.ref b219), .val (.int (1 : Int32))] [(.long p5), (.ref b219), (.ref b215)])) rfl (by rw [hml]; rfl) (Steps.refl _) (argsL := [(.ref b219), (.long p5)]) (rest := []) (lenOf pd9 rfl) rfl (by show 2 * 0 + _ ≤ _; exact Nat.le_of_eq rfl) (hb hby at_169) (fun _ _ => ⟨rfl, q233, (by decide : 6 + 0 ≤ _), (by decide : 21 + 0 ≤ _)⟩)
  dsimp only [Pt.U, Pt.locs, Pt.cells, Pt.slots] at X236 l236 y236 z236 st236 hQ236
  subst l236 y236 z236
  obtain ⟨rfl, N236q, P236, Q236, s236⟩ := hQ236
  have N236 := Fr.app N233 N236q
  have C236 : ∀ t, Steps p.tables e below (T236.setTop (mkF m 172 #[.val (.int p1), .val (.int p2), .val (.int p3), .val (.long p4), .second, .val (.long p5), .second, .val (.int cc), .val (.int kk), .val (.ref b215), .val (.ref b219), .val (.int (1 : Int32))] [])) t → Steps p.tables e below (s₁.setTop (entryFrame m #[(.int p1), (.int p2), (.int p3), (.long p4), (.long p5)] maxLocals)) t := fun t k => C235 t (st236.trans k)
  have ZZ236 : n0 ≤ T236.heap.size := Nat.le_trans ZZ231 s236
  obtain ⟨r3, hr3⟩ : ∃ r : Int32, ((3 : Int32) = cc ∧ r = 1) ∨ (¬ (3 : Int32) = cc ∧ r = 0) := by
    by_cases q : (3 : Int32) = cc
    · exact ⟨1, Or.inl ⟨q, rfl⟩⟩
    · exact ⟨0, Or.inr ⟨q, rfl⟩⟩
  have C237 : ∀ t, Steps p.tables e below (T236.setTop (mkF m 176 #[.val (.int p1), .val (.int p2), .val (.int p3), .val (.long p4), .second, .val (.long p5), .second, .val (.int cc), .val (.int kk), .val (.ref b215), .val (.ref b219), .val (.int (1 : Int32))] [(.ref b215), (.int (1 : Int32))])) t → Steps p.tables e below (s₁.setTop (entryFrame m #[(.int p1), (.int p2), (.int p3), (.long p4), (.long p5)] maxLocals)) t := by
    intro t k
    refine C236 t ?_
    show Steps p.tables e below (T236.setTop (mkF m 172 #[.val (.int p1), .val (.int p2), .val (.int p3), .val (.long p4), .second, .val (.long p5), .second, .val (.int cc), .val (.int kk), .val (.ref b215), .val (.ref b219), .val (.int (1 : Int32))] [])) _
    refine XS.iload X236.here hx rfl (hb hby at_172) rfl ?_
    show Steps p.tables e below (T236.setTop (mkF m 174 #[.val (.int p1), .val (.int p2), .val (.int p3), .val (.long p4), .second, .val (.long p5), .second, .val (.int cc), .val (.int kk), .val (.ref b215), .val (.ref b219), .val (.int (1 : Int32))] [(.int (1 : Int32))])) _
    refine XS.aload X236.here hx rfl (hb hby at_174) rfl rfl ?_
    exact k
  obtain ⟨cq238, kq238, q238a, q238b, q238c⟩ := isOf hZ rfl P236.1
  obtain ⟨_, _, ⟨T238, L238, k238, n238⟩, -, X238, ⟨Lc238, hQ238, l238, y238, z238⟩, st238⟩ := X236.virtualBack hx (y := (⟨"com/example/bucket/bucket/ingest/PointRun", "isFull", "()Z"⟩ : MethodName)) (z := (⟨"com/example/bucket/bucket/ingest/PointRun", "isFull", "()Z"⟩ : MethodName)) hown (mvT hZ (hw _ (List.mem_of_getElem? (i := 35) rfl))) (mvT hZ (hw _ (List.mem_of_getElem? (i := 36) rfl))) (notFace_of_selects (args := #[]) (mvT hZ (hw _ (List.mem_of_getElem? (i := 38) rfl)))) (mvT hZ (hw _ (List.mem_of_getElem? (i := 38) rfl))) (mvT hZ (hw _ (List.mem_of_getElem? (i := 37) rfl))) (by decide) (backOf (W := 1) (rm4 l Z a0 hw [] b215 sa ta va ea cc (3 : Int32) r3 T236.heap n0 ZZ236 P236 hcc.1 hr3) hZ (hw _ (List.mem_of_getElem? (i := 39) rfl)) (hw _ (List.mem_of_getElem? (i := 3) rfl)) (by decide) (by decide)) q238a q238c (g := (mkF m 176 #[.val (.int p1), .val (.int p2), .val (.int p3), .val (.long p4), .second, .val (.long p5), .second, .val (.int cc), .val (.int kk), .val (.ref b215), .val (.ref b219), .val (.int (1 : Int32))] [(.ref b215), (.int (1 : Int32))])) rfl (by rw [hml]; rfl) (Steps.refl _) (argsL := []) (rest := [(.int (1 : Int32))]) (lenOf pd7 rfl) rfl (by show 2 * 0 + _ ≤ _; exact Nat.le_of_eq rfl) (hb hby at_176) (fun _ _ => ⟨rfl, rfl, (by decide : 6 + 0 ≤ _), (by decide : 21 + 0 ≤ _)⟩)
  dsimp only [Pt.U, Pt.locs, Pt.cells, Pt.slots] at X238 l238 y238 z238 st238 hQ238
  subst l238 y238 z238
  obtain ⟨rfl, N238q, q238⟩ := hQ238
  have N238 := Fr.app N236 N238q
  have C238 : ∀ t, Steps p.tables e below (T238.setTop (mkF m 179 #[.val (.int p1), .val (.int p2), .val (.int p3), .val (.long p4), .second, .val (.long p5), .second, .val (.int cc), .val (.int kk), .val (.ref b215), .val (.ref b219), .val (.int (1 : Int32))] [(.int r3), (.int (1 : Int32))])) t → Steps p.tables e below (s₁.setTop (entryFrame m #[(.int p1), (.int p2), (.int p3), (.long p4), (.long p5)] maxLocals)) t := fun t k => C237 t (st238.trans k)
  have C239 : ∀ t, Steps p.tables e below (T238.setTop (mkF m 182 #[.val (.int p1), .val (.int p2), .val (.int p3), .val (.long p4), .second, .val (.long p5), .second, .val (.int cc), .val (.int kk), .val (.ref b215), .val (.ref b219), .val (.int (1 : Int32))] [(.int (3 : Int32)), (.int cc), (.int r3), (.int (1 : Int32))])) t → Steps p.tables e below (s₁.setTop (entryFrame m #[(.int p1), (.int p2), (.int p3), (.long p4), (.long p5)] maxLocals)) t := by
    intro t k
    refine C238 t ?_
    show Steps p.tables e below (T238.setTop (mkF m 179 #[.val (.int p1), .val (.int p2), .val (.int p3), .val (.long p4), .second, .val (.long p5), .second, .val (.int cc), .val (.int kk), .val (.ref b215), .val (.ref b219), .val (.int (1 : Int32))] [(.int r3), (.int (1 : Int32))])) _
    refine XS.iload X238.here hx rfl (hb hby at_179) rfl ?_
    show Steps p.tables e below (T238.setTop (mkF m 181 #[.val (.int p1), .val (.int p2), .val (.int p3), .val (.long p4), .second, .val (.long p5), .second, .val (.int cc), .val (.int kk), .val (.ref b215), .val (.ref b219), .val (.int (1 : Int32))] [(.int cc), (.int r3), (.int (1 : Int32))])) _
    refine XS.iconst X238.here hx rfl (hb hby at_181) ?_
    exact k
  have CC3 : ∀ t, Steps p.tables e below (T238.setTop (mkF m 198 #[.val (.int p1), .val (.int p2), .val (.int p3), .val (.long p4), .second, .val (.long p5), .second, .val (.int cc), .val (.int kk), .val (.ref b215), .val (.ref b219), .val (.int (1 : Int32))] [(.int (1 : Int32)), (.int (1 : Int32))])) t → Steps p.tables e below (s₁.setTop (entryFrame m #[(.int p1), (.int p2), (.int p3), (.long p4), (.long p5)] maxLocals)) t := by
    rcases hr3 with ⟨hc, er⟩ | ⟨hc, er⟩
    · intro t k
      refine C239 t ?_
      show Steps p.tables e below (T238.setTop (mkF m 182 #[.val (.int p1), .val (.int p2), .val (.int p3), .val (.long p4), .second, .val (.long p5), .second, .val (.int cc), .val (.int kk), .val (.ref b215), .val (.ref b219), .val (.int (1 : Int32))] [(.int (3 : Int32)), (.int cc), (.int r3), (.int (1 : Int32))])) _
      refine XS.icmpNo X238.here hx rfl (hb hby at_182) rfl (XT.ii_ne_f hc.symm) ?_
      show Steps p.tables e below (T238.setTop (mkF m 185 #[.val (.int p1), .val (.int p2), .val (.int p3), .val (.long p4), .second, .val (.long p5), .second, .val (.int cc), .val (.int kk), .val (.ref b215), .val (.ref b219), .val (.int (1 : Int32))] [(.int r3), (.int (1 : Int32))])) _
      refine XS.iconst X238.here hx rfl (hb hby at_185) ?_
      show Steps p.tables e below (T238.setTop (mkF m 186 #[.val (.int p1), .val (.int p2), .val (.int p3), .val (.long p4), .second, .val (.long p5), .second, .val (.int cc), .val (.int kk), .val (.ref b215), .val (.ref b219), .val (.int (1 : Int32))] [(.int (1 : Int32)), (.int r3), (.int (1 : Int32))])) _
      refine XS.goto X238.here hx rfl (pc0 := 186) (pc' := 190) rfl (hb hby at_186) (by decide) (by decide) ?_
      show Steps p.tables e below (T238.setTop (mkF m 190 #[.val (.int p1), .val (.int p2), .val (.int p3), .val (.long p4), .second, .val (.long p5), .second, .val (.int cc), .val (.int kk), .val (.ref b215), .val (.ref b219), .val (.int (1 : Int32))] [(.int (1 : Int32)), (.int r3), (.int (1 : Int32))])) _
      refine XS.icmpNo X238.here hx rfl (hb hby at_190) rfl (XT.ii_ne_f er) ?_
      show Steps p.tables e below (T238.setTop (mkF m 193 #[.val (.int p1), .val (.int p2), .val (.int p3), .val (.long p4), .second, .val (.long p5), .second, .val (.int cc), .val (.int kk), .val (.ref b215), .val (.ref b219), .val (.int (1 : Int32))] [(.int (1 : Int32))])) _
      refine XS.iconst X238.here hx rfl (hb hby at_193) ?_
      show Steps p.tables e below (T238.setTop (mkF m 194 #[.val (.int p1), .val (.int p2), .val (.int p3), .val (.long p4), .second, .val (.long p5), .second, .val (.int cc), .val (.int kk), .val (.ref b215), .val (.ref b219), .val (.int (1 : Int32))] [(.int (1 : Int32)), (.int (1 : Int32))])) _
      refine XS.goto X238.here hx rfl (pc0 := 194) (pc' := 198) rfl (hb hby at_194) (by decide) (by decide) ?_
      exact k
    · intro t k
      refine C239 t ?_
      show Steps p.tables e below (T238.setTop (mkF m 182 #[.val (.int p1), .val (.int p2), .val (.int p3), .val (.long p4), .second, .val (.long p5), .second, .val (.int cc), .val (.int kk), .val (.ref b215), .val (.ref b219), .val (.int (1 : Int32))] [(.int (3 : Int32)), (.int cc), (.int r3), (.int (1 : Int32))])) _
      refine XS.icmpYes X238.here hx rfl (pc0 := 182) (pc' := 189) rfl (hb hby at_182) rfl (XT.ii_ne_t (fun q => hc q.symm)) (by decide) (by decide) ?_
      show Steps p.tables e below (T238.setTop (mkF m 189 #[.val (.int p1), .val (.int p2), .val (.int p3), .val (.long p4), .second, .val (.long p5), .second, .val (.int cc), .val (.int kk), .val (.ref b215), .val (.ref b219), .val (.int (1 : Int32))] [(.int r3), (.int (1 : Int32))])) _
      refine XS.iconst X238.here hx rfl (hb hby at_189) ?_
      show Steps p.tables e below (T238.setTop (mkF m 190 #[.val (.int p1), .val (.int p2), .val (.int p3), .val (.long p4), .second, .val (.long p5), .second, .val (.int cc), .val (.int kk), .val (.ref b215), .val (.ref b219), .val (.int (1 : Int32))] [(.int (0 : Int32)), (.int r3), (.int (1 : Int32))])) _
      refine XS.icmpNo X238.here hx rfl (hb hby at_190) rfl (XT.ii_ne_f er) ?_
      show Steps p.tables e below (T238.setTop (mkF m 193 #[.val (.int p1), .val (.int p2), .val (.int p3), .val (.long p4), .second, .val (.long p5), .second, .val (.int cc), .val (.int kk), .val (.ref b215), .val (.ref b219), .val (.int (1 : Int32))] [(.int (1 : Int32))])) _
      refine XS.iconst X238.here hx rfl (hb hby at_193) ?_
      show Steps p.tables e below (T238.setTop (mkF m 194 #[.val (.int p1), .val (.int p2), .val (.int p3), .val (.long p4), .second, .val (.long p5), .second, .val (.int cc), .val (.int kk), .val (.ref b215), .val (.ref b219), .val (.int (1 : Int32))] [(.int (1 : Int32)), (.int (1 : Int32))])) _
      refine XS.goto X238.here hx rfl (pc0 := 194) (pc' := 198) rfl (hb hby at_194) (by decide) (by decide) ?_
      exact k
  have C240 : ∀ t, Steps p.tables e below (T238.setTop (mkF m 244 #[.val (.int p1), .val (.int p2), .val (.int p3), .val (.long p4), .second, .val (.long p5), .second, .val (.int cc), .val (.int kk), .val (.ref b215), .val (.ref b219), .val (.int (1 : Int32))] [(.int (1 : Int32))])) t → Steps p.tables e below (s₁.setTop (entryFrame m #[(.int p1), (.int p2), (.int p3), (.long p4), (.long p5)] maxLocals)) t := by
    intro t k
    refine CC3 t ?_
    show Steps p.tables e below (T238.setTop (mkF m 198 #[.val (.int p1), .val (.int p2), .val (.int p3), .val (.long p4), .second, .val (.long p5), .second, .val (.int cc), .val (.int kk), .val (.ref b215), .val (.ref b219), .val (.int (1 : Int32))] [(.int (1 : Int32)), (.int (1 : Int32))])) _
    refine XS.iand X238.here hx rfl (hb hby at_198) rfl ?_
    show Steps p.tables e below (T238.setTop (mkF m 199 #[.val (.int p1), .val (.int p2), .val (.int p3), .val (.long p4), .second, .val (.long p5), .second, .val (.int cc), .val (.int kk), .val (.ref b215), .val (.ref b219), .val (.int (1 : Int32))] [(.int (1 : Int32))])) _
    refine XS.istore X238.here hx rfl (hb hby at_199) rfl (l' := #[.val (.int p1), .val (.int p2), .val (.int p3), .val (.long p4), .second, .val (.long p5), .second, .val (.int cc), .val (.int kk), .val (.ref b215), .val (.ref b219), .val (.int (1 : Int32))]) rfl ?_
    show Steps p.tables e below (T238.setTop (mkF m 201 #[.val (.int p1), .val (.int p2), .val (.int p3), .val (.long p4), .second, .val (.long p5), .second, .val (.int cc), .val (.int kk), .val (.ref b215), .val (.ref b219), .val (.int (1 : Int32))] [])) _
    refine XS.iloadN X238.here hx rfl (hb hby at_201) rfl ?_
    show Steps p.tables e below (T238.setTop (mkF m 202 #[.val (.int p1), .val (.int p2), .val (.int p3), .val (.long p4), .second, .val (.long p5), .second, .val (.int cc), .val (.int kk), .val (.ref b215), .val (.ref b219), .val (.int (1 : Int32))] [(.int p3)])) _
    refine XS.sipush X238.here hx rfl (hb hby at_202) ?_
    show Steps p.tables e below (T238.setTop (mkF m 205 #[.val (.int p1), .val (.int p2), .val (.int p3), .val (.long p4), .second, .val (.long p5), .second, .val (.int cc), .val (.int kk), .val (.ref b215), .val (.ref b219), .val (.int (1 : Int32))] [(.int (256 : Int32)), (.int p3)])) _
    refine XS.iand X238.here hx rfl (hb hby at_205) rfl ?_
    show Steps p.tables e below (T238.setTop (mkF m 206 #[.val (.int p1), .val (.int p2), .val (.int p3), .val (.long p4), .second, .val (.long p5), .second, .val (.int cc), .val (.int kk), .val (.ref b215), .val (.ref b219), .val (.int (1 : Int32))] [(.int (p3 &&& (256 : Int32)))])) _
    refine XS.ifYes X238.here hx rfl (pc0 := 206) (pc' := 242) rfl (hb hby at_206) rfl (XT.i0_eq_t hf) (by decide) (by decide) ?_
    show Steps p.tables e below (T238.setTop (mkF m 242 #[.val (.int p1), .val (.int p2), .val (.int p3), .val (.long p4), .second, .val (.long p5), .second, .val (.int cc), .val (.int kk), .val (.ref b215), .val (.ref b219), .val (.int (1 : Int32))] [])) _
    refine XS.iload X238.here hx rfl (hb hby at_242) rfl ?_
    exact k
  obtain ⟨fs, hr, hrun, hended, hW, hsame⟩ := X238.leave (v := some (.int (1 : Int32))) (fun h => by rw [Bd.returns] at h; cases h)
  refine ⟨_, _, C240 _ ?_, hrun, hended, _, _, rfl, ?_, ⟨_, rfl⟩, hW, hsame.mono (by decide) (by decide)⟩
  · show Steps p.tables e below (T238.setTop (mkF m 244 #[.val (.int p1), .val (.int p2), .val (.int p3), .val (.long p4), .second, .val (.long p5), .second, .val (.int cc), .val (.int kk), .val (.ref b215), .val (.ref b219), .val (.int (1 : Int32))] [(.int (1 : Int32))])) _
    exact retN X238 hx (t := .boolean) Bd.returns (by simp) (hb hby at_244) hr
  · show Q0 Z p1 p2 p3 p4 p5 h0 n0 _ T238.heap _
    rw [q238]
    exact ⟨rfl, N238⟩
set_option maxRecDepth 65536 in
set_option maxHeartbeats 40000000 in
theorem rm0_31 (l : Launch) (Z : State) (a0 : Array Value) (hw : ∀ d ∈ tables_1, d.before a0 Z = true) (ws : List Jvm.Cond) (p1 p2 p3 : Int32) (p4 p5 : Int64) (h0 : Heap) (n0 : Nat) (Z0 : n0 ≤ h0.size) (hk : ((p2 &&& (2147483647 : Int32)) - ((p2 &&& (2147483647 : Int32)) / ((p1 &&& (3 : Int32)) + (1 : Int32))) * ((p1 &&& (3 : Int32)) + (1 : Int32))) = (3 : Int32)) (hf : ¬ (p3 &&& (256 : Int32)) = 0) :
    MetFree l x (head1 (Jvm.Cond.code x code maxLocals ret :: ws) room_1) (fun a U => a = #[(.int p1), (.int p2), (.int p3), (.long p4), (.long p5)] ∧ Z.Warmed39 U.vm ∧ U.heap = h0) (fun _ _ _ _ _ => True) (fun _ U o U' => ∃ v L, o = .returned v ∧ Q0 Z p1 p2 p3 p4 p5 h0 n0 v U'.heap L ∧ FrameEnd U o U' L room_1.cells room_1.slots) := by
  refine MetFree.of_bodySF (plainFor_of_name pn3) hisR ?_
  intro p e s m args below meth c s₁ Bd hml0 hP hK
  obtain ⟨rfl, hZ, hh⟩ := hP
  have hx := Bd.exec
  have hby := Bd.bytes
  have hml : c.maxLocals = 12 := hml0
  have hown : s.vm.findClass "com/example/bucket/bucket/ingest/PointRunIsFullPinLaw" = some m.cls := findClass_of_methodNamed Bd.named
  have hnm := (name_of_methodNamed Bd.named Bd.method).1
  have X0 : Stand p l e room_1 s m #[(.int p1), (.int p2), (.int p3), (.long p4), (.long p5)] below meth c s₁ [] 0 0 := Stand.of_body Bd
  have e0 : s₁.heap = h0 := by rw [← hh, Bd.state]; rfl
  have N0 := Fr.nil n0
  have pre0 : ∀ t, Steps p.tables e below (s₁.setTop (mkF m 0 #[.val (.int p1), .val (.int p2), .val (.int p3), .val (.long p4), .second, .val (.long p5), .second, .unset, .unset, .unset, .unset, .unset] [])) t → Steps p.tables e below (s₁.setTop (entryFrame m #[(.int p1), (.int p2), (.int p3), (.long p4), (.long p5)] maxLocals)) t := fun t k => castTop (ef0 m p1 p2 p3 p4 p5) k
  have C241 : ∀ t, Steps p.tables e below (s₁.setTop (mkF m 5 #[.val (.int p1), .val (.int p2), .val (.int p3), .val (.long p4), .second, .val (.long p5), .second, .val (.int (p1 &&& (3 : Int32))), .unset, .unset, .unset, .unset] [])) t → Steps p.tables e below (s₁.setTop (entryFrame m #[(.int p1), (.int p2), (.int p3), (.long p4), (.long p5)] maxLocals)) t := by
    intro t k
    refine pre0 t ?_
    show Steps p.tables e below (s₁.setTop (mkF m 0 #[.val (.int p1), .val (.int p2), .val (.int p3), .val (.long p4), .second, .val (.long p5), .second, .unset, .unset, .unset, .unset, .unset] [])) _
    refine XS.iloadN X0.here hx rfl (hb hby at_0) rfl ?_
    show Steps p.tables e below (s₁.setTop (mkF m 1 #[.val (.int p1), .val (.int p2), .val (.int p3), .val (.long p4), .second, .val (.long p5), .second, .unset, .unset, .unset, .unset, .unset] [(.int p1)])) _
    refine XS.iconst X0.here hx rfl (hb hby at_1) ?_
    show Steps p.tables e below (s₁.setTop (mkF m 2 #[.val (.int p1), .val (.int p2), .val (.int p3), .val (.long p4), .second, .val (.long p5), .second, .unset, .unset, .unset, .unset, .unset] [(.int (3 : Int32)), (.int p1)])) _
    refine XS.iand X0.here hx rfl (hb hby at_2) rfl ?_
    show Steps p.tables e below (s₁.setTop (mkF m 3 #[.val (.int p1), .val (.int p2), .val (.int p3), .val (.long p4), .second, .val (.long p5), .second, .unset, .unset, .unset, .unset, .unset] [(.int (p1 &&& (3 : Int32)))])) _
    refine XS.istore X0.here hx rfl (hb hby at_3) rfl (l' := #[.val (.int p1), .val (.int p2), .val (.int p3), .val (.long p4), .second, .val (.long p5), .second, .val (.int (p1 &&& (3 : Int32))), .unset, .unset, .unset, .unset]) rfl ?_
    exact k
  obtain ⟨cc, h_cc⟩ : ∃ z : Int32, z = (p1 &&& (3 : Int32)) := ⟨_, rfl⟩
  rw [← h_cc] at C241
  have hcc := own_cap p1
  rw [← h_cc] at hcc
  have C242 : ∀ t, Steps p.tables e below (s₁.setTop (mkF m 16 #[.val (.int p1), .val (.int p2), .val (.int p3), .val (.long p4), .second, .val (.long p5), .second, .val (.int cc), .val (.int ((p2 &&& (2147483647 : Int32)) - ((p2 &&& (2147483647 : Int32)) / (cc + (1 : Int32))) * (cc + (1 : Int32)))), .unset, .unset, .unset] [])) t → Steps p.tables e below (s₁.setTop (entryFrame m #[(.int p1), (.int p2), (.int p3), (.long p4), (.long p5)] maxLocals)) t := by
    intro t k
    refine C241 t ?_
    show Steps p.tables e below (s₁.setTop (mkF m 5 #[.val (.int p1), .val (.int p2), .val (.int p3), .val (.long p4), .second, .val (.long p5), .second, .val (.int cc), .unset, .unset, .unset, .unset] [])) _
    refine XS.iloadN X0.here hx rfl (hb hby at_5) rfl ?_
    show Steps p.tables e below (s₁.setTop (mkF m 6 #[.val (.int p1), .val (.int p2), .val (.int p3), .val (.long p4), .second, .val (.long p5), .second, .val (.int cc), .unset, .unset, .unset, .unset] [(.int p2)])) _
    refine X0.ldcInt hx hown (mvT hZ (hw _ (List.mem_of_getElem? (i := 0) rfl))) (g := (mkF m 6 #[.val (.int p1), .val (.int p2), .val (.int p3), .val (.long p4), .second, .val (.long p5), .second, .val (.int cc), .unset, .unset, .unset, .unset] [(.int p2)])) rfl (hb hby at_6) _ ?_
    show Steps p.tables e below (s₁.setTop (mkF m 8 #[.val (.int p1), .val (.int p2), .val (.int p3), .val (.long p4), .second, .val (.long p5), .second, .val (.int cc), .unset, .unset, .unset, .unset] [(.int (2147483647 : Int32)), (.int p2)])) _
    refine XS.iand X0.here hx rfl (hb hby at_8) rfl ?_
    show Steps p.tables e below (s₁.setTop (mkF m 9 #[.val (.int p1), .val (.int p2), .val (.int p3), .val (.long p4), .second, .val (.long p5), .second, .val (.int cc), .unset, .unset, .unset, .unset] [(.int (p2 &&& (2147483647 : Int32)))])) _
    refine XS.iload X0.here hx rfl (hb hby at_9) rfl ?_
    show Steps p.tables e below (s₁.setTop (mkF m 11 #[.val (.int p1), .val (.int p2), .val (.int p3), .val (.long p4), .second, .val (.long p5), .second, .val (.int cc), .unset, .unset, .unset, .unset] [(.int cc), (.int (p2 &&& (2147483647 : Int32)))])) _
    refine XS.iconst X0.here hx rfl (hb hby at_11) ?_
    show Steps p.tables e below (s₁.setTop (mkF m 12 #[.val (.int p1), .val (.int p2), .val (.int p3), .val (.long p4), .second, .val (.long p5), .second, .val (.int cc), .unset, .unset, .unset, .unset] [(.int (1 : Int32)), (.int cc), (.int (p2 &&& (2147483647 : Int32)))])) _
    refine XS.iadd X0.here hx rfl (hb hby at_12) rfl ?_
    show Steps p.tables e below (s₁.setTop (mkF m 13 #[.val (.int p1), .val (.int p2), .val (.int p3), .val (.long p4), .second, .val (.long p5), .second, .val (.int cc), .unset, .unset, .unset, .unset] [(.int (cc + (1 : Int32))), (.int (p2 &&& (2147483647 : Int32)))])) _
    refine XS.irem X0.here hx rfl (hb hby at_13) rfl (own_cap1 hcc) ?_
    show Steps p.tables e below (s₁.setTop (mkF m 14 #[.val (.int p1), .val (.int p2), .val (.int p3), .val (.long p4), .second, .val (.long p5), .second, .val (.int cc), .unset, .unset, .unset, .unset] [(.int ((p2 &&& (2147483647 : Int32)) - ((p2 &&& (2147483647 : Int32)) / (cc + (1 : Int32))) * (cc + (1 : Int32))))])) _
    refine XS.istore X0.here hx rfl (hb hby at_14) rfl (l' := #[.val (.int p1), .val (.int p2), .val (.int p3), .val (.long p4), .second, .val (.long p5), .second, .val (.int cc), .val (.int ((p2 &&& (2147483647 : Int32)) - ((p2 &&& (2147483647 : Int32)) / (cc + (1 : Int32))) * (cc + (1 : Int32)))), .unset, .unset, .unset]) rfl ?_
    exact k
  obtain ⟨kk, h_kk⟩ : ∃ z : Int32, z = ((p2 &&& (2147483647 : Int32)) - ((p2 &&& (2147483647 : Int32)) / (cc + (1 : Int32))) * (cc + (1 : Int32))) := ⟨_, rfl⟩
  rw [← h_kk] at C242
  have hkk : kk = (3 : Int32) := by rw [h_kk, h_cc]; exact hk
  have hkb : (3 : Int) ≤ cc.toInt := by have q := own_kle hcc p2; rw [← h_kk, hkk] at q; exact q
  obtain ⟨T243, h243, X243, e243, E243, A243, D243, -, st243⟩ := newO X0 hx hZ hown (hw _ (List.mem_of_getElem? (i := 1) rfl)) (hw _ (List.mem_of_getElem? (i := 2) rfl)) (hw _ (List.mem_of_getElem? (i := 3) rfl)) e0 (g := (mkF m 16 #[.val (.int p1), .val (.int p2), .val (.int p3), .val (.long p4), .second, .val (.long p5), .second, .val (.int cc), .val (.int kk), .unset, .unset, .unset] [])) rfl (hb hby at_16) (by decide) (by decide)
  obtain ⟨b243, g243⟩ : ∃ z, z = h0.size := ⟨_, rfl⟩
  rw [← g243] at A243 D243 st243
  have C243 : ∀ t, Steps p.tables e below (T243.setTop (mkF m 19 #[.val (.int p1), .val (.int p2), .val (.int p3), .val (.long p4), .second, .val (.long p5), .second, .val (.int cc), .val (.int kk), .unset, .unset, .unset] [(.ref b243)])) t → Steps p.tables e below (s₁.setTop (entryFrame m #[(.int p1), (.int p2), (.int p3), (.long p4), (.long p5)] maxLocals)) t := fun t k => C242 t (st243 t k)
  have F_series : Fld Z h243 b243 "com/example/bucket/bucket/ingest/PointRun" "series" "[Lcom/example/bucket/bucket/lineformat/Series;" .null := D243 (Or.inr (hw _ (List.mem_of_getElem? (i := 13) rfl))) (ty := (.array (.object "com/example/bucket/bucket/lineformat/Series"))) (by decide)
  have F_times : Fld Z h243 b243 "com/example/bucket/bucket/ingest/PointRun" "times" "[J" .null := D243 (Or.inr (hw _ (List.mem_of_getElem? (i := 16) rfl))) (ty := (.array .long)) (by decide)
  have F_values : Fld Z h243 b243 "com/example/bucket/bucket/ingest/PointRun" "values" "[D" .null := D243 (Or.inr (hw _ (List.mem_of_getElem? (i := 19) rfl))) (ty := (.array .double)) (by decide)
  have F_ends : Fld Z h243 b243 "com/example/bucket/bucket/ingest/PointRun" "ends" "[J" .null := D243 (Or.inr (hw _ (List.mem_of_getElem? (i := 21) rfl))) (ty := (.array .long)) (by decide)
  have F_size : Fld Z h243 b243 "com/example/bucket/bucket/ingest/PointRun" "size" "I" (.int 0) := D243 (Or.inl (hw _ (List.mem_of_getElem? (i := 41) rfl))) (ty := .int) (by decide)
  have F_merged : Fld Z h243 b243 "com/example/bucket/bucket/ingest/PointRun" "merged" "I" (.int 0) := D243 (Or.inl (hw _ (List.mem_of_getElem? (i := 75) rfl))) (ty := .int) (by decide)
  have Z1 : n0 ≤ h243.size := Nat.le_trans Z0 E243.1
  have g1 : n0 ≤ b243 := Nat.le_trans Z0 (Nat.le_of_eq g243.symm)
  have C244 : ∀ t, Steps p.tables e below (T243.setTop (mkF m 22 #[.val (.int p1), .val (.int p2), .val (.int p3), .val (.long p4), .second, .val (.long p5), .second, .val (.int cc), .val (.int kk), .unset, .unset, .unset] [(.int cc), (.ref b243), (.ref b243)])) t → Steps p.tables e below (s₁.setTop (entryFrame m #[(.int p1), (.int p2), (.int p3), (.long p4), (.long p5)] maxLocals)) t := by
    intro t k
    refine C243 t ?_
    show Steps p.tables e below (T243.setTop (mkF m 19 #[.val (.int p1), .val (.int p2), .val (.int p3), .val (.long p4), .second, .val (.long p5), .second, .val (.int cc), .val (.int kk), .unset, .unset, .unset] [(.ref b243)])) _
    refine XS.dup X243.here hx rfl (hb hby at_19) rfl rfl ?_
    show Steps p.tables e below (T243.setTop (mkF m 20 #[.val (.int p1), .val (.int p2), .val (.int p3), .val (.long p4), .second, .val (.long p5), .second, .val (.int cc), .val (.int kk), .unset, .unset, .unset] [(.ref b243), (.ref b243)])) _
    refine XS.iload X243.here hx rfl (hb hby at_20) rfl ?_
    exact k
  obtain ⟨_, _, ⟨T245, L245, k245, n245⟩, -, X245, ⟨Lc245, hQ245, l245, y245, z245⟩, st245⟩ := X243.specialBack hx (y := (⟨"com/example/bucket/bucket/ingest/PointRun", "<init>", "(I)V"⟩ : MethodName)) rfl hown (mvT hZ (hw _ (List.mem_of_getElem? (i := 4) rfl))) (mvT hZ (hw _ (List.mem_of_getElem? (i := 5) rfl))) (mvT hZ (hw _ (List.mem_of_getElem? (i := 6) rfl))) (by decide) (backOf (W := 1) (rm1 l Z a0 hw [] b243 cc h243 n0 Z1 F_series F_times F_values F_ends F_size F_merged A243 g1 hcc.1 hcc.2.2) hZ (hw _ (List.mem_of_getElem? (i := 6) rfl)) (hw _ (List.mem_of_getElem? (i := 3) rfl)) (by decide) (by decide)) (g := (mkF m 22 #[.val (.int p1), .val (.int p2), .val (.int p3), .val (.long p4), .second, .val (.long p5), .second, .val (.int cc), .val (.int kk), .unset, .unset, .unset] [(.int cc), (.ref b243), (.ref b243)])) rfl (by rw [hml]; rfl) (Steps.refl _) (a := b243) (argsL := [(.int cc)]) (rest := [(.ref b243)]) (lenOf pd5 rfl) rfl (by show 2 * 0 + _ ≤ _; exact Nat.le_of_eq rfl) (hb hby at_22) (fun _ _ => ⟨rfl, e243, (by decide : 1 + 4 ≤ _), (by decide : 6 + 12 ≤ _)⟩)
  dsimp only [Pt.U, Pt.locs, Pt.cells, Pt.slots] at X245 l245 y245 z245 st245 hQ245
  subst l245 y245 z245
  obtain ⟨rfl, N245q, sa, ta, va, ea, P245, K245, fs, ft, fv, fe⟩ := hQ245
  have N245 := Fr.app N0 N245q
  have C245 : ∀ t, Steps p.tables e below (T245.setTop (mkF m 25 #[.val (.int p1), .val (.int p2), .val (.int p3), .val (.long p4), .second, .val (.long p5), .second, .val (.int cc), .val (.int kk), .unset, .unset, .unset] [(.ref b243)])) t → Steps p.tables e below (s₁.setTop (entryFrame m #[(.int p1), (.int p2), (.int p3), (.long p4), (.long p5)] maxLocals)) t := fun t k => C244 t (st245.trans k)
  have Z2 : n0 ≤ T245.heap.size := Nat.le_trans Z1 K245.1
  have gs := Nat.le_trans Z1 fs
  have gt := Nat.le_trans Z1 ft
  have gv := Nat.le_trans Z1 fv
  have ge := Nat.le_trans Z1 fe
  have C246 : ∀ t, Steps p.tables e below (T245.setTop (mkF m 27 #[.val (.int p1), .val (.int p2), .val (.int p3), .val (.long p4), .second, .val (.long p5), .second, .val (.int cc), .val (.int kk), .val (.ref b243), .unset, .unset] [])) t → Steps p.tables e below (s₁.setTop (entryFrame m #[(.int p1), (.int p2), (.int p3), (.long p4), (.long p5)] maxLocals)) t := by
    intro t k
    refine C245 t ?_
    show Steps p.tables e below (T245.setTop (mkF m 25 #[.val (.int p1), .val (.int p2), .val (.int p3), .val (.long p4), .second, .val (.long p5), .second, .val (.int cc), .val (.int kk), .unset, .unset, .unset] [(.ref b243)])) _
    refine XS.astore X245.here hx rfl (hb hby at_25) rfl rfl (l' := #[.val (.int p1), .val (.int p2), .val (.int p3), .val (.long p4), .second, .val (.long p5), .second, .val (.int cc), .val (.int kk), .val (.ref b243), .unset, .unset]) rfl ?_
    exact k
  obtain ⟨T247, h247, X247, e247, E247, A247, D247, -, st247⟩ := newO X245 hx hZ hown (hw _ (List.mem_of_getElem? (i := 22) rfl)) (hw _ (List.mem_of_getElem? (i := 23) rfl)) (hw _ (List.mem_of_getElem? (i := 24) rfl)) rfl (g := (mkF m 27 #[.val (.int p1), .val (.int p2), .val (.int p3), .val (.long p4), .second, .val (.long p5), .second, .val (.int cc), .val (.int kk), .val (.ref b243), .unset, .unset] [])) rfl (hb hby at_27) (by decide) (by decide)
  obtain ⟨b247, g247⟩ : ∃ z, z = T245.heap.size := ⟨_, rfl⟩
  rw [← g247] at A247 D247 st247
  have C247 : ∀ t, Steps p.tables e below (T247.setTop (mkF m 30 #[.val (.int p1), .val (.int p2), .val (.int p3), .val (.long p4), .second, .val (.long p5), .second, .val (.int cc), .val (.int kk), .val (.ref b243), .unset, .unset] [(.ref b247)])) t → Steps p.tables e below (s₁.setTop (entryFrame m #[(.int p1), (.int p2), (.int p3), (.long p4), (.long p5)] maxLocals)) t := fun t k => C246 t (st247 t k)
  have G_series : Fld Z h247 b247 "com/example/bucket/bucket/lineformat/Point" "series" "Lcom/example/bucket/bucket/lineformat/Series;" .null := D247 (Or.inr (hw _ (List.mem_of_getElem? (i := 30) rfl))) (ty := (.object "com/example/bucket/bucket/lineformat/Series")) (by decide)
  have G_time : Fld Z h247 b247 "com/example/bucket/bucket/lineformat/Point" "time" "J" (.long 0) := D247 (Or.inr (hw _ (List.mem_of_getElem? (i := 32) rfl))) (ty := .long) (by decide)
  have G_value : Fld Z h247 b247 "com/example/bucket/bucket/lineformat/Point" "value" "D" (.double 0) := D247 (Or.inr (hw _ (List.mem_of_getElem? (i := 34) rfl))) (ty := .double) (by decide)
  have Z3 : n0 ≤ h247.size := Nat.le_trans Z2 E247.1
  have g2 : n0 ≤ b247 := Nat.le_trans Z2 (Nat.le_of_eq g247.symm)
  have C248 : ∀ t, Steps p.tables e below (T247.setTop (mkF m 39 #[.val (.int p1), .val (.int p2), .val (.int p3), .val (.long p4), .second, .val (.long p5), .second, .val (.int cc), .val (.int kk), .val (.ref b243), .unset, .unset] [(.double (FP.i2d (p3 &&& (255 : Int32)))), (.long p4), .null, (.ref b247), (.ref b247)])) t → Steps p.tables e below (s₁.setTop (entryFrame m #[(.int p1), (.int p2), (.int p3), (.long p4), (.long p5)] maxLocals)) t := by
    intro t k
    refine C247 t ?_
    show Steps p.tables e below (T247.setTop (mkF m 30 #[.val (.int p1), .val (.int p2), .val (.int p3), .val (.long p4), .second, .val (.long p5), .second, .val (.int cc), .val (.int kk), .val (.ref b243), .unset, .unset] [(.ref b247)])) _
    refine XS.dup X247.here hx rfl (hb hby at_30) rfl rfl ?_
    show Steps p.tables e below (T247.setTop (mkF m 31 #[.val (.int p1), .val (.int p2), .val (.int p3), .val (.long p4), .second, .val (.long p5), .second, .val (.int cc), .val (.int kk), .val (.ref b243), .unset, .unset] [(.ref b247), (.ref b247)])) _
    refine XS.aconstNull X247.here hx rfl (hb hby at_31) ?_
    show Steps p.tables e below (T247.setTop (mkF m 32 #[.val (.int p1), .val (.int p2), .val (.int p3), .val (.long p4), .second, .val (.long p5), .second, .val (.int cc), .val (.int kk), .val (.ref b243), .unset, .unset] [.null, (.ref b247), (.ref b247)])) _
    refine XS.lloadN X247.here hx rfl (hb hby at_32) rfl ?_
    show Steps p.tables e below (T247.setTop (mkF m 33 #[.val (.int p1), .val (.int p2), .val (.int p3), .val (.long p4), .second, .val (.long p5), .second, .val (.int cc), .val (.int kk), .val (.ref b243), .unset, .unset] [(.long p4), .null, (.ref b247), (.ref b247)])) _
    refine XS.iloadN X247.here hx rfl (hb hby at_33) rfl ?_
    show Steps p.tables e below (T247.setTop (mkF m 34 #[.val (.int p1), .val (.int p2), .val (.int p3), .val (.long p4), .second, .val (.long p5), .second, .val (.int cc), .val (.int kk), .val (.ref b243), .unset, .unset] [(.int p3), (.long p4), .null, (.ref b247), (.ref b247)])) _
    refine XS.sipush X247.here hx rfl (hb hby at_34) ?_
    show Steps p.tables e below (T247.setTop (mkF m 37 #[.val (.int p1), .val (.int p2), .val (.int p3), .val (.long p4), .second, .val (.long p5), .second, .val (.int cc), .val (.int kk), .val (.ref b243), .unset, .unset] [(.int (255 : Int32)), (.int p3), (.long p4), .null, (.ref b247), (.ref b247)])) _
    refine XS.iand X247.here hx rfl (hb hby at_37) rfl ?_
    show Steps p.tables e below (T247.setTop (mkF m 38 #[.val (.int p1), .val (.int p2), .val (.int p3), .val (.long p4), .second, .val (.long p5), .second, .val (.int cc), .val (.int kk), .val (.ref b243), .unset, .unset] [(.int (p3 &&& (255 : Int32))), (.long p4), .null, (.ref b247), (.ref b247)])) _
    refine XS.i2dS X247.here hx rfl (hb hby at_38) rfl rfl ?_
    exact k
  obtain ⟨_, _, ⟨T249, L249, k249, n249⟩, -, X249, ⟨Lc249, hQ249, l249, y249, z249⟩, st249⟩ := X247.specialBack hx (y := (⟨"com/example/bucket/bucket/lineformat/Point", "<init>", "(Lcom/example/bucket/bucket/lineformat/Series;JD)V"⟩ : MethodName)) rfl hown (mvT hZ (hw _ (List.mem_of_getElem? (i := 25) rfl))) (mvT hZ (hw _ (List.mem_of_getElem? (i := 26) rfl))) (mvT hZ (hw _ (List.mem_of_getElem? (i := 27) rfl))) (by decide) (backOf (W := 1) (rm3 l Z a0 hw [] b247 p4 (FP.i2d (p3 &&& (255 : Int32))) h247 n0 Z3 G_series G_time G_value A247 g2) hZ (hw _ (List.mem_of_getElem? (i := 27) rfl)) (hw _ (List.mem_of_getElem? (i := 24) rfl)) (by decide) (by decide)) (g := (mkF m 39 #[.val (.int p1), .val (.int p2), .val (.int p3), .val (.long p4), .second, .val (.long p5), .second, .val (.int cc), .val (.int kk), .val (.ref b243), .unset, .unset] [(.double (FP.i2d (p3 &&& (255 : Int32)))), (.long p4), .null, (.ref b247), (.ref b247)])) rfl (by rw [hml]; rfl) (Steps.refl _) (a := b247) (argsL := [.null, (.long p4), (.double (FP.i2d (p3 &&& (255 : Int32))))]) (rest := [(.ref b247)]) (lenOf pd6 rfl) rfl (by show 2 * 0 + _ ≤ _; exact Nat.le_of_eq rfl) (hb hby at_39) (fun _ _ => ⟨rfl, e247, (by decide : 6 + 0 ≤ _), (by decide : 21 + 0 ≤ _)⟩)
  dsimp only [Pt.U, Pt.locs, Pt.cells, Pt.slots] at X249 l249 y249 z249 st249 hQ249
  subst l249 y249 z249
  obtain ⟨rfl, N249q, Q249, K249⟩ := hQ249
  have N249 := Fr.app N245 N249q
  have C249 : ∀ t, Steps p.tables e below (T249.setTop (mkF m 42 #[.val (.int p1), .val (.int p2), .val (.int p3), .val (.long p4), .second, .val (.long p5), .second, .val (.int cc), .val (.int kk), .val (.ref b243), .unset, .unset] [(.ref b247)])) t → Steps p.tables e below (s₁.setTop (entryFrame m #[(.int p1), (.int p2), (.int p3), (.long p4), (.long p5)] maxLocals)) t := fun t k => C248 t (st249.trans k)
  have Z4 : n0 ≤ T249.heap.size := Nat.le_trans Z3 K249.1
  have PA : OwnP Z T249.heap b243 sa ta va ea cc.toNatClampNeg 0 := (P245.ext E247).keep K249 (own_nin1 (own_natne (by have := own_natlt P245.lt.1; omega)))
  obtain ⟨r0, hr0⟩ : ∃ r : Int32, ((0 : Int32) = cc ∧ r = 1) ∨ (¬ (0 : Int32) = cc ∧ r = 0) := by
    by_cases q : (0 : Int32) = cc
    · exact ⟨1, Or.inl ⟨q, rfl⟩⟩
    · exact ⟨0, Or.inr ⟨q, rfl⟩⟩
  have C250 : ∀ t, Steps p.tables e below (T249.setTop (mkF m 46 #[.val (.int p1), .val (.int p2), .val (.int p3), .val (.long p4), .second, .val (.long p5), .second, .val (.int cc), .val (.int kk), .val (.ref b243), .val (.ref b247), .unset] [(.ref b243)])) t → Steps p.tables e below (s₁.setTop (entryFrame m #[(.int p1), (.int p2), (.int p3), (.long p4), (.long p5)] maxLocals)) t := by
    intro t k
    refine C249 t ?_
    show Steps p.tables e below (T249.setTop (mkF m 42 #[.val (.int p1), .val (.int p2), .val (.int p3), .val (.long p4), .second, .val (.long p5), .second, .val (.int cc), .val (.int kk), .val (.ref b243), .unset, .unset] [(.ref b247)])) _
    refine XS.astore X249.here hx rfl (hb hby at_42) rfl rfl (l' := #[.val (.int p1), .val (.int p2), .val (.int p3), .val (.long p4), .second, .val (.long p5), .second, .val (.int cc), .val (.int kk), .val (.ref b243), .val (.ref b247), .unset]) rfl ?_
    show Steps p.tables e below (T249.setTop (mkF m 44 #[.val (.int p1), .val (.int p2), .val (.int p3), .val (.long p4), .second, .val (.long p5), .second, .val (.int cc), .val (.int kk), .val (.ref b243), .val (.ref b247), .unset] [])) _
    refine XS.aload X249.here hx rfl (hb hby at_44) rfl rfl ?_
    exact k
  obtain ⟨cq251, kq251, q251a, q251b, q251c⟩ := isOf hZ rfl PA.1
  obtain ⟨_, _, ⟨T251, L251, k251, n251⟩, -, X251, ⟨Lc251, hQ251, l251, y251, z251⟩, st251⟩ := X249.virtualBack hx (y := (⟨"com/example/bucket/bucket/ingest/PointRun", "isFull", "()Z"⟩ : MethodName)) (z := (⟨"com/example/bucket/bucket/ingest/PointRun", "isFull", "()Z"⟩ : MethodName)) hown (mvT hZ (hw _ (List.mem_of_getElem? (i := 35) rfl))) (mvT hZ (hw _ (List.mem_of_getElem? (i := 36) rfl))) (notFace_of_selects (args := #[]) (mvT hZ (hw _ (List.mem_of_getElem? (i := 38) rfl)))) (mvT hZ (hw _ (List.mem_of_getElem? (i := 38) rfl))) (mvT hZ (hw _ (List.mem_of_getElem? (i := 37) rfl))) (by decide) (backOf (W := 0) (rm4 l Z a0 hw [] b243 sa ta va ea cc (0 : Int32) r0 T249.heap n0 Z4 PA hcc.1 hr0) hZ (hw _ (List.mem_of_getElem? (i := 39) rfl)) (hw _ (List.mem_of_getElem? (i := 3) rfl)) (by decide) (by decide)) q251a q251c (g := (mkF m 46 #[.val (.int p1), .val (.int p2), .val (.int p3), .val (.long p4), .second, .val (.long p5), .second, .val (.int cc), .val (.int kk), .val (.ref b243), .val (.ref b247), .unset] [(.ref b243)])) rfl (by rw [hml]; rfl) (Steps.refl _) (argsL := []) (rest := []) (lenOf pd7 rfl) rfl (by show 2 * 0 + _ ≤ _; exact Nat.le_of_eq rfl) (hb hby at_46) (fun _ _ => ⟨rfl, rfl, (by decide : 6 + 0 ≤ _), (by decide : 21 + 0 ≤ _)⟩)
  dsimp only [Pt.U, Pt.locs, Pt.cells, Pt.slots] at X251 l251 y251 z251 st251 hQ251
  subst l251 y251 z251
  obtain ⟨rfl, N251q, q251⟩ := hQ251
  have N251 := Fr.app N249 N251q
  have C251 : ∀ t, Steps p.tables e below (T251.setTop (mkF m 49 #[.val (.int p1), .val (.int p2), .val (.int p3), .val (.long p4), .second, .val (.long p5), .second, .val (.int cc), .val (.int kk), .val (.ref b243), .val (.ref b247), .unset] [(.int r0)])) t → Steps p.tables e below (s₁.setTop (entryFrame m #[(.int p1), (.int p2), (.int p3), (.long p4), (.long p5)] maxLocals)) t := fun t k => C250 t (st251.trans k)
  have C252 : ∀ t, Steps p.tables e below (T251.setTop (mkF m 51 #[.val (.int p1), .val (.int p2), .val (.int p3), .val (.long p4), .second, .val (.long p5), .second, .val (.int cc), .val (.int kk), .val (.ref b243), .val (.ref b247), .unset] [(.int cc), (.int r0)])) t → Steps p.tables e below (s₁.setTop (entryFrame m #[(.int p1), (.int p2), (.int p3), (.long p4), (.long p5)] maxLocals)) t := by
    intro t k
    refine C251 t ?_
    show Steps p.tables e below (T251.setTop (mkF m 49 #[.val (.int p1), .val (.int p2), .val (.int p3), .val (.long p4), .second, .val (.long p5), .second, .val (.int cc), .val (.int kk), .val (.ref b243), .val (.ref b247), .unset] [(.int r0)])) _
    refine XS.iload X251.here hx rfl (hb hby at_49) rfl ?_
    exact k
  have CC0 : ∀ t, Steps p.tables e below (T251.setTop (mkF m 67 #[.val (.int p1), .val (.int p2), .val (.int p3), .val (.long p4), .second, .val (.long p5), .second, .val (.int cc), .val (.int kk), .val (.ref b243), .val (.ref b247), .unset] [(.int (1 : Int32))])) t → Steps p.tables e below (s₁.setTop (entryFrame m #[(.int p1), (.int p2), (.int p3), (.long p4), (.long p5)] maxLocals)) t := by
    rcases hr0 with ⟨hc, er⟩ | ⟨hc, er⟩
    · intro t k
      refine C252 t ?_
      show Steps p.tables e below (T251.setTop (mkF m 51 #[.val (.int p1), .val (.int p2), .val (.int p3), .val (.long p4), .second, .val (.long p5), .second, .val (.int cc), .val (.int kk), .val (.ref b243), .val (.ref b247), .unset] [(.int cc), (.int r0)])) _
      refine XS.ifNo X251.here hx rfl (hb hby at_51) rfl (XT.i0_ne_f (by rw [← hc])) ?_
      show Steps p.tables e below (T251.setTop (mkF m 54 #[.val (.int p1), .val (.int p2), .val (.int p3), .val (.long p4), .second, .val (.long p5), .second, .val (.int cc), .val (.int kk), .val (.ref b243), .val (.ref b247), .unset] [(.int r0)])) _
      refine XS.iconst X251.here hx rfl (hb hby at_54) ?_
      show Steps p.tables e below (T251.setTop (mkF m 55 #[.val (.int p1), .val (.int p2), .val (.int p3), .val (.long p4), .second, .val (.long p5), .second, .val (.int cc), .val (.int kk), .val (.ref b243), .val (.ref b247), .unset] [(.int (1 : Int32)), (.int r0)])) _
      refine XS.goto X251.here hx rfl (pc0 := 55) (pc' := 59) rfl (hb hby at_55) (by decide) (by decide) ?_
      show Steps p.tables e below (T251.setTop (mkF m 59 #[.val (.int p1), .val (.int p2), .val (.int p3), .val (.long p4), .second, .val (.long p5), .second, .val (.int cc), .val (.int kk), .val (.ref b243), .val (.ref b247), .unset] [(.int (1 : Int32)), (.int r0)])) _
      refine XS.icmpNo X251.here hx rfl (hb hby at_59) rfl (XT.ii_ne_f er) ?_
      show Steps p.tables e below (T251.setTop (mkF m 62 #[.val (.int p1), .val (.int p2), .val (.int p3), .val (.long p4), .second, .val (.long p5), .second, .val (.int cc), .val (.int kk), .val (.ref b243), .val (.ref b247), .unset] [])) _
      refine XS.iconst X251.here hx rfl (hb hby at_62) ?_
      show Steps p.tables e below (T251.setTop (mkF m 63 #[.val (.int p1), .val (.int p2), .val (.int p3), .val (.long p4), .second, .val (.long p5), .second, .val (.int cc), .val (.int kk), .val (.ref b243), .val (.ref b247), .unset] [(.int (1 : Int32))])) _
      refine XS.goto X251.here hx rfl (pc0 := 63) (pc' := 67) rfl (hb hby at_63) (by decide) (by decide) ?_
      exact k
    · intro t k
      refine C252 t ?_
      show Steps p.tables e below (T251.setTop (mkF m 51 #[.val (.int p1), .val (.int p2), .val (.int p3), .val (.long p4), .second, .val (.long p5), .second, .val (.int cc), .val (.int kk), .val (.ref b243), .val (.ref b247), .unset] [(.int cc), (.int r0)])) _
      refine XS.ifYes X251.here hx rfl (pc0 := 51) (pc' := 58) rfl (hb hby at_51) rfl (XT.i0_ne_t (fun q => hc q.symm)) (by decide) (by decide) ?_
      show Steps p.tables e below (T251.setTop (mkF m 58 #[.val (.int p1), .val (.int p2), .val (.int p3), .val (.long p4), .second, .val (.long p5), .second, .val (.int cc), .val (.int kk), .val (.ref b243), .val (.ref b247), .unset] [(.int r0)])) _
      refine XS.iconst X251.here hx rfl (hb hby at_58) ?_
      show Steps p.tables e below (T251.setTop (mkF m 59 #[.val (.int p1), .val (.int p2), .val (.int p3), .val (.long p4), .second, .val (.long p5), .second, .val (.int cc), .val (.int kk), .val (.ref b243), .val (.ref b247), .unset] [(.int (0 : Int32)), (.int r0)])) _
      refine XS.icmpNo X251.here hx rfl (hb hby at_59) rfl (XT.ii_ne_f er) ?_
      show Steps p.tables e below (T251.setTop (mkF m 62 #[.val (.int p1), .val (.int p2), .val (.int p3), .val (.long p4), .second, .val (.long p5), .second, .val (.int cc), .val (.int kk), .val (.ref b243), .val (.ref b247), .unset] [])) _
      refine XS.iconst X251.here hx rfl (hb hby at_62) ?_
      show Steps p.tables e below (T251.setTop (mkF m 63 #[.val (.int p1), .val (.int p2), .val (.int p3), .val (.long p4), .second, .val (.long p5), .second, .val (.int cc), .val (.int kk), .val (.ref b243), .val (.ref b247), .unset] [(.int (1 : Int32))])) _
      refine XS.goto X251.here hx rfl (pc0 := 63) (pc' := 67) rfl (hb hby at_63) (by decide) (by decide) ?_
      exact k
  have C253 : ∀ t, Steps p.tables e below (T251.setTop (mkF m 81 #[.val (.int p1), .val (.int p2), .val (.int p3), .val (.long p4), .second, .val (.long p5), .second, .val (.int cc), .val (.int kk), .val (.ref b243), .val (.ref b247), .val (.int (1 : Int32))] [(.long p5), (.ref b247), (.ref b243)])) t → Steps p.tables e below (s₁.setTop (entryFrame m #[(.int p1), (.int p2), (.int p3), (.long p4), (.long p5)] maxLocals)) t := by
    intro t k
    refine CC0 t ?_
    show Steps p.tables e below (T251.setTop (mkF m 67 #[.val (.int p1), .val (.int p2), .val (.int p3), .val (.long p4), .second, .val (.long p5), .second, .val (.int cc), .val (.int kk), .val (.ref b243), .val (.ref b247), .unset] [(.int (1 : Int32))])) _
    refine XS.istore X251.here hx rfl (hb hby at_67) rfl (l' := #[.val (.int p1), .val (.int p2), .val (.int p3), .val (.long p4), .second, .val (.long p5), .second, .val (.int cc), .val (.int kk), .val (.ref b243), .val (.ref b247), .val (.int (1 : Int32))]) rfl ?_
    show Steps p.tables e below (T251.setTop (mkF m 69 #[.val (.int p1), .val (.int p2), .val (.int p3), .val (.long p4), .second, .val (.long p5), .second, .val (.int cc), .val (.int kk), .val (.ref b243), .val (.ref b247), .val (.int (1 : Int32))] [])) _
    refine XS.iload X251.here hx rfl (hb hby at_69) rfl ?_
    show Steps p.tables e below (T251.setTop (mkF m 71 #[.val (.int p1), .val (.int p2), .val (.int p3), .val (.long p4), .second, .val (.long p5), .second, .val (.int cc), .val (.int kk), .val (.ref b243), .val (.ref b247), .val (.int (1 : Int32))] [(.int kk)])) _
    refine XS.iconst X251.here hx rfl (hb hby at_71) ?_
    show Steps p.tables e below (T251.setTop (mkF m 72 #[.val (.int p1), .val (.int p2), .val (.int p3), .val (.long p4), .second, .val (.long p5), .second, .val (.int cc), .val (.int kk), .val (.ref b243), .val (.ref b247), .val (.int (1 : Int32))] [(.int (1 : Int32)), (.int kk)])) _
    refine XS.icmpNo X251.here hx rfl (hb hby at_72) rfl (XT.ii_lt_f (by rw [hkk]; decide)) ?_
    show Steps p.tables e below (T251.setTop (mkF m 75 #[.val (.int p1), .val (.int p2), .val (.int p3), .val (.long p4), .second, .val (.long p5), .second, .val (.int cc), .val (.int kk), .val (.ref b243), .val (.ref b247), .val (.int (1 : Int32))] [])) _
    refine XS.aload X251.here hx rfl (hb hby at_75) rfl rfl ?_
    show Steps p.tables e below (T251.setTop (mkF m 77 #[.val (.int p1), .val (.int p2), .val (.int p3), .val (.long p4), .second, .val (.long p5), .second, .val (.int cc), .val (.int kk), .val (.ref b243), .val (.ref b247), .val (.int (1 : Int32))] [(.ref b243)])) _
    refine XS.aload X251.here hx rfl (hb hby at_77) rfl rfl ?_
    show Steps p.tables e below (T251.setTop (mkF m 79 #[.val (.int p1), .val (.int p2), .val (.int p3), .val (.long p4), .second, .val (.long p5), .second, .val (.int cc), .val (.int kk), .val (.ref b243), .val (.ref b247), .val (.int (1 : Int32))] [(.ref b247), (.ref b243)])) _
    refine XS.lload X251.here hx rfl (hb hby at_79) rfl ?_
    exact k
  obtain ⟨cq254, kq254, q254a, q254b, q254c⟩ := isOf hZ q251 PA.1
  obtain ⟨_, _, ⟨T254, L254, k254, n254⟩, -, X254, ⟨Lc254, hQ254, l254, y254, z254⟩, st254⟩ := X251.virtualBack hx (y := (⟨"com/example/bucket/bucket/ingest/PointRun", "add", "(Lcom/example/bucket/bucket/lineformat/Point;J)V"⟩ : MethodName)) (z := (⟨"com/example/bucket/bucket/ingest/PointRun", "add", "(Lcom/example/bucket/bucket/lineformat/Point;J)V"⟩ : MethodName)) hown (mvT hZ (hw _ (List.mem_of_getElem? (i := 42) rfl))) (mvT hZ (hw _ (List.mem_of_getElem? (i := 43) rfl))) (notFace_of_selects (args := #[]) (mvT hZ (hw _ (List.mem_of_getElem? (i := 45) rfl)))) (mvT hZ (hw _ (List.mem_of_getElem? (i := 45) rfl))) (mvT hZ (hw _ (List.mem_of_getElem? (i := 44) rfl))) (by decide) (backOf (W := 0) (rm5 l Z a0 hw [] b243 b247 p5 sa ta va ea cc.toNatClampNeg 0 1 p4 (FP.i2d (p3 &&& (255 : Int32))) T249.heap n0 Z4 PA Q249 (own_room hkb (by decide)) (by decide) g1 gs gt gv ge) hZ (hw _ (List.mem_of_getElem? (i := 46) rfl)) (hw _ (List.mem_of_getElem? (i := 3) rfl)) (by decide) (by decide)) q254a q254c (g := (mkF m 81 #[.val (.int p1), .val (.int p2), .val (.int p3), .val (.long p4), .second, .val (.long p5), .second, .val (.int cc), .val (.int kk), .val (.ref b243), .val (.ref b247), .val (.int (1 : Int32))] [(.long p5), (.ref b247), (.ref b243)])) rfl (by rw [hml]; rfl) (Steps.refl _) (argsL := [(.ref b247), (.long p5)]) (rest := []) (lenOf pd9 rfl) rfl (by show 2 * 0 + _ ≤ _; exact Nat.le_of_eq rfl) (hb hby at_81) (fun _ _ => ⟨rfl, q251, (by decide : 6 + 0 ≤ _), (by decide : 21 + 0 ≤ _)⟩)
  dsimp only [Pt.U, Pt.locs, Pt.cells, Pt.slots] at X254 l254 y254 z254 st254 hQ254
  subst l254 y254 z254
  obtain ⟨rfl, N254q, P254, Q254, s254⟩ := hQ254
  have N254 := Fr.app N251 N254q
  have C254 : ∀ t, Steps p.tables e below (T254.setTop (mkF m 84 #[.val (.int p1), .val (.int p2), .val (.int p3), .val (.long p4), .second, .val (.long p5), .second, .val (.int cc), .val (.int kk), .val (.ref b243), .val (.ref b247), .val (.int (1 : Int32))] [])) t → Steps p.tables e below (s₁.setTop (entryFrame m #[(.int p1), (.int p2), (.int p3), (.long p4), (.long p5)] maxLocals)) t := fun t k => C253 t (st254.trans k)
  have ZZ254 : n0 ≤ T254.heap.size := Nat.le_trans Z4 s254
  obtain ⟨r1, hr1⟩ : ∃ r : Int32, ((1 : Int32) = cc ∧ r = 1) ∨ (¬ (1 : Int32) = cc ∧ r = 0) := by
    by_cases q : (1 : Int32) = cc
    · exact ⟨1, Or.inl ⟨q, rfl⟩⟩
    · exact ⟨0, Or.inr ⟨q, rfl⟩⟩
  have C255 : ∀ t, Steps p.tables e below (T254.setTop (mkF m 88 #[.val (.int p1), .val (.int p2), .val (.int p3), .val (.long p4), .second, .val (.long p5), .second, .val (.int cc), .val (.int kk), .val (.ref b243), .val (.ref b247), .val (.int (1 : Int32))] [(.ref b243), (.int (1 : Int32))])) t → Steps p.tables e below (s₁.setTop (entryFrame m #[(.int p1), (.int p2), (.int p3), (.long p4), (.long p5)] maxLocals)) t := by
    intro t k
    refine C254 t ?_
    show Steps p.tables e below (T254.setTop (mkF m 84 #[.val (.int p1), .val (.int p2), .val (.int p3), .val (.long p4), .second, .val (.long p5), .second, .val (.int cc), .val (.int kk), .val (.ref b243), .val (.ref b247), .val (.int (1 : Int32))] [])) _
    refine XS.iload X254.here hx rfl (hb hby at_84) rfl ?_
    show Steps p.tables e below (T254.setTop (mkF m 86 #[.val (.int p1), .val (.int p2), .val (.int p3), .val (.long p4), .second, .val (.long p5), .second, .val (.int cc), .val (.int kk), .val (.ref b243), .val (.ref b247), .val (.int (1 : Int32))] [(.int (1 : Int32))])) _
    refine XS.aload X254.here hx rfl (hb hby at_86) rfl rfl ?_
    exact k
  obtain ⟨cq256, kq256, q256a, q256b, q256c⟩ := isOf hZ rfl P254.1
  obtain ⟨_, _, ⟨T256, L256, k256, n256⟩, -, X256, ⟨Lc256, hQ256, l256, y256, z256⟩, st256⟩ := X254.virtualBack hx (y := (⟨"com/example/bucket/bucket/ingest/PointRun", "isFull", "()Z"⟩ : MethodName)) (z := (⟨"com/example/bucket/bucket/ingest/PointRun", "isFull", "()Z"⟩ : MethodName)) hown (mvT hZ (hw _ (List.mem_of_getElem? (i := 35) rfl))) (mvT hZ (hw _ (List.mem_of_getElem? (i := 36) rfl))) (notFace_of_selects (args := #[]) (mvT hZ (hw _ (List.mem_of_getElem? (i := 38) rfl)))) (mvT hZ (hw _ (List.mem_of_getElem? (i := 38) rfl))) (mvT hZ (hw _ (List.mem_of_getElem? (i := 37) rfl))) (by decide) (backOf (W := 1) (rm4 l Z a0 hw [] b243 sa ta va ea cc (1 : Int32) r1 T254.heap n0 ZZ254 P254 hcc.1 hr1) hZ (hw _ (List.mem_of_getElem? (i := 39) rfl)) (hw _ (List.mem_of_getElem? (i := 3) rfl)) (by decide) (by decide)) q256a q256c (g := (mkF m 88 #[.val (.int p1), .val (.int p2), .val (.int p3), .val (.long p4), .second, .val (.long p5), .second, .val (.int cc), .val (.int kk), .val (.ref b243), .val (.ref b247), .val (.int (1 : Int32))] [(.ref b243), (.int (1 : Int32))])) rfl (by rw [hml]; rfl) (Steps.refl _) (argsL := []) (rest := [(.int (1 : Int32))]) (lenOf pd7 rfl) rfl (by show 2 * 0 + _ ≤ _; exact Nat.le_of_eq rfl) (hb hby at_88) (fun _ _ => ⟨rfl, rfl, (by decide : 6 + 0 ≤ _), (by decide : 21 + 0 ≤ _)⟩)
  dsimp only [Pt.U, Pt.locs, Pt.cells, Pt.slots] at X256 l256 y256 z256 st256 hQ256
  subst l256 y256 z256
  obtain ⟨rfl, N256q, q256⟩ := hQ256
  have N256 := Fr.app N254 N256q
  have C256 : ∀ t, Steps p.tables e below (T256.setTop (mkF m 91 #[.val (.int p1), .val (.int p2), .val (.int p3), .val (.long p4), .second, .val (.long p5), .second, .val (.int cc), .val (.int kk), .val (.ref b243), .val (.ref b247), .val (.int (1 : Int32))] [(.int r1), (.int (1 : Int32))])) t → Steps p.tables e below (s₁.setTop (entryFrame m #[(.int p1), (.int p2), (.int p3), (.long p4), (.long p5)] maxLocals)) t := fun t k => C255 t (st256.trans k)
  have C257 : ∀ t, Steps p.tables e below (T256.setTop (mkF m 94 #[.val (.int p1), .val (.int p2), .val (.int p3), .val (.long p4), .second, .val (.long p5), .second, .val (.int cc), .val (.int kk), .val (.ref b243), .val (.ref b247), .val (.int (1 : Int32))] [(.int (1 : Int32)), (.int cc), (.int r1), (.int (1 : Int32))])) t → Steps p.tables e below (s₁.setTop (entryFrame m #[(.int p1), (.int p2), (.int p3), (.long p4), (.long p5)] maxLocals)) t := by
    intro t k
    refine C256 t ?_
    show Steps p.tables e below (T256.setTop (mkF m 91 #[.val (.int p1), .val (.int p2), .val (.int p3), .val (.long p4), .second, .val (.long p5), .second, .val (.int cc), .val (.int kk), .val (.ref b243), .val (.ref b247), .val (.int (1 : Int32))] [(.int r1), (.int (1 : Int32))])) _
    refine XS.iload X256.here hx rfl (hb hby at_91) rfl ?_
    show Steps p.tables e below (T256.setTop (mkF m 93 #[.val (.int p1), .val (.int p2), .val (.int p3), .val (.long p4), .second, .val (.long p5), .second, .val (.int cc), .val (.int kk), .val (.ref b243), .val (.ref b247), .val (.int (1 : Int32))] [(.int cc), (.int r1), (.int (1 : Int32))])) _
    refine XS.iconst X256.here hx rfl (hb hby at_93) ?_
    exact k
  have CC1 : ∀ t, Steps p.tables e below (T256.setTop (mkF m 110 #[.val (.int p1), .val (.int p2), .val (.int p3), .val (.long p4), .second, .val (.long p5), .second, .val (.int cc), .val (.int kk), .val (.ref b243), .val (.ref b247), .val (.int (1 : Int32))] [(.int (1 : Int32)), (.int (1 : Int32))])) t → Steps p.tables e below (s₁.setTop (entryFrame m #[(.int p1), (.int p2), (.int p3), (.long p4), (.long p5)] maxLocals)) t := by
    rcases hr1 with ⟨hc, er⟩ | ⟨hc, er⟩
    · intro t k
      refine C257 t ?_
      show Steps p.tables e below (T256.setTop (mkF m 94 #[.val (.int p1), .val (.int p2), .val (.int p3), .val (.long p4), .second, .val (.long p5), .second, .val (.int cc), .val (.int kk), .val (.ref b243), .val (.ref b247), .val (.int (1 : Int32))] [(.int (1 : Int32)), (.int cc), (.int r1), (.int (1 : Int32))])) _
      refine XS.icmpNo X256.here hx rfl (hb hby at_94) rfl (XT.ii_ne_f hc.symm) ?_
      show Steps p.tables e below (T256.setTop (mkF m 97 #[.val (.int p1), .val (.int p2), .val (.int p3), .val (.long p4), .second, .val (.long p5), .second, .val (.int cc), .val (.int kk), .val (.ref b243), .val (.ref b247), .val (.int (1 : Int32))] [(.int r1), (.int (1 : Int32))])) _
      refine XS.iconst X256.here hx rfl (hb hby at_97) ?_
      show Steps p.tables e below (T256.setTop (mkF m 98 #[.val (.int p1), .val (.int p2), .val (.int p3), .val (.long p4), .second, .val (.long p5), .second, .val (.int cc), .val (.int kk), .val (.ref b243), .val (.ref b247), .val (.int (1 : Int32))] [(.int (1 : Int32)), (.int r1), (.int (1 : Int32))])) _
      refine XS.goto X256.here hx rfl (pc0 := 98) (pc' := 102) rfl (hb hby at_98) (by decide) (by decide) ?_
      show Steps p.tables e below (T256.setTop (mkF m 102 #[.val (.int p1), .val (.int p2), .val (.int p3), .val (.long p4), .second, .val (.long p5), .second, .val (.int cc), .val (.int kk), .val (.ref b243), .val (.ref b247), .val (.int (1 : Int32))] [(.int (1 : Int32)), (.int r1), (.int (1 : Int32))])) _
      refine XS.icmpNo X256.here hx rfl (hb hby at_102) rfl (XT.ii_ne_f er) ?_
      show Steps p.tables e below (T256.setTop (mkF m 105 #[.val (.int p1), .val (.int p2), .val (.int p3), .val (.long p4), .second, .val (.long p5), .second, .val (.int cc), .val (.int kk), .val (.ref b243), .val (.ref b247), .val (.int (1 : Int32))] [(.int (1 : Int32))])) _
      refine XS.iconst X256.here hx rfl (hb hby at_105) ?_
      show Steps p.tables e below (T256.setTop (mkF m 106 #[.val (.int p1), .val (.int p2), .val (.int p3), .val (.long p4), .second, .val (.long p5), .second, .val (.int cc), .val (.int kk), .val (.ref b243), .val (.ref b247), .val (.int (1 : Int32))] [(.int (1 : Int32)), (.int (1 : Int32))])) _
      refine XS.goto X256.here hx rfl (pc0 := 106) (pc' := 110) rfl (hb hby at_106) (by decide) (by decide) ?_
      exact k
    · intro t k
      refine C257 t ?_
      show Steps p.tables e below (T256.setTop (mkF m 94 #[.val (.int p1), .val (.int p2), .val (.int p3), .val (.long p4), .second, .val (.long p5), .second, .val (.int cc), .val (.int kk), .val (.ref b243), .val (.ref b247), .val (.int (1 : Int32))] [(.int (1 : Int32)), (.int cc), (.int r1), (.int (1 : Int32))])) _
      refine XS.icmpYes X256.here hx rfl (pc0 := 94) (pc' := 101) rfl (hb hby at_94) rfl (XT.ii_ne_t (fun q => hc q.symm)) (by decide) (by decide) ?_
      show Steps p.tables e below (T256.setTop (mkF m 101 #[.val (.int p1), .val (.int p2), .val (.int p3), .val (.long p4), .second, .val (.long p5), .second, .val (.int cc), .val (.int kk), .val (.ref b243), .val (.ref b247), .val (.int (1 : Int32))] [(.int r1), (.int (1 : Int32))])) _
      refine XS.iconst X256.here hx rfl (hb hby at_101) ?_
      show Steps p.tables e below (T256.setTop (mkF m 102 #[.val (.int p1), .val (.int p2), .val (.int p3), .val (.long p4), .second, .val (.long p5), .second, .val (.int cc), .val (.int kk), .val (.ref b243), .val (.ref b247), .val (.int (1 : Int32))] [(.int (0 : Int32)), (.int r1), (.int (1 : Int32))])) _
      refine XS.icmpNo X256.here hx rfl (hb hby at_102) rfl (XT.ii_ne_f er) ?_
      show Steps p.tables e below (T256.setTop (mkF m 105 #[.val (.int p1), .val (.int p2), .val (.int p3), .val (.long p4), .second, .val (.long p5), .second, .val (.int cc), .val (.int kk), .val (.ref b243), .val (.ref b247), .val (.int (1 : Int32))] [(.int (1 : Int32))])) _
      refine XS.iconst X256.here hx rfl (hb hby at_105) ?_
      show Steps p.tables e below (T256.setTop (mkF m 106 #[.val (.int p1), .val (.int p2), .val (.int p3), .val (.long p4), .second, .val (.long p5), .second, .val (.int cc), .val (.int kk), .val (.ref b243), .val (.ref b247), .val (.int (1 : Int32))] [(.int (1 : Int32)), (.int (1 : Int32))])) _
      refine XS.goto X256.here hx rfl (pc0 := 106) (pc' := 110) rfl (hb hby at_106) (by decide) (by decide) ?_
      exact k
  have C258 : ∀ t, Steps p.tables e below (T256.setTop (mkF m 125 #[.val (.int p1), .val (.int p2), .val (.int p3), .val (.long p4), .second, .val (.long p5), .second, .val (.int cc), .val (.int kk), .val (.ref b243), .val (.ref b247), .val (.int (1 : Int32))] [(.long p5), (.ref b247), (.ref b243)])) t → Steps p.tables e below (s₁.setTop (entryFrame m #[(.int p1), (.int p2), (.int p3), (.long p4), (.long p5)] maxLocals)) t := by
    intro t k
    refine CC1 t ?_
    show Steps p.tables e below (T256.setTop (mkF m 110 #[.val (.int p1), .val (.int p2), .val (.int p3), .val (.long p4), .second, .val (.long p5), .second, .val (.int cc), .val (.int kk), .val (.ref b243), .val (.ref b247), .val (.int (1 : Int32))] [(.int (1 : Int32)), (.int (1 : Int32))])) _
    refine XS.iand X256.here hx rfl (hb hby at_110) rfl ?_
    show Steps p.tables e below (T256.setTop (mkF m 111 #[.val (.int p1), .val (.int p2), .val (.int p3), .val (.long p4), .second, .val (.long p5), .second, .val (.int cc), .val (.int kk), .val (.ref b243), .val (.ref b247), .val (.int (1 : Int32))] [(.int (1 : Int32))])) _
    refine XS.istore X256.here hx rfl (hb hby at_111) rfl (l' := #[.val (.int p1), .val (.int p2), .val (.int p3), .val (.long p4), .second, .val (.long p5), .second, .val (.int cc), .val (.int kk), .val (.ref b243), .val (.ref b247), .val (.int (1 : Int32))]) rfl ?_
    show Steps p.tables e below (T256.setTop (mkF m 113 #[.val (.int p1), .val (.int p2), .val (.int p3), .val (.long p4), .second, .val (.long p5), .second, .val (.int cc), .val (.int kk), .val (.ref b243), .val (.ref b247), .val (.int (1 : Int32))] [])) _
    refine XS.iload X256.here hx rfl (hb hby at_113) rfl ?_
    show Steps p.tables e below (T256.setTop (mkF m 115 #[.val (.int p1), .val (.int p2), .val (.int p3), .val (.long p4), .second, .val (.long p5), .second, .val (.int cc), .val (.int kk), .val (.ref b243), .val (.ref b247), .val (.int (1 : Int32))] [(.int kk)])) _
    refine XS.iconst X256.here hx rfl (hb hby at_115) ?_
    show Steps p.tables e below (T256.setTop (mkF m 116 #[.val (.int p1), .val (.int p2), .val (.int p3), .val (.long p4), .second, .val (.long p5), .second, .val (.int cc), .val (.int kk), .val (.ref b243), .val (.ref b247), .val (.int (1 : Int32))] [(.int (2 : Int32)), (.int kk)])) _
    refine XS.icmpNo X256.here hx rfl (hb hby at_116) rfl (XT.ii_lt_f (by rw [hkk]; decide)) ?_
    show Steps p.tables e below (T256.setTop (mkF m 119 #[.val (.int p1), .val (.int p2), .val (.int p3), .val (.long p4), .second, .val (.long p5), .second, .val (.int cc), .val (.int kk), .val (.ref b243), .val (.ref b247), .val (.int (1 : Int32))] [])) _
    refine XS.aload X256.here hx rfl (hb hby at_119) rfl rfl ?_
    show Steps p.tables e below (T256.setTop (mkF m 121 #[.val (.int p1), .val (.int p2), .val (.int p3), .val (.long p4), .second, .val (.long p5), .second, .val (.int cc), .val (.int kk), .val (.ref b243), .val (.ref b247), .val (.int (1 : Int32))] [(.ref b243)])) _
    refine XS.aload X256.here hx rfl (hb hby at_121) rfl rfl ?_
    show Steps p.tables e below (T256.setTop (mkF m 123 #[.val (.int p1), .val (.int p2), .val (.int p3), .val (.long p4), .second, .val (.long p5), .second, .val (.int cc), .val (.int kk), .val (.ref b243), .val (.ref b247), .val (.int (1 : Int32))] [(.ref b247), (.ref b243)])) _
    refine XS.lload X256.here hx rfl (hb hby at_123) rfl ?_
    exact k
  obtain ⟨cq259, kq259, q259a, q259b, q259c⟩ := isOf hZ q256 P254.1
  obtain ⟨_, _, ⟨T259, L259, k259, n259⟩, -, X259, ⟨Lc259, hQ259, l259, y259, z259⟩, st259⟩ := X256.virtualBack hx (y := (⟨"com/example/bucket/bucket/ingest/PointRun", "add", "(Lcom/example/bucket/bucket/lineformat/Point;J)V"⟩ : MethodName)) (z := (⟨"com/example/bucket/bucket/ingest/PointRun", "add", "(Lcom/example/bucket/bucket/lineformat/Point;J)V"⟩ : MethodName)) hown (mvT hZ (hw _ (List.mem_of_getElem? (i := 42) rfl))) (mvT hZ (hw _ (List.mem_of_getElem? (i := 43) rfl))) (notFace_of_selects (args := #[]) (mvT hZ (hw _ (List.mem_of_getElem? (i := 45) rfl)))) (mvT hZ (hw _ (List.mem_of_getElem? (i := 45) rfl))) (mvT hZ (hw _ (List.mem_of_getElem? (i := 44) rfl))) (by decide) (backOf (W := 0) (rm5 l Z a0 hw [] b243 b247 p5 sa ta va ea cc.toNatClampNeg 1 2 p4 (FP.i2d (p3 &&& (255 : Int32))) T254.heap n0 ZZ254 P254 Q254 (own_room hkb (by decide)) (by decide) g1 gs gt gv ge) hZ (hw _ (List.mem_of_getElem? (i := 46) rfl)) (hw _ (List.mem_of_getElem? (i := 3) rfl)) (by decide) (by decide)) q259a q259c (g := (mkF m 125 #[.val (.int p1), .val (.int p2), .val (.int p3), .val (.long p4), .second, .val (.long p5), .second, .val (.int cc), .val (.int kk), .val (.ref b243), .val (.ref b247), .val (.int (1 : Int32))] [(.long p5), (.ref b247), (.ref b243)])) rfl (by rw [hml]; rfl) (Steps.refl _) (argsL := [(.ref b247), (.long p5)]) (rest := []) (lenOf pd9 rfl) rfl (by show 2 * 0 + _ ≤ _; exact Nat.le_of_eq rfl) (hb hby at_125) (fun _ _ => ⟨rfl, q256, (by decide : 6 + 0 ≤ _), (by decide : 21 + 0 ≤ _)⟩)
  dsimp only [Pt.U, Pt.locs, Pt.cells, Pt.slots] at X259 l259 y259 z259 st259 hQ259
  subst l259 y259 z259
  obtain ⟨rfl, N259q, P259, Q259, s259⟩ := hQ259
  have N259 := Fr.app N256 N259q
  have C259 : ∀ t, Steps p.tables e below (T259.setTop (mkF m 128 #[.val (.int p1), .val (.int p2), .val (.int p3), .val (.long p4), .second, .val (.long p5), .second, .val (.int cc), .val (.int kk), .val (.ref b243), .val (.ref b247), .val (.int (1 : Int32))] [])) t → Steps p.tables e below (s₁.setTop (entryFrame m #[(.int p1), (.int p2), (.int p3), (.long p4), (.long p5)] maxLocals)) t := fun t k => C258 t (st259.trans k)
  have ZZ259 : n0 ≤ T259.heap.size := Nat.le_trans ZZ254 s259
  obtain ⟨r2, hr2⟩ : ∃ r : Int32, ((2 : Int32) = cc ∧ r = 1) ∨ (¬ (2 : Int32) = cc ∧ r = 0) := by
    by_cases q : (2 : Int32) = cc
    · exact ⟨1, Or.inl ⟨q, rfl⟩⟩
    · exact ⟨0, Or.inr ⟨q, rfl⟩⟩
  have C260 : ∀ t, Steps p.tables e below (T259.setTop (mkF m 132 #[.val (.int p1), .val (.int p2), .val (.int p3), .val (.long p4), .second, .val (.long p5), .second, .val (.int cc), .val (.int kk), .val (.ref b243), .val (.ref b247), .val (.int (1 : Int32))] [(.ref b243), (.int (1 : Int32))])) t → Steps p.tables e below (s₁.setTop (entryFrame m #[(.int p1), (.int p2), (.int p3), (.long p4), (.long p5)] maxLocals)) t := by
    intro t k
    refine C259 t ?_
    show Steps p.tables e below (T259.setTop (mkF m 128 #[.val (.int p1), .val (.int p2), .val (.int p3), .val (.long p4), .second, .val (.long p5), .second, .val (.int cc), .val (.int kk), .val (.ref b243), .val (.ref b247), .val (.int (1 : Int32))] [])) _
    refine XS.iload X259.here hx rfl (hb hby at_128) rfl ?_
    show Steps p.tables e below (T259.setTop (mkF m 130 #[.val (.int p1), .val (.int p2), .val (.int p3), .val (.long p4), .second, .val (.long p5), .second, .val (.int cc), .val (.int kk), .val (.ref b243), .val (.ref b247), .val (.int (1 : Int32))] [(.int (1 : Int32))])) _
    refine XS.aload X259.here hx rfl (hb hby at_130) rfl rfl ?_
    exact k
  obtain ⟨cq261, kq261, q261a, q261b, q261c⟩ := isOf hZ rfl P259.1
  obtain ⟨_, _, ⟨T261, L261, k261, n261⟩, -, X261, ⟨Lc261, hQ261, l261, y261, z261⟩, st261⟩ := X259.virtualBack hx (y := (⟨"com/example/bucket/bucket/ingest/PointRun", "isFull", "()Z"⟩ : MethodName)) (z := (⟨"com/example/bucket/bucket/ingest/PointRun", "isFull", "()Z"⟩ : MethodName)) hown (mvT hZ (hw _ (List.mem_of_getElem? (i := 35) rfl))) (mvT hZ (hw _ (List.mem_of_getElem? (i := 36) rfl))) (notFace_of_selects (args := #[]) (mvT hZ (hw _ (List.mem_of_getElem? (i := 38) rfl)))) (mvT hZ (hw _ (List.mem_of_getElem? (i := 38) rfl))) (mvT hZ (hw _ (List.mem_of_getElem? (i := 37) rfl))) (by decide) (backOf (W := 1) (rm4 l Z a0 hw [] b243 sa ta va ea cc (2 : Int32) r2 T259.heap n0 ZZ259 P259 hcc.1 hr2) hZ (hw _ (List.mem_of_getElem? (i := 39) rfl)) (hw _ (List.mem_of_getElem? (i := 3) rfl)) (by decide) (by decide)) q261a q261c (g := (mkF m 132 #[.val (.int p1), .val (.int p2), .val (.int p3), .val (.long p4), .second, .val (.long p5), .second, .val (.int cc), .val (.int kk), .val (.ref b243), .val (.ref b247), .val (.int (1 : Int32))] [(.ref b243), (.int (1 : Int32))])) rfl (by rw [hml]; rfl) (Steps.refl _) (argsL := []) (rest := [(.int (1 : Int32))]) (lenOf pd7 rfl) rfl (by show 2 * 0 + _ ≤ _; exact Nat.le_of_eq rfl) (hb hby at_132) (fun _ _ => ⟨rfl, rfl, (by decide : 6 + 0 ≤ _), (by decide : 21 + 0 ≤ _)⟩)
  dsimp only [Pt.U, Pt.locs, Pt.cells, Pt.slots] at X261 l261 y261 z261 st261 hQ261
  subst l261 y261 z261
  obtain ⟨rfl, N261q, q261⟩ := hQ261
  have N261 := Fr.app N259 N261q
  have C261 : ∀ t, Steps p.tables e below (T261.setTop (mkF m 135 #[.val (.int p1), .val (.int p2), .val (.int p3), .val (.long p4), .second, .val (.long p5), .second, .val (.int cc), .val (.int kk), .val (.ref b243), .val (.ref b247), .val (.int (1 : Int32))] [(.int r2), (.int (1 : Int32))])) t → Steps p.tables e below (s₁.setTop (entryFrame m #[(.int p1), (.int p2), (.int p3), (.long p4), (.long p5)] maxLocals)) t := fun t k => C260 t (st261.trans k)
  have C262 : ∀ t, Steps p.tables e below (T261.setTop (mkF m 138 #[.val (.int p1), .val (.int p2), .val (.int p3), .val (.long p4), .second, .val (.long p5), .second, .val (.int cc), .val (.int kk), .val (.ref b243), .val (.ref b247), .val (.int (1 : Int32))] [(.int (2 : Int32)), (.int cc), (.int r2), (.int (1 : Int32))])) t → Steps p.tables e below (s₁.setTop (entryFrame m #[(.int p1), (.int p2), (.int p3), (.long p4), (.long p5)] maxLocals)) t := by
    intro t k
    refine C261 t ?_
    show Steps p.tables e below (T261.setTop (mkF m 135 #[.val (.int p1), .val (.int p2), .val (.int p3), .val (.long p4), .second, .val (.long p5), .second, .val (.int cc), .val (.int kk), .val (.ref b243), .val (.ref b247), .val (.int (1 : Int32))] [(.int r2), (.int (1 : Int32))])) _
    refine XS.iload X261.here hx rfl (hb hby at_135) rfl ?_
    show Steps p.tables e below (T261.setTop (mkF m 137 #[.val (.int p1), .val (.int p2), .val (.int p3), .val (.long p4), .second, .val (.long p5), .second, .val (.int cc), .val (.int kk), .val (.ref b243), .val (.ref b247), .val (.int (1 : Int32))] [(.int cc), (.int r2), (.int (1 : Int32))])) _
    refine XS.iconst X261.here hx rfl (hb hby at_137) ?_
    exact k
  have CC2 : ∀ t, Steps p.tables e below (T261.setTop (mkF m 154 #[.val (.int p1), .val (.int p2), .val (.int p3), .val (.long p4), .second, .val (.long p5), .second, .val (.int cc), .val (.int kk), .val (.ref b243), .val (.ref b247), .val (.int (1 : Int32))] [(.int (1 : Int32)), (.int (1 : Int32))])) t → Steps p.tables e below (s₁.setTop (entryFrame m #[(.int p1), (.int p2), (.int p3), (.long p4), (.long p5)] maxLocals)) t := by
    rcases hr2 with ⟨hc, er⟩ | ⟨hc, er⟩
    · intro t k
      refine C262 t ?_
      show Steps p.tables e below (T261.setTop (mkF m 138 #[.val (.int p1), .val (.int p2), .val (.int p3), .val (.long p4), .second, .val (.long p5), .second, .val (.int cc), .val (.int kk), .val (.ref b243), .val (.ref b247), .val (.int (1 : Int32))] [(.int (2 : Int32)), (.int cc), (.int r2), (.int (1 : Int32))])) _
      refine XS.icmpNo X261.here hx rfl (hb hby at_138) rfl (XT.ii_ne_f hc.symm) ?_
      show Steps p.tables e below (T261.setTop (mkF m 141 #[.val (.int p1), .val (.int p2), .val (.int p3), .val (.long p4), .second, .val (.long p5), .second, .val (.int cc), .val (.int kk), .val (.ref b243), .val (.ref b247), .val (.int (1 : Int32))] [(.int r2), (.int (1 : Int32))])) _
      refine XS.iconst X261.here hx rfl (hb hby at_141) ?_
      show Steps p.tables e below (T261.setTop (mkF m 142 #[.val (.int p1), .val (.int p2), .val (.int p3), .val (.long p4), .second, .val (.long p5), .second, .val (.int cc), .val (.int kk), .val (.ref b243), .val (.ref b247), .val (.int (1 : Int32))] [(.int (1 : Int32)), (.int r2), (.int (1 : Int32))])) _
      refine XS.goto X261.here hx rfl (pc0 := 142) (pc' := 146) rfl (hb hby at_142) (by decide) (by decide) ?_
      show Steps p.tables e below (T261.setTop (mkF m 146 #[.val (.int p1), .val (.int p2), .val (.int p3), .val (.long p4), .second, .val (.long p5), .second, .val (.int cc), .val (.int kk), .val (.ref b243), .val (.ref b247), .val (.int (1 : Int32))] [(.int (1 : Int32)), (.int r2), (.int (1 : Int32))])) _
      refine XS.icmpNo X261.here hx rfl (hb hby at_146) rfl (XT.ii_ne_f er) ?_
      show Steps p.tables e below (T261.setTop (mkF m 149 #[.val (.int p1), .val (.int p2), .val (.int p3), .val (.long p4), .second, .val (.long p5), .second, .val (.int cc), .val (.int kk), .val (.ref b243), .val (.ref b247), .val (.int (1 : Int32))] [(.int (1 : Int32))])) _
      refine XS.iconst X261.here hx rfl (hb hby at_149) ?_
      show Steps p.tables e below (T261.setTop (mkF m 150 #[.val (.int p1), .val (.int p2), .val (.int p3), .val (.long p4), .second, .val (.long p5), .second, .val (.int cc), .val (.int kk), .val (.ref b243), .val (.ref b247), .val (.int (1 : Int32))] [(.int (1 : Int32)), (.int (1 : Int32))])) _
      refine XS.goto X261.here hx rfl (pc0 := 150) (pc' := 154) rfl (hb hby at_150) (by decide) (by decide) ?_
      exact k
    · intro t k
      refine C262 t ?_
      show Steps p.tables e below (T261.setTop (mkF m 138 #[.val (.int p1), .val (.int p2), .val (.int p3), .val (.long p4), .second, .val (.long p5), .second, .val (.int cc), .val (.int kk), .val (.ref b243), .val (.ref b247), .val (.int (1 : Int32))] [(.int (2 : Int32)), (.int cc), (.int r2), (.int (1 : Int32))])) _
      refine XS.icmpYes X261.here hx rfl (pc0 := 138) (pc' := 145) rfl (hb hby at_138) rfl (XT.ii_ne_t (fun q => hc q.symm)) (by decide) (by decide) ?_
      show Steps p.tables e below (T261.setTop (mkF m 145 #[.val (.int p1), .val (.int p2), .val (.int p3), .val (.long p4), .second, .val (.long p5), .second, .val (.int cc), .val (.int kk), .val (.ref b243), .val (.ref b247), .val (.int (1 : Int32))] [(.int r2), (.int (1 : Int32))])) _
      refine XS.iconst X261.here hx rfl (hb hby at_145) ?_
      show Steps p.tables e below (T261.setTop (mkF m 146 #[.val (.int p1), .val (.int p2), .val (.int p3), .val (.long p4), .second, .val (.long p5), .second, .val (.int cc), .val (.int kk), .val (.ref b243), .val (.ref b247), .val (.int (1 : Int32))] [(.int (0 : Int32)), (.int r2), (.int (1 : Int32))])) _
      refine XS.icmpNo X261.here hx rfl (hb hby at_146) rfl (XT.ii_ne_f er) ?_
      show Steps p.tables e below (T261.setTop (mkF m 149 #[.val (.int p1), .val (.int p2), .val (.int p3), .val (.long p4), .second, .val (.long p5), .second, .val (.int cc), .val (.int kk), .val (.ref b243), .val (.ref b247), .val (.int (1 : Int32))] [(.int (1 : Int32))])) _
      refine XS.iconst X261.here hx rfl (hb hby at_149) ?_
      show Steps p.tables e below (T261.setTop (mkF m 150 #[.val (.int p1), .val (.int p2), .val (.int p3), .val (.long p4), .second, .val (.long p5), .second, .val (.int cc), .val (.int kk), .val (.ref b243), .val (.ref b247), .val (.int (1 : Int32))] [(.int (1 : Int32)), (.int (1 : Int32))])) _
      refine XS.goto X261.here hx rfl (pc0 := 150) (pc' := 154) rfl (hb hby at_150) (by decide) (by decide) ?_
      exact k
  have C263 : ∀ t, Steps p.tables e below (T261.setTop (mkF m 169 #[.val (.int p1), .val (.int p2), .val (.int p3), .val (.long p4), .second, .val (.long p5), .second, .val (.int cc), .val (.int kk), .val (.ref b243), .val (.ref b247), .val (.int (1 : Int32))] [(.long p5), (.ref b247), (.ref b243)])) t → Steps p.tables e below (s₁.setTop (entryFrame m #[(.int p1), (.int p2), (.int p3), (.long p4), (.long p5)] maxLocals)) t := by
    intro t k
    refine CC2 t ?_
    show Steps p.tables e below (T261.setTop (mkF m 154 #[.val (.int p1), .val (.int p2), .val (.int p3), .val (.long p4), .second, .val (.long p5), .second, .val (.int cc), .val (.int kk), .val (.ref b243), .val (.ref b247), .val (.int (1 : Int32))] [(.int (1 : Int32)), (.int (1 : Int32))])) _
    refine XS.iand X261.here hx rfl (hb hby at_154) rfl ?_
    show Steps p.tables e below (T261.setTop (mkF m 155 #[.val (.int p1), .val (.int p2), .val (.int p3), .val (.long p4), .second, .val (.long p5), .second, .val (.int cc), .val (.int kk), .val (.ref b243), .val (.ref b247), .val (.int (1 : Int32))] [(.int (1 : Int32))])) _
    refine XS.istore X261.here hx rfl (hb hby at_155) rfl (l' := #[.val (.int p1), .val (.int p2), .val (.int p3), .val (.long p4), .second, .val (.long p5), .second, .val (.int cc), .val (.int kk), .val (.ref b243), .val (.ref b247), .val (.int (1 : Int32))]) rfl ?_
    show Steps p.tables e below (T261.setTop (mkF m 157 #[.val (.int p1), .val (.int p2), .val (.int p3), .val (.long p4), .second, .val (.long p5), .second, .val (.int cc), .val (.int kk), .val (.ref b243), .val (.ref b247), .val (.int (1 : Int32))] [])) _
    refine XS.iload X261.here hx rfl (hb hby at_157) rfl ?_
    show Steps p.tables e below (T261.setTop (mkF m 159 #[.val (.int p1), .val (.int p2), .val (.int p3), .val (.long p4), .second, .val (.long p5), .second, .val (.int cc), .val (.int kk), .val (.ref b243), .val (.ref b247), .val (.int (1 : Int32))] [(.int kk)])) _
    refine XS.iconst X261.here hx rfl (hb hby at_159) ?_
    show Steps p.tables e below (T261.setTop (mkF m 160 #[.val (.int p1), .val (.int p2), .val (.int p3), .val (.long p4), .second, .val (.long p5), .second, .val (.int cc), .val (.int kk), .val (.ref b243), .val (.ref b247), .val (.int (1 : Int32))] [(.int (3 : Int32)), (.int kk)])) _
    refine XS.icmpNo X261.here hx rfl (hb hby at_160) rfl (XT.ii_lt_f (by rw [hkk]; decide)) ?_
    show Steps p.tables e below (T261.setTop (mkF m 163 #[.val (.int p1), .val (.int p2), .val (.int p3), .val (.long p4), .second, .val (.long p5), .second, .val (.int cc), .val (.int kk), .val (.ref b243), .val (.ref b247), .val (.int (1 : Int32))] [])) _
    refine XS.aload X261.here hx rfl (hb hby at_163) rfl rfl ?_
    show Steps p.tables e below (T261.setTop (mkF m 165 #[.val (.int p1), .val (.int p2), .val (.int p3), .val (.long p4), .second, .val (.long p5), .second, .val (.int cc), .val (.int kk), .val (.ref b243), .val (.ref b247), .val (.int (1 : Int32))] [(.ref b243)])) _
    refine XS.aload X261.here hx rfl (hb hby at_165) rfl rfl ?_
    show Steps p.tables e below (T261.setTop (mkF m 167 #[.val (.int p1), .val (.int p2), .val (.int p3), .val (.long p4), .second, .val (.long p5), .second, .val (.int cc), .val (.int kk), .val (.ref b243), .val (.ref b247), .val (.int (1 : Int32))] [(.ref b247), (.ref b243)])) _
    refine XS.lload X261.here hx rfl (hb hby at_167) rfl ?_
    exact k
  obtain ⟨cq264, kq264, q264a, q264b, q264c⟩ := isOf hZ q261 P259.1
  obtain ⟨_, _, ⟨T264, L264, k264, n264⟩, -, X264, ⟨Lc264, hQ264, l264, y264, z264⟩, st264⟩ := X261.virtualBack hx (y := (⟨"com/example/bucket/bucket/ingest/PointRun", "add", "(Lcom/example/bucket/bucket/lineformat/Point;J)V"⟩ : MethodName)) (z := (⟨"com/example/bucket/bucket/ingest/PointRun", "add", "(Lcom/example/bucket/bucket/lineformat/Point;J)V"⟩ : MethodName)) hown (mvT hZ (hw _ (List.mem_of_getElem? (i := 42) rfl))) (mvT hZ (hw _ (List.mem_of_getElem? (i := 43) rfl))) (notFace_of_selects (args := #[]) (mvT hZ (hw _ (List.mem_of_getElem? (i := 45) rfl)))) (mvT hZ (hw _ (List.mem_of_getElem? (i := 45) rfl))) (mvT hZ (hw _ (List.mem_of_getElem? (i := 44) rfl))) (by decide) (backOf (W := 0) (rm5 l Z a0 hw [] b243 b247 p5 sa ta va ea cc.toNatClampNeg 2 3 p4 (FP.i2d (p3 &&& (255 : Int32))) T259.heap n0 ZZ259 P259 Q259 (own_room hkb (by decide)) (by decide) g1 gs gt gv ge) hZ (hw _ (List.mem_of_getElem? (i := 46) rfl)) (hw _ (List.mem_of_getElem? (i := 3) rfl)) (by decide) (by decide)) q264a q264c (g := (mkF m 169 #[.val (.int p1), .val (.int p2), .val (.int p3), .val (.long p4), .second, .val (.long p5), .second, .val (.int cc), .val (.int kk), .val (.ref b243), .val (.ref b247), .val (.int (1 : Int32))] [(.long p5), (.ref b247), (.ref b243)])) rfl (by rw [hml]; rfl) (Steps.refl _) (argsL := [(.ref b247), (.long p5)]) (rest := []) (lenOf pd9 rfl) rfl (by show 2 * 0 + _ ≤ _; exact Nat.le_of_eq rfl) (hb hby at_169) (fun _ _ => ⟨rfl, q261, (by decide : 6 + 0 ≤ _), (by decide : 21 + 0 ≤ _)⟩)
  dsimp only [Pt.U, Pt.locs, Pt.cells, Pt.slots] at X264 l264 y264 z264 st264 hQ264
  subst l264 y264 z264
  obtain ⟨rfl, N264q, P264, Q264, s264⟩ := hQ264
  have N264 := Fr.app N261 N264q
  have C264 : ∀ t, Steps p.tables e below (T264.setTop (mkF m 172 #[.val (.int p1), .val (.int p2), .val (.int p3), .val (.long p4), .second, .val (.long p5), .second, .val (.int cc), .val (.int kk), .val (.ref b243), .val (.ref b247), .val (.int (1 : Int32))] [])) t → Steps p.tables e below (s₁.setTop (entryFrame m #[(.int p1), (.int p2), (.int p3), (.long p4), (.long p5)] maxLocals)) t := fun t k => C263 t (st264.trans k)
  have ZZ264 : n0 ≤ T264.heap.size := Nat.le_trans ZZ259 s264
  obtain ⟨r3, hr3⟩ : ∃ r : Int32, ((3 : Int32) = cc ∧ r = 1) ∨ (¬ (3 : Int32) = cc ∧ r = 0) := by
    by_cases q : (3 : Int32) = cc
    · exact ⟨1, Or.inl ⟨q, rfl⟩⟩
    · exact ⟨0, Or.inr ⟨q, rfl⟩⟩
  have C265 : ∀ t, Steps p.tables e below (T264.setTop (mkF m 176 #[.val (.int p1), .val (.int p2), .val (.int p3), .val (.long p4), .second, .val (.long p5), .second, .val (.int cc), .val (.int kk), .val (.ref b243), .val (.ref b247), .val (.int (1 : Int32))] [(.ref b243), (.int (1 : Int32))])) t → Steps p.tables e below (s₁.setTop (entryFrame m #[(.int p1), (.int p2), (.int p3), (.long p4), (.long p5)] maxLocals)) t := by
    intro t k
    refine C264 t ?_
    show Steps p.tables e below (T264.setTop (mkF m 172 #[.val (.int p1), .val (.int p2), .val (.int p3), .val (.long p4), .second, .val (.long p5), .second, .val (.int cc), .val (.int kk), .val (.ref b243), .val (.ref b247), .val (.int (1 : Int32))] [])) _
    refine XS.iload X264.here hx rfl (hb hby at_172) rfl ?_
    show Steps p.tables e below (T264.setTop (mkF m 174 #[.val (.int p1), .val (.int p2), .val (.int p3), .val (.long p4), .second, .val (.long p5), .second, .val (.int cc), .val (.int kk), .val (.ref b243), .val (.ref b247), .val (.int (1 : Int32))] [(.int (1 : Int32))])) _
    refine XS.aload X264.here hx rfl (hb hby at_174) rfl rfl ?_
    exact k
  obtain ⟨cq266, kq266, q266a, q266b, q266c⟩ := isOf hZ rfl P264.1
  obtain ⟨_, _, ⟨T266, L266, k266, n266⟩, -, X266, ⟨Lc266, hQ266, l266, y266, z266⟩, st266⟩ := X264.virtualBack hx (y := (⟨"com/example/bucket/bucket/ingest/PointRun", "isFull", "()Z"⟩ : MethodName)) (z := (⟨"com/example/bucket/bucket/ingest/PointRun", "isFull", "()Z"⟩ : MethodName)) hown (mvT hZ (hw _ (List.mem_of_getElem? (i := 35) rfl))) (mvT hZ (hw _ (List.mem_of_getElem? (i := 36) rfl))) (notFace_of_selects (args := #[]) (mvT hZ (hw _ (List.mem_of_getElem? (i := 38) rfl)))) (mvT hZ (hw _ (List.mem_of_getElem? (i := 38) rfl))) (mvT hZ (hw _ (List.mem_of_getElem? (i := 37) rfl))) (by decide) (backOf (W := 1) (rm4 l Z a0 hw [] b243 sa ta va ea cc (3 : Int32) r3 T264.heap n0 ZZ264 P264 hcc.1 hr3) hZ (hw _ (List.mem_of_getElem? (i := 39) rfl)) (hw _ (List.mem_of_getElem? (i := 3) rfl)) (by decide) (by decide)) q266a q266c (g := (mkF m 176 #[.val (.int p1), .val (.int p2), .val (.int p3), .val (.long p4), .second, .val (.long p5), .second, .val (.int cc), .val (.int kk), .val (.ref b243), .val (.ref b247), .val (.int (1 : Int32))] [(.ref b243), (.int (1 : Int32))])) rfl (by rw [hml]; rfl) (Steps.refl _) (argsL := []) (rest := [(.int (1 : Int32))]) (lenOf pd7 rfl) rfl (by show 2 * 0 + _ ≤ _; exact Nat.le_of_eq rfl) (hb hby at_176) (fun _ _ => ⟨rfl, rfl, (by decide : 6 + 0 ≤ _), (by decide : 21 + 0 ≤ _)⟩)
  dsimp only [Pt.U, Pt.locs, Pt.cells, Pt.slots] at X266 l266 y266 z266 st266 hQ266
  subst l266 y266 z266
  obtain ⟨rfl, N266q, q266⟩ := hQ266
  have N266 := Fr.app N264 N266q
  have C266 : ∀ t, Steps p.tables e below (T266.setTop (mkF m 179 #[.val (.int p1), .val (.int p2), .val (.int p3), .val (.long p4), .second, .val (.long p5), .second, .val (.int cc), .val (.int kk), .val (.ref b243), .val (.ref b247), .val (.int (1 : Int32))] [(.int r3), (.int (1 : Int32))])) t → Steps p.tables e below (s₁.setTop (entryFrame m #[(.int p1), (.int p2), (.int p3), (.long p4), (.long p5)] maxLocals)) t := fun t k => C265 t (st266.trans k)
  have C267 : ∀ t, Steps p.tables e below (T266.setTop (mkF m 182 #[.val (.int p1), .val (.int p2), .val (.int p3), .val (.long p4), .second, .val (.long p5), .second, .val (.int cc), .val (.int kk), .val (.ref b243), .val (.ref b247), .val (.int (1 : Int32))] [(.int (3 : Int32)), (.int cc), (.int r3), (.int (1 : Int32))])) t → Steps p.tables e below (s₁.setTop (entryFrame m #[(.int p1), (.int p2), (.int p3), (.long p4), (.long p5)] maxLocals)) t := by
    intro t k
    refine C266 t ?_
    show Steps p.tables e below (T266.setTop (mkF m 179 #[.val (.int p1), .val (.int p2), .val (.int p3), .val (.long p4), .second, .val (.long p5), .second, .val (.int cc), .val (.int kk), .val (.ref b243), .val (.ref b247), .val (.int (1 : Int32))] [(.int r3), (.int (1 : Int32))])) _
    refine XS.iload X266.here hx rfl (hb hby at_179) rfl ?_
    show Steps p.tables e below (T266.setTop (mkF m 181 #[.val (.int p1), .val (.int p2), .val (.int p3), .val (.long p4), .second, .val (.long p5), .second, .val (.int cc), .val (.int kk), .val (.ref b243), .val (.ref b247), .val (.int (1 : Int32))] [(.int cc), (.int r3), (.int (1 : Int32))])) _
    refine XS.iconst X266.here hx rfl (hb hby at_181) ?_
    exact k
  have CC3 : ∀ t, Steps p.tables e below (T266.setTop (mkF m 198 #[.val (.int p1), .val (.int p2), .val (.int p3), .val (.long p4), .second, .val (.long p5), .second, .val (.int cc), .val (.int kk), .val (.ref b243), .val (.ref b247), .val (.int (1 : Int32))] [(.int (1 : Int32)), (.int (1 : Int32))])) t → Steps p.tables e below (s₁.setTop (entryFrame m #[(.int p1), (.int p2), (.int p3), (.long p4), (.long p5)] maxLocals)) t := by
    rcases hr3 with ⟨hc, er⟩ | ⟨hc, er⟩
    · intro t k
      refine C267 t ?_
      show Steps p.tables e below (T266.setTop (mkF m 182 #[.val (.int p1), .val (.int p2), .val (.int p3), .val (.long p4), .second, .val (.long p5), .second, .val (.int cc), .val (.int kk), .val (.ref b243), .val (.ref b247), .val (.int (1 : Int32))] [(.int (3 : Int32)), (.int cc), (.int r3), (.int (1 : Int32))])) _
      refine XS.icmpNo X266.here hx rfl (hb hby at_182) rfl (XT.ii_ne_f hc.symm) ?_
      show Steps p.tables e below (T266.setTop (mkF m 185 #[.val (.int p1), .val (.int p2), .val (.int p3), .val (.long p4), .second, .val (.long p5), .second, .val (.int cc), .val (.int kk), .val (.ref b243), .val (.ref b247), .val (.int (1 : Int32))] [(.int r3), (.int (1 : Int32))])) _
      refine XS.iconst X266.here hx rfl (hb hby at_185) ?_
      show Steps p.tables e below (T266.setTop (mkF m 186 #[.val (.int p1), .val (.int p2), .val (.int p3), .val (.long p4), .second, .val (.long p5), .second, .val (.int cc), .val (.int kk), .val (.ref b243), .val (.ref b247), .val (.int (1 : Int32))] [(.int (1 : Int32)), (.int r3), (.int (1 : Int32))])) _
      refine XS.goto X266.here hx rfl (pc0 := 186) (pc' := 190) rfl (hb hby at_186) (by decide) (by decide) ?_
      show Steps p.tables e below (T266.setTop (mkF m 190 #[.val (.int p1), .val (.int p2), .val (.int p3), .val (.long p4), .second, .val (.long p5), .second, .val (.int cc), .val (.int kk), .val (.ref b243), .val (.ref b247), .val (.int (1 : Int32))] [(.int (1 : Int32)), (.int r3), (.int (1 : Int32))])) _
      refine XS.icmpNo X266.here hx rfl (hb hby at_190) rfl (XT.ii_ne_f er) ?_
      show Steps p.tables e below (T266.setTop (mkF m 193 #[.val (.int p1), .val (.int p2), .val (.int p3), .val (.long p4), .second, .val (.long p5), .second, .val (.int cc), .val (.int kk), .val (.ref b243), .val (.ref b247), .val (.int (1 : Int32))] [(.int (1 : Int32))])) _
      refine XS.iconst X266.here hx rfl (hb hby at_193) ?_
      show Steps p.tables e below (T266.setTop (mkF m 194 #[.val (.int p1), .val (.int p2), .val (.int p3), .val (.long p4), .second, .val (.long p5), .second, .val (.int cc), .val (.int kk), .val (.ref b243), .val (.ref b247), .val (.int (1 : Int32))] [(.int (1 : Int32)), (.int (1 : Int32))])) _
      refine XS.goto X266.here hx rfl (pc0 := 194) (pc' := 198) rfl (hb hby at_194) (by decide) (by decide) ?_
      exact k
    · intro t k
      refine C267 t ?_
      show Steps p.tables e below (T266.setTop (mkF m 182 #[.val (.int p1), .val (.int p2), .val (.int p3), .val (.long p4), .second, .val (.long p5), .second, .val (.int cc), .val (.int kk), .val (.ref b243), .val (.ref b247), .val (.int (1 : Int32))] [(.int (3 : Int32)), (.int cc), (.int r3), (.int (1 : Int32))])) _
      refine XS.icmpYes X266.here hx rfl (pc0 := 182) (pc' := 189) rfl (hb hby at_182) rfl (XT.ii_ne_t (fun q => hc q.symm)) (by decide) (by decide) ?_
      show Steps p.tables e below (T266.setTop (mkF m 189 #[.val (.int p1), .val (.int p2), .val (.int p3), .val (.long p4), .second, .val (.long p5), .second, .val (.int cc), .val (.int kk), .val (.ref b243), .val (.ref b247), .val (.int (1 : Int32))] [(.int r3), (.int (1 : Int32))])) _
      refine XS.iconst X266.here hx rfl (hb hby at_189) ?_
      show Steps p.tables e below (T266.setTop (mkF m 190 #[.val (.int p1), .val (.int p2), .val (.int p3), .val (.long p4), .second, .val (.long p5), .second, .val (.int cc), .val (.int kk), .val (.ref b243), .val (.ref b247), .val (.int (1 : Int32))] [(.int (0 : Int32)), (.int r3), (.int (1 : Int32))])) _
      refine XS.icmpNo X266.here hx rfl (hb hby at_190) rfl (XT.ii_ne_f er) ?_
      show Steps p.tables e below (T266.setTop (mkF m 193 #[.val (.int p1), .val (.int p2), .val (.int p3), .val (.long p4), .second, .val (.long p5), .second, .val (.int cc), .val (.int kk), .val (.ref b243), .val (.ref b247), .val (.int (1 : Int32))] [(.int (1 : Int32))])) _
      refine XS.iconst X266.here hx rfl (hb hby at_193) ?_
      show Steps p.tables e below (T266.setTop (mkF m 194 #[.val (.int p1), .val (.int p2), .val (.int p3), .val (.long p4), .second, .val (.long p5), .second, .val (.int cc), .val (.int kk), .val (.ref b243), .val (.ref b247), .val (.int (1 : Int32))] [(.int (1 : Int32)), (.int (1 : Int32))])) _
      refine XS.goto X266.here hx rfl (pc0 := 194) (pc' := 198) rfl (hb hby at_194) (by decide) (by decide) ?_
      exact k
  have C268 : ∀ t, Steps p.tables e below (T266.setTop (mkF m 211 #[.val (.int p1), .val (.int p2), .val (.int p3), .val (.long p4), .second, .val (.long p5), .second, .val (.int cc), .val (.int kk), .val (.ref b243), .val (.ref b247), .val (.int (1 : Int32))] [(.ref b243)])) t → Steps p.tables e below (s₁.setTop (entryFrame m #[(.int p1), (.int p2), (.int p3), (.long p4), (.long p5)] maxLocals)) t := by
    intro t k
    refine CC3 t ?_
    show Steps p.tables e below (T266.setTop (mkF m 198 #[.val (.int p1), .val (.int p2), .val (.int p3), .val (.long p4), .second, .val (.long p5), .second, .val (.int cc), .val (.int kk), .val (.ref b243), .val (.ref b247), .val (.int (1 : Int32))] [(.int (1 : Int32)), (.int (1 : Int32))])) _
    refine XS.iand X266.here hx rfl (hb hby at_198) rfl ?_
    show Steps p.tables e below (T266.setTop (mkF m 199 #[.val (.int p1), .val (.int p2), .val (.int p3), .val (.long p4), .second, .val (.long p5), .second, .val (.int cc), .val (.int kk), .val (.ref b243), .val (.ref b247), .val (.int (1 : Int32))] [(.int (1 : Int32))])) _
    refine XS.istore X266.here hx rfl (hb hby at_199) rfl (l' := #[.val (.int p1), .val (.int p2), .val (.int p3), .val (.long p4), .second, .val (.long p5), .second, .val (.int cc), .val (.int kk), .val (.ref b243), .val (.ref b247), .val (.int (1 : Int32))]) rfl ?_
    show Steps p.tables e below (T266.setTop (mkF m 201 #[.val (.int p1), .val (.int p2), .val (.int p3), .val (.long p4), .second, .val (.long p5), .second, .val (.int cc), .val (.int kk), .val (.ref b243), .val (.ref b247), .val (.int (1 : Int32))] [])) _
    refine XS.iloadN X266.here hx rfl (hb hby at_201) rfl ?_
    show Steps p.tables e below (T266.setTop (mkF m 202 #[.val (.int p1), .val (.int p2), .val (.int p3), .val (.long p4), .second, .val (.long p5), .second, .val (.int cc), .val (.int kk), .val (.ref b243), .val (.ref b247), .val (.int (1 : Int32))] [(.int p3)])) _
    refine XS.sipush X266.here hx rfl (hb hby at_202) ?_
    show Steps p.tables e below (T266.setTop (mkF m 205 #[.val (.int p1), .val (.int p2), .val (.int p3), .val (.long p4), .second, .val (.long p5), .second, .val (.int cc), .val (.int kk), .val (.ref b243), .val (.ref b247), .val (.int (1 : Int32))] [(.int (256 : Int32)), (.int p3)])) _
    refine XS.iand X266.here hx rfl (hb hby at_205) rfl ?_
    show Steps p.tables e below (T266.setTop (mkF m 206 #[.val (.int p1), .val (.int p2), .val (.int p3), .val (.long p4), .second, .val (.long p5), .second, .val (.int cc), .val (.int kk), .val (.ref b243), .val (.ref b247), .val (.int (1 : Int32))] [(.int (p3 &&& (256 : Int32)))])) _
    refine XS.ifNo X266.here hx rfl (hb hby at_206) rfl (XT.i0_eq_f hf) ?_
    show Steps p.tables e below (T266.setTop (mkF m 209 #[.val (.int p1), .val (.int p2), .val (.int p3), .val (.long p4), .second, .val (.long p5), .second, .val (.int cc), .val (.int kk), .val (.ref b243), .val (.ref b247), .val (.int (1 : Int32))] [])) _
    refine XS.aload X266.here hx rfl (hb hby at_209) rfl rfl ?_
    exact k
  obtain ⟨cq269, kq269, q269a, q269b, q269c⟩ := isOf hZ q266 P264.1
  obtain ⟨_, _, ⟨T269, L269, k269, n269⟩, -, X269, ⟨Lc269, hQ269, l269, y269, z269⟩, st269⟩ := X266.virtualBack hx (y := (⟨"com/example/bucket/bucket/ingest/PointRun", "clear", "()V"⟩ : MethodName)) (z := (⟨"com/example/bucket/bucket/ingest/PointRun", "clear", "()V"⟩ : MethodName)) hown (mvT hZ (hw _ (List.mem_of_getElem? (i := 62) rfl))) (mvT hZ (hw _ (List.mem_of_getElem? (i := 63) rfl))) (notFace_of_selects (args := #[]) (mvT hZ (hw _ (List.mem_of_getElem? (i := 65) rfl)))) (mvT hZ (hw _ (List.mem_of_getElem? (i := 65) rfl))) (mvT hZ (hw _ (List.mem_of_getElem? (i := 64) rfl))) (by decide) (backOf (W := 0) (rm9 l Z a0 hw [] b243 sa ta va ea cc 3 T264.heap n0 ZZ264 P264 hcc.1 (by decide) (own_nlt hkb) g1 gs) hZ (hw _ (List.mem_of_getElem? (i := 66) rfl)) (hw _ (List.mem_of_getElem? (i := 3) rfl)) (by decide) (by decide)) q269a q269c (g := (mkF m 211 #[.val (.int p1), .val (.int p2), .val (.int p3), .val (.long p4), .second, .val (.long p5), .second, .val (.int cc), .val (.int kk), .val (.ref b243), .val (.ref b247), .val (.int (1 : Int32))] [(.ref b243)])) rfl (by rw [hml]; rfl) (Steps.refl _) (argsL := []) (rest := []) (lenOf pd8 rfl) rfl (by show 2 * 0 + _ ≤ _; exact Nat.le_of_eq rfl) (hb hby at_211) (fun _ _ => ⟨rfl, q266, (by decide : 6 + 0 ≤ _), (by decide : 21 + 0 ≤ _)⟩)
  dsimp only [Pt.U, Pt.locs, Pt.cells, Pt.slots] at X269 l269 y269 z269 st269 hQ269
  subst l269 y269 z269
  obtain ⟨rfl, N269q, P269, s269⟩ := hQ269
  have N269 := Fr.app N266 N269q
  have C269 : ∀ t, Steps p.tables e below (T269.setTop (mkF m 214 #[.val (.int p1), .val (.int p2), .val (.int p3), .val (.long p4), .second, .val (.long p5), .second, .val (.int cc), .val (.int kk), .val (.ref b243), .val (.ref b247), .val (.int (1 : Int32))] [])) t → Steps p.tables e below (s₁.setTop (entryFrame m #[(.int p1), (.int p2), (.int p3), (.long p4), (.long p5)] maxLocals)) t := fun t k => C268 t (st269.trans k)
  have ZZ269 : n0 ≤ T269.heap.size := Nat.le_trans ZZ264 s269
  obtain ⟨r9, hr9⟩ : ∃ r : Int32, ((0 : Int32) = cc ∧ r = 1) ∨ (¬ (0 : Int32) = cc ∧ r = 0) := by
    by_cases q : (0 : Int32) = cc
    · exact ⟨1, Or.inl ⟨q, rfl⟩⟩
    · exact ⟨0, Or.inr ⟨q, rfl⟩⟩
  have C270 : ∀ t, Steps p.tables e below (T269.setTop (mkF m 218 #[.val (.int p1), .val (.int p2), .val (.int p3), .val (.long p4), .second, .val (.long p5), .second, .val (.int cc), .val (.int kk), .val (.ref b243), .val (.ref b247), .val (.int (1 : Int32))] [(.ref b243), (.int (1 : Int32))])) t → Steps p.tables e below (s₁.setTop (entryFrame m #[(.int p1), (.int p2), (.int p3), (.long p4), (.long p5)] maxLocals)) t := by
    intro t k
    refine C269 t ?_
    show Steps p.tables e below (T269.setTop (mkF m 214 #[.val (.int p1), .val (.int p2), .val (.int p3), .val (.long p4), .second, .val (.long p5), .second, .val (.int cc), .val (.int kk), .val (.ref b243), .val (.ref b247), .val (.int (1 : Int32))] [])) _
    refine XS.iload X269.here hx rfl (hb hby at_214) rfl ?_
    show Steps p.tables e below (T269.setTop (mkF m 216 #[.val (.int p1), .val (.int p2), .val (.int p3), .val (.long p4), .second, .val (.long p5), .second, .val (.int cc), .val (.int kk), .val (.ref b243), .val (.ref b247), .val (.int (1 : Int32))] [(.int (1 : Int32))])) _
    refine XS.aload X269.here hx rfl (hb hby at_216) rfl rfl ?_
    exact k
  obtain ⟨cq271, kq271, q271a, q271b, q271c⟩ := isOf hZ rfl P269.1
  obtain ⟨_, _, ⟨T271, L271, k271, n271⟩, -, X271, ⟨Lc271, hQ271, l271, y271, z271⟩, st271⟩ := X269.virtualBack hx (y := (⟨"com/example/bucket/bucket/ingest/PointRun", "isFull", "()Z"⟩ : MethodName)) (z := (⟨"com/example/bucket/bucket/ingest/PointRun", "isFull", "()Z"⟩ : MethodName)) hown (mvT hZ (hw _ (List.mem_of_getElem? (i := 35) rfl))) (mvT hZ (hw _ (List.mem_of_getElem? (i := 36) rfl))) (notFace_of_selects (args := #[]) (mvT hZ (hw _ (List.mem_of_getElem? (i := 38) rfl)))) (mvT hZ (hw _ (List.mem_of_getElem? (i := 38) rfl))) (mvT hZ (hw _ (List.mem_of_getElem? (i := 37) rfl))) (by decide) (backOf (W := 1) (rm4 l Z a0 hw [] b243 sa ta va ea cc (0 : Int32) r9 T269.heap n0 ZZ269 P269 hcc.1 hr9) hZ (hw _ (List.mem_of_getElem? (i := 39) rfl)) (hw _ (List.mem_of_getElem? (i := 3) rfl)) (by decide) (by decide)) q271a q271c (g := (mkF m 218 #[.val (.int p1), .val (.int p2), .val (.int p3), .val (.long p4), .second, .val (.long p5), .second, .val (.int cc), .val (.int kk), .val (.ref b243), .val (.ref b247), .val (.int (1 : Int32))] [(.ref b243), (.int (1 : Int32))])) rfl (by rw [hml]; rfl) (Steps.refl _) (argsL := []) (rest := [(.int (1 : Int32))]) (lenOf pd7 rfl) rfl (by show 2 * 0 + _ ≤ _; exact Nat.le_of_eq rfl) (hb hby at_218) (fun _ _ => ⟨rfl, rfl, (by decide : 6 + 0 ≤ _), (by decide : 21 + 0 ≤ _)⟩)
  dsimp only [Pt.U, Pt.locs, Pt.cells, Pt.slots] at X271 l271 y271 z271 st271 hQ271
  subst l271 y271 z271
  obtain ⟨rfl, N271q, q271⟩ := hQ271
  have N271 := Fr.app N269 N271q
  have C271 : ∀ t, Steps p.tables e below (T271.setTop (mkF m 221 #[.val (.int p1), .val (.int p2), .val (.int p3), .val (.long p4), .second, .val (.long p5), .second, .val (.int cc), .val (.int kk), .val (.ref b243), .val (.ref b247), .val (.int (1 : Int32))] [(.int r9), (.int (1 : Int32))])) t → Steps p.tables e below (s₁.setTop (entryFrame m #[(.int p1), (.int p2), (.int p3), (.long p4), (.long p5)] maxLocals)) t := fun t k => C270 t (st271.trans k)
  have C272 : ∀ t, Steps p.tables e below (T271.setTop (mkF m 223 #[.val (.int p1), .val (.int p2), .val (.int p3), .val (.long p4), .second, .val (.long p5), .second, .val (.int cc), .val (.int kk), .val (.ref b243), .val (.ref b247), .val (.int (1 : Int32))] [(.int cc), (.int r9), (.int (1 : Int32))])) t → Steps p.tables e below (s₁.setTop (entryFrame m #[(.int p1), (.int p2), (.int p3), (.long p4), (.long p5)] maxLocals)) t := by
    intro t k
    refine C271 t ?_
    show Steps p.tables e below (T271.setTop (mkF m 221 #[.val (.int p1), .val (.int p2), .val (.int p3), .val (.long p4), .second, .val (.long p5), .second, .val (.int cc), .val (.int kk), .val (.ref b243), .val (.ref b247), .val (.int (1 : Int32))] [(.int r9), (.int (1 : Int32))])) _
    refine XS.iload X271.here hx rfl (hb hby at_221) rfl ?_
    exact k
  have CC9 : ∀ t, Steps p.tables e below (T271.setTop (mkF m 239 #[.val (.int p1), .val (.int p2), .val (.int p3), .val (.long p4), .second, .val (.long p5), .second, .val (.int cc), .val (.int kk), .val (.ref b243), .val (.ref b247), .val (.int (1 : Int32))] [(.int (1 : Int32)), (.int (1 : Int32))])) t → Steps p.tables e below (s₁.setTop (entryFrame m #[(.int p1), (.int p2), (.int p3), (.long p4), (.long p5)] maxLocals)) t := by
    rcases hr9 with ⟨hc, er⟩ | ⟨hc, er⟩
    · intro t k
      refine C272 t ?_
      show Steps p.tables e below (T271.setTop (mkF m 223 #[.val (.int p1), .val (.int p2), .val (.int p3), .val (.long p4), .second, .val (.long p5), .second, .val (.int cc), .val (.int kk), .val (.ref b243), .val (.ref b247), .val (.int (1 : Int32))] [(.int cc), (.int r9), (.int (1 : Int32))])) _
      refine XS.ifNo X271.here hx rfl (hb hby at_223) rfl (XT.i0_ne_f (by rw [← hc])) ?_
      show Steps p.tables e below (T271.setTop (mkF m 226 #[.val (.int p1), .val (.int p2), .val (.int p3), .val (.long p4), .second, .val (.long p5), .second, .val (.int cc), .val (.int kk), .val (.ref b243), .val (.ref b247), .val (.int (1 : Int32))] [(.int r9), (.int (1 : Int32))])) _
      refine XS.iconst X271.here hx rfl (hb hby at_226) ?_
      show Steps p.tables e below (T271.setTop (mkF m 227 #[.val (.int p1), .val (.int p2), .val (.int p3), .val (.long p4), .second, .val (.long p5), .second, .val (.int cc), .val (.int kk), .val (.ref b243), .val (.ref b247), .val (.int (1 : Int32))] [(.int (1 : Int32)), (.int r9), (.int (1 : Int32))])) _
      refine XS.goto X271.here hx rfl (pc0 := 227) (pc' := 231) rfl (hb hby at_227) (by decide) (by decide) ?_
      show Steps p.tables e below (T271.setTop (mkF m 231 #[.val (.int p1), .val (.int p2), .val (.int p3), .val (.long p4), .second, .val (.long p5), .second, .val (.int cc), .val (.int kk), .val (.ref b243), .val (.ref b247), .val (.int (1 : Int32))] [(.int (1 : Int32)), (.int r9), (.int (1 : Int32))])) _
      refine XS.icmpNo X271.here hx rfl (hb hby at_231) rfl (XT.ii_ne_f er) ?_
      show Steps p.tables e below (T271.setTop (mkF m 234 #[.val (.int p1), .val (.int p2), .val (.int p3), .val (.long p4), .second, .val (.long p5), .second, .val (.int cc), .val (.int kk), .val (.ref b243), .val (.ref b247), .val (.int (1 : Int32))] [(.int (1 : Int32))])) _
      refine XS.iconst X271.here hx rfl (hb hby at_234) ?_
      show Steps p.tables e below (T271.setTop (mkF m 235 #[.val (.int p1), .val (.int p2), .val (.int p3), .val (.long p4), .second, .val (.long p5), .second, .val (.int cc), .val (.int kk), .val (.ref b243), .val (.ref b247), .val (.int (1 : Int32))] [(.int (1 : Int32)), (.int (1 : Int32))])) _
      refine XS.goto X271.here hx rfl (pc0 := 235) (pc' := 239) rfl (hb hby at_235) (by decide) (by decide) ?_
      exact k
    · intro t k
      refine C272 t ?_
      show Steps p.tables e below (T271.setTop (mkF m 223 #[.val (.int p1), .val (.int p2), .val (.int p3), .val (.long p4), .second, .val (.long p5), .second, .val (.int cc), .val (.int kk), .val (.ref b243), .val (.ref b247), .val (.int (1 : Int32))] [(.int cc), (.int r9), (.int (1 : Int32))])) _
      refine XS.ifYes X271.here hx rfl (pc0 := 223) (pc' := 230) rfl (hb hby at_223) rfl (XT.i0_ne_t (fun q => hc q.symm)) (by decide) (by decide) ?_
      show Steps p.tables e below (T271.setTop (mkF m 230 #[.val (.int p1), .val (.int p2), .val (.int p3), .val (.long p4), .second, .val (.long p5), .second, .val (.int cc), .val (.int kk), .val (.ref b243), .val (.ref b247), .val (.int (1 : Int32))] [(.int r9), (.int (1 : Int32))])) _
      refine XS.iconst X271.here hx rfl (hb hby at_230) ?_
      show Steps p.tables e below (T271.setTop (mkF m 231 #[.val (.int p1), .val (.int p2), .val (.int p3), .val (.long p4), .second, .val (.long p5), .second, .val (.int cc), .val (.int kk), .val (.ref b243), .val (.ref b247), .val (.int (1 : Int32))] [(.int (0 : Int32)), (.int r9), (.int (1 : Int32))])) _
      refine XS.icmpNo X271.here hx rfl (hb hby at_231) rfl (XT.ii_ne_f er) ?_
      show Steps p.tables e below (T271.setTop (mkF m 234 #[.val (.int p1), .val (.int p2), .val (.int p3), .val (.long p4), .second, .val (.long p5), .second, .val (.int cc), .val (.int kk), .val (.ref b243), .val (.ref b247), .val (.int (1 : Int32))] [(.int (1 : Int32))])) _
      refine XS.iconst X271.here hx rfl (hb hby at_234) ?_
      show Steps p.tables e below (T271.setTop (mkF m 235 #[.val (.int p1), .val (.int p2), .val (.int p3), .val (.long p4), .second, .val (.long p5), .second, .val (.int cc), .val (.int kk), .val (.ref b243), .val (.ref b247), .val (.int (1 : Int32))] [(.int (1 : Int32)), (.int (1 : Int32))])) _
      refine XS.goto X271.here hx rfl (pc0 := 235) (pc' := 239) rfl (hb hby at_235) (by decide) (by decide) ?_
      exact k
  have C273 : ∀ t, Steps p.tables e below (T271.setTop (mkF m 244 #[.val (.int p1), .val (.int p2), .val (.int p3), .val (.long p4), .second, .val (.long p5), .second, .val (.int cc), .val (.int kk), .val (.ref b243), .val (.ref b247), .val (.int (1 : Int32))] [(.int (1 : Int32))])) t → Steps p.tables e below (s₁.setTop (entryFrame m #[(.int p1), (.int p2), (.int p3), (.long p4), (.long p5)] maxLocals)) t := by
    intro t k
    refine CC9 t ?_
    show Steps p.tables e below (T271.setTop (mkF m 239 #[.val (.int p1), .val (.int p2), .val (.int p3), .val (.long p4), .second, .val (.long p5), .second, .val (.int cc), .val (.int kk), .val (.ref b243), .val (.ref b247), .val (.int (1 : Int32))] [(.int (1 : Int32)), (.int (1 : Int32))])) _
    refine XS.iand X271.here hx rfl (hb hby at_239) rfl ?_
    show Steps p.tables e below (T271.setTop (mkF m 240 #[.val (.int p1), .val (.int p2), .val (.int p3), .val (.long p4), .second, .val (.long p5), .second, .val (.int cc), .val (.int kk), .val (.ref b243), .val (.ref b247), .val (.int (1 : Int32))] [(.int (1 : Int32))])) _
    refine XS.istore X271.here hx rfl (hb hby at_240) rfl (l' := #[.val (.int p1), .val (.int p2), .val (.int p3), .val (.long p4), .second, .val (.long p5), .second, .val (.int cc), .val (.int kk), .val (.ref b243), .val (.ref b247), .val (.int (1 : Int32))]) rfl ?_
    show Steps p.tables e below (T271.setTop (mkF m 242 #[.val (.int p1), .val (.int p2), .val (.int p3), .val (.long p4), .second, .val (.long p5), .second, .val (.int cc), .val (.int kk), .val (.ref b243), .val (.ref b247), .val (.int (1 : Int32))] [])) _
    refine XS.iload X271.here hx rfl (hb hby at_242) rfl ?_
    exact k
  obtain ⟨fs, hr, hrun, hended, hW, hsame⟩ := X271.leave (v := some (.int (1 : Int32))) (fun h => by rw [Bd.returns] at h; cases h)
  refine ⟨_, _, C273 _ ?_, hrun, hended, _, _, rfl, ?_, ⟨_, rfl⟩, hW, hsame.mono (by decide) (by decide)⟩
  · show Steps p.tables e below (T271.setTop (mkF m 244 #[.val (.int p1), .val (.int p2), .val (.int p3), .val (.long p4), .second, .val (.long p5), .second, .val (.int cc), .val (.int kk), .val (.ref b243), .val (.ref b247), .val (.int (1 : Int32))] [(.int (1 : Int32))])) _
    exact retN X271 hx (t := .boolean) Bd.returns (by simp) (hb hby at_244) hr
  · show Q0 Z p1 p2 p3 p4 p5 h0 n0 _ T271.heap _
    rw [q271]
    exact ⟨rfl, N271⟩
theorem own_four {k : Int32} (h : 0 ≤ k.toInt ∧ k.toInt ≤ 3) : k = 0 ∨ k = 1 ∨ k = 2 ∨ k = 3 := by
  have e0 : (0 : Int32).toInt = 0 := rfl
  have e1 : (1 : Int32).toInt = 1 := rfl
  have e2 : (2 : Int32).toInt = 2 := rfl
  have e3 : (3 : Int32).toInt = 3 := rfl
  simp only [← Int32.toInt_inj, e0, e1, e2, e3]
  omega
theorem rm0 (l : Launch) (Z : State) (a0 : Array Value) (hw : ∀ d ∈ tables_1, d.before a0 Z = true) (ws : List Jvm.Cond) (p1 p2 p3 : Int32) (p4 p5 : Int64) (h0 : Heap) (n0 : Nat) (Z0 : n0 ≤ h0.size) :
    MetFree l x (head1 (Jvm.Cond.code x code maxLocals ret :: ws) room_1) (fun a U => a = #[(.int p1), (.int p2), (.int p3), (.long p4), (.long p5)] ∧ Z.Warmed39 U.vm ∧ U.heap = h0) (fun _ _ _ _ _ => True) (fun _ U o U' => ∃ v L, o = .returned v ∧ Q0 Z p1 p2 p3 p4 p5 h0 n0 v U'.heap L ∧ FrameEnd U o U' L room_1.cells room_1.slots) := by
  have hk := own_krng (own_cap p1) p2
  have hc := (own_cap p1).2.1
  rcases own_four ⟨hk.1, by omega⟩ with h | h | h | h
  all_goals by_cases hf : (p3 &&& (256 : Int32)) = 0
  · exact rm0_00 l Z a0 hw ws p1 p2 p3 p4 p5 h0 n0 Z0 h hf
  · exact rm0_01 l Z a0 hw ws p1 p2 p3 p4 p5 h0 n0 Z0 h hf
  · exact rm0_10 l Z a0 hw ws p1 p2 p3 p4 p5 h0 n0 Z0 h hf
  · exact rm0_11 l Z a0 hw ws p1 p2 p3 p4 p5 h0 n0 Z0 h hf
  · exact rm0_20 l Z a0 hw ws p1 p2 p3 p4 p5 h0 n0 Z0 h hf
  · exact rm0_21 l Z a0 hw ws p1 p2 p3 p4 p5 h0 n0 Z0 h hf
  · exact rm0_30 l Z a0 hw ws p1 p2 p3 p4 p5 h0 n0 Z0 h hf
  · exact rm0_31 l Z a0 hw ws p1 p2 p3 p4 p5 h0 n0 Z0 h hf
set_option maxRecDepth 65536 in
set_option maxHeartbeats 40000000 in
theorem comes_1 {Post : Tables → Env → Array Value → State → Outcome → State → Prop} (hpost : ∀ tb e args s v u, (limb_1_1.after args s (.returned v) u = true ∧ limb_1_2.after args s (.returned v) u = true ∧ True) → FrameEnd s (.returned v) u (Jvm.fieldLocs frame_1_writes args s ++ Jvm.arrayLocs frame_1_arrays args s ++ Jvm.staticLocs frame_1_statics s) 24 128 → Post tb e args s (.returned v) u) :
    ArmFor flags0 classFile x code maxLocals ret World_1 tables_1 room_1 Calls_1 rest_1 Pre_1 Post := by
  intro l hfl _ _ p e ha hc hk s m args below hf hA hF happ hP
  obtain ⟨hcalls, hrest, hpre⟩ := hP
  obtain ⟨-, -, -, hnamed, -, -, -, hat⟩ := (Spec.applies_iff hf).mp happ
  obtain ⟨hg, hn⟩ := and_e (Cond.before_iff.mp (show (Jvm.Cond.and given_1 narrow_1).before args s = true from hpre))
  obtain ⟨hcount, r0⟩ := and_e hg
  obtain ⟨q0, r1⟩ := and_e r0
  obtain ⟨q1, r2⟩ := and_e r1
  obtain ⟨q2, r3⟩ := and_e r2
  obtain ⟨q3, r4⟩ := and_e r3
  have q4 := r4
  obtain ⟨w0, w1, w2, w3, w4, rfl⟩ : ∃ w0 w1 w2 w3 w4 : Value, args = #[w0, w1, w2, w3, w4] := by
    have hs : args.size = 5 := by simpa [Cond.value, given_1] using hcount
    obtain ⟨L⟩ := args
    match L, hs with
    | [w0, w1, w2, w3, w4], _ => exact ⟨w0, w1, w2, w3, w4, rfl⟩
  have hw := fun d (hd : d ∈ tables_1) => atoms_spec (ws := Jvm.Cond.code x code maxLocals ret :: tables_1) hat d (List.mem_cons_of_mem _ hd)
  obtain ⟨i0, ei0⟩ := is_v q0
  obtain rfl : w0 = (.int i0) := Option.some.inj ei0
  obtain ⟨i1, ei1⟩ := is_v q1
  obtain rfl : w1 = (.int i1) := Option.some.inj ei1
  obtain ⟨i2, ei2⟩ := is_v q2
  obtain rfl : w2 = (.int i2) := Option.some.inj ei2
  obtain ⟨i3, ei3⟩ := isL_v q3
  obtain rfl : w3 = (.long i3) := Option.some.inj ei3
  obtain ⟨i4, ei4⟩ := isL_v q4
  obtain rfl : w4 = (.long i4) := Option.some.inj ei4
  obtain ⟨n, o, h1, h2, h3, _, L, rfl, ⟨rfl, N⟩, hq⟩ := rm0 l s _ hw tables_1 i0 i1 i2 i3 i4 s.heap s.heap.size (Nat.le_refl _)  p e ha hc hk s m _ below hf ((Spec.applies_iff_loose hf).mp happ).1 ⟨rfl, State.Warmed39.refl s, rfl⟩ trivial
  refine ⟨n, _, h1, h2, h3, hpost _ _ _ _ _ _ ⟨Cond.after_iff.mpr rfl, Cond.after_iff.mpr (eq_i res_at (Term.int_eval (1)) rfl), trivial⟩ ⟨hq.1, hq.2.1, (hq.2.2.sift fun y hy => Or.inr (N y hy)).mono (by decide) (by decide)⟩⟩
theorem main_1_1 : Claimed_1_1 := comes_1 fun _ _ _ _ _ _ h hF => ⟨h.1, hF⟩
theorem main_1_2 : Claimed_1_2 := comes_1 fun _ _ _ _ _ _ h hF => ⟨h.2.1, hF⟩
end Jvm.Pilot.@@N@@
namespace Jvm.Pilot.@@N@@
open Jvm Jvm.ClassFile Sem Op Lib Jvm.Free Jvm.Stand Jvm.Pilot.@@N@@.Jvm.D
/-! MADE BY PROGRAM (witnessworld.py) out of the Statement's table words and the real class files: 17 classes; the members and pool entries that the words name. The judged class is class 1, her method 1. -/
namespace start1
open Jvm.ClassFile
def u (s : String) : CpInfo := .utf8 (stringToUtf16 s)
/-- a pool by its gaps: so many unusable entries, then the entry; so many at the end -/
def gap : Nat → List CpInfo → List CpInfo
  | 0, r => r
  | n + 1, r => .unusable :: gap n r
def poolList (es : List (Nat × CpInfo)) (last : Nat) : List CpInfo := es.foldr (fun e r => gap e.1 (e.2 :: r)) (gap last [])
def pool (es : List (Nat × CpInfo)) (last : Nat) : Array CpInfo := ⟨poolList es last⟩
def fileOf (pool : Array CpInfo) (this : Nat) (attrs : Array Attribute := #[]) (ms : Array MethodInfo := #[]) (fl : Nat := 33) (sup : Nat := 0) (ifs : Array Nat := #[]) (fds : Array FieldInfo := #[]) : ClassFile where
  minorVersion := 0
  majorVersion := 65
  constantPool := pool
  accessFlags := fl
  thisClass := this
  superClass := sup
  interfaces := ifs
  fields := fds
  methods := ms
  attributes := attrs
def plain (name : String) (sup : Option ClassId) : Class where
  name := name
  kind := .ordinary
  loader := none
  accessFlags := 33
  super := sup
  interfaces := #[]
  cf := none
  fields := #[]
  methods := #[]
  instanceTypes := #[]
  staticTypes := #[]
  resolved := #[]
  callSites := []
  init := .initialized
  statics := none
  mirror := none

def pool0 : Array CpInfo := pool [(5, u "<init>"), (0, u "()V"), (1, .class_ 10), (1, u "java/lang/Object")] 113

def k0c0 : Code := { maxStack := 0, maxLocals := 1, code := object_method_1_code, exceptionTable := #[], attributes := #[] }
def k0m0 : Method := { name := "<init>", desc := "()V", sig := { parameters := [], returnType := none }, accessFlags := 1, code := some k0c0 }
/-- java/lang/Object -/
def k0 : Class := { plain "java/lang/Object" none with
  accessFlags := 33
  interfaces := #[]
  cf := some (fileOf pool0 8 #[] #[{ accessFlags := 1, nameIndex := 5, descriptorIndex := 6, attributes := #[] }] 33 0 #[] #[])
  fields := #[]
  methods := #[k0m0]
  instanceTypes := #[]
  staticTypes := #[]
  resolved := Array.replicate 124 none
  statics := none }

def pool1 : Array CpInfo := pool [(2, .class_ 4), (1, u "java/lang/Object"), (0, u "<init>"), (0, u "()V"), (0, .integer 2147483647), (0, .class_ 9), (0, u "com/example/bucket/bucket/ingest/PointRun"), (0, .methodref 8 11), (0, .nameAndType 5 12), (0, u "(I)V"), (0, .class_ 14), (0, u "com/example/bucket/bucket/lineformat/Point"), (0, .methodref 13 16), (0, .nameAndType 5 17), (0, u "(Lcom/example/bucket/bucket/lineformat/Series;JD)V"), (0, .methodref 8 19), (0, .nameAndType 20 21), (0, u "isFull"), (0, u "()Z"), (0, .methodref 8 23), (0, .nameAndType 24 25), (0, u "add"), (0, u "(Lcom/example/bucket/bucket/lineformat/Point;J)V"), (0, .methodref 8 27), (0, .nameAndType 28 6), (0, u "clear"), (0, .class_ 30), (0, u "com/example/bucket/bucket/ingest/PointRunIsFullPinLaw"), (2, u "law"), (0, u "(IIIJJ)Z")] 3

def k1m0 : Method := { name := "<init>", desc := "()V", sig := { parameters := [], returnType := none }, accessFlags := 1, code := none }
def k1c1 : Code := { maxStack := 7, maxLocals := 12, code := code, exceptionTable := #[], attributes := #[] }
def k1m1 : Method := { name := "law", desc := "(IIIJJ)Z", sig := { parameters := [.int, .int, .int, .long, .long], returnType := some .boolean }, accessFlags := 9, code := some k1c1 }
/-- com/example/bucket/bucket/ingest/PointRunIsFullPinLaw -/
def k1 : Class := { plain "com/example/bucket/bucket/ingest/PointRunIsFullPinLaw" (some 0) with
  accessFlags := 49
  interfaces := #[]
  cf := some (fileOf pool1 29 #[] #[{ accessFlags := 1, nameIndex := 5, descriptorIndex := 6, attributes := #[] }, { accessFlags := 9, nameIndex := 33, descriptorIndex := 34, attributes := #[] }] 49 2 #[] #[])
  fields := #[]
  methods := #[k1m0, k1m1]
  instanceTypes := #[]
  staticTypes := #[]
  resolved := Array.replicate 38 none
  statics := none }

def pool2 : Array CpInfo := pool [(1, .methodref 2 3), (0, .class_ 4), (0, .nameAndType 5 6), (0, u "java/lang/Object"), (0, u "<init>"), (0, u "()V"), (0, .class_ 8), (0, u "com/example/bucket/bucket/lineformat/Series"), (0, .fieldref 10 11), (0, .class_ 12), (0, .nameAndType 13 14), (0, u "com/example/bucket/bucket/ingest/PointRun"), (0, u "series"), (0, u "[Lcom/example/bucket/bucket/lineformat/Series;"), (0, .fieldref 10 16), (0, .nameAndType 17 18), (0, u "times"), (0, u "[J"), (0, .fieldref 10 20), (0, .nameAndType 21 22), (0, u "values"), (0, u "[D"), (0, .fieldref 10 24), (0, .nameAndType 25 18), (0, u "ends"), (2, u "(I)V"), (2, u "add"), (0, u "(Lcom/example/bucket/bucket/lineformat/Point;J)V"), (0, .fieldref 10 34), (0, .nameAndType 35 36), (0, u "size"), (0, u "I"), (0, .methodref 38 39), (0, .class_ 40), (0, .nameAndType 13 41), (0, u "com/example/bucket/bucket/lineformat/Point"), (0, u "()Lcom/example/bucket/bucket/lineformat/Series;"), (0, .methodref 38 43), (0, .nameAndType 44 45), (0, u "time"), (0, u "()J"), (0, .methodref 38 47), (0, .nameAndType 48 49), (0, u "value"), (0, u "()D"), (0, .fieldref 10 51), (0, .nameAndType 52 36), (0, u "merged"), (0, .methodref 54 55), (0, .class_ 56), (0, .nameAndType 57 58), (0, u "java/util/Arrays"), (0, u "fill"), (0, u "([Ljava/lang/Object;IILjava/lang/Object;)V"), (4, u "isFull"), (0, u "()Z"), (7, u "clear")] 2

def k2c0 : Code := { maxStack := 2, maxLocals := 2, code := prog_13_method_1_code, exceptionTable := #[], attributes := #[] }
def k2m0 : Method := { name := "<init>", desc := "(I)V", sig := { parameters := [.int], returnType := none }, accessFlags := 0, code := some k2c0 }
def k2c1 : Code := { maxStack := 2, maxLocals := 1, code := prog_13_method_3_code, exceptionTable := #[], attributes := #[] }
def k2m1 : Method := { name := "isFull", desc := "()Z", sig := { parameters := [], returnType := some .boolean }, accessFlags := 0, code := some k2c1 }
def k2c2 : Code := { maxStack := 4, maxLocals := 4, code := prog_13_method_4_code, exceptionTable := #[], attributes := #[] }
def k2m2 : Method := { name := "add", desc := "(Lcom/example/bucket/bucket/lineformat/Point;J)V", sig := { parameters := [(.object "com/example/bucket/bucket/lineformat/Point"), .long], returnType := none }, accessFlags := 0, code := some k2c2 }
def k2c3 : Code := { maxStack := 4, maxLocals := 1, code := prog_13_method_13_code, exceptionTable := #[], attributes := #[] }
def k2m3 : Method := { name := "clear", desc := "()V", sig := { parameters := [], returnType := none }, accessFlags := 0, code := some k2c3 }
/-- com/example/bucket/bucket/ingest/PointRun -/
def k2 : Class := { plain "com/example/bucket/bucket/ingest/PointRun" (some 0) with
  accessFlags := 48
  interfaces := #[]
  cf := some (fileOf pool2 10 #[] #[{ accessFlags := 0, nameIndex := 5, descriptorIndex := 28, attributes := #[] }, { accessFlags := 0, nameIndex := 63, descriptorIndex := 64, attributes := #[] }, { accessFlags := 0, nameIndex := 31, descriptorIndex := 32, attributes := #[] }, { accessFlags := 0, nameIndex := 72, descriptorIndex := 6, attributes := #[] }] 48 2 #[] #[{ accessFlags := 18, nameIndex := 13, descriptorIndex := 14, attributes := #[] }, { accessFlags := 18, nameIndex := 17, descriptorIndex := 18, attributes := #[] }, { accessFlags := 18, nameIndex := 21, descriptorIndex := 22, attributes := #[] }, { accessFlags := 18, nameIndex := 25, descriptorIndex := 18, attributes := #[] }, { accessFlags := 2, nameIndex := 35, descriptorIndex := 36, attributes := #[] }, { accessFlags := 2, nameIndex := 52, descriptorIndex := 36, attributes := #[] }])
  fields := #[{ name := "series", type := (.array (.object "com/example/bucket/bucket/lineformat/Series")), accessFlags := 18, slot := 0, constantValue := 0 }, { name := "times", type := (.array .long), accessFlags := 18, slot := 1, constantValue := 0 }, { name := "values", type := (.array .double), accessFlags := 18, slot := 2, constantValue := 0 }, { name := "ends", type := (.array .long), accessFlags := 18, slot := 3, constantValue := 0 }, { name := "size", type := .int, accessFlags := 2, slot := 4, constantValue := 0 }, { name := "merged", type := .int, accessFlags := 2, slot := 5, constantValue := 0 }]
  methods := #[k2m0, k2m1, k2m2, k2m3]
  instanceTypes := #[(.array (.object "com/example/bucket/bucket/lineformat/Series")), (.array .long), (.array .double), (.array .long), .int, .int]
  staticTypes := #[]
  resolved := Array.replicate 75 none
  statics := none }

def pool3 : Array CpInfo := pool [(2, .class_ 4), (1, u "java/lang/Object"), (3, .class_ 10), (1, u "com/example/bucket/bucket/lineformat/Series"), (0, u "metric"), (0, u "Ljava/lang/String;"), (2, u "topology"), (2, u "component"), (2, u "executor"), (2, u "host"), (2, u "port"), (0, u "I"), (2, u "stream"), (34, .class_ 68), (1, u "com/example/bucket/bucket/lineformat/Series$1"), (26, u "MAX_PORT")] 28

/-- com/example/bucket/bucket/lineformat/Series -/
def k3 : Class := { plain "com/example/bucket/bucket/lineformat/Series" (some 0) with
  accessFlags := 49
  interfaces := #[]
  cf := some (fileOf pool3 8 #[.nestMembers #[66]] #[] 49 2 #[] #[{ accessFlags := 25, nameIndex := 95, descriptorIndex := 28, attributes := #[] }, { accessFlags := 18, nameIndex := 11, descriptorIndex := 12, attributes := #[] }, { accessFlags := 18, nameIndex := 15, descriptorIndex := 12, attributes := #[] }, { accessFlags := 18, nameIndex := 18, descriptorIndex := 12, attributes := #[] }, { accessFlags := 18, nameIndex := 21, descriptorIndex := 12, attributes := #[] }, { accessFlags := 18, nameIndex := 24, descriptorIndex := 12, attributes := #[] }, { accessFlags := 18, nameIndex := 27, descriptorIndex := 28, attributes := #[] }, { accessFlags := 18, nameIndex := 31, descriptorIndex := 12, attributes := #[] }])
  fields := #[{ name := "MAX_PORT", type := .int, accessFlags := 25, slot := 0, constantValue := 0 }, { name := "metric", type := (.object "java/lang/String"), accessFlags := 18, slot := 0, constantValue := 0 }, { name := "topology", type := (.object "java/lang/String"), accessFlags := 18, slot := 1, constantValue := 0 }, { name := "component", type := (.object "java/lang/String"), accessFlags := 18, slot := 2, constantValue := 0 }, { name := "executor", type := (.object "java/lang/String"), accessFlags := 18, slot := 3, constantValue := 0 }, { name := "host", type := (.object "java/lang/String"), accessFlags := 18, slot := 4, constantValue := 0 }, { name := "port", type := .int, accessFlags := 18, slot := 5, constantValue := 0 }, { name := "stream", type := (.object "java/lang/String"), accessFlags := 18, slot := 6, constantValue := 0 }]
  methods := #[]
  instanceTypes := #[(.object "java/lang/String"), (.object "java/lang/String"), (.object "java/lang/String"), (.object "java/lang/String"), (.object "java/lang/String"), .int, (.object "java/lang/String")]
  staticTypes := #[.int]
  resolved := Array.replicate 124 none
  statics := none }

def pool4 : Array CpInfo := pool [(1, .methodref 2 3), (0, .class_ 4), (0, .nameAndType 5 6), (0, u "java/lang/Object"), (0, u "<init>"), (0, u "()V"), (0, .fieldref 8 9), (0, .class_ 10), (0, .nameAndType 11 12), (0, u "com/example/bucket/bucket/lineformat/Point"), (0, u "series"), (0, u "Lcom/example/bucket/bucket/lineformat/Series;"), (0, .fieldref 8 14), (0, .nameAndType 15 16), (0, u "time"), (0, u "J"), (0, .fieldref 8 18), (0, .nameAndType 19 20), (0, u "value"), (0, u "D"), (21, u "(Lcom/example/bucket/bucket/lineformat/Series;JD)V"), (5, u "()Lcom/example/bucket/bucket/lineformat/Series;"), (0, u "()J"), (0, u "()D")] 19

def k4c0 : Code := { maxStack := 3, maxLocals := 6, code := prog_22_method_1_code, exceptionTable := #[], attributes := #[] }
def k4m0 : Method := { name := "<init>", desc := "(Lcom/example/bucket/bucket/lineformat/Series;JD)V", sig := { parameters := [(.object "com/example/bucket/bucket/lineformat/Series"), .long, .double], returnType := none }, accessFlags := 1, code := some k4c0 }
def k4c1 : Code := { maxStack := 1, maxLocals := 1, code := prog_22_method_3_code, exceptionTable := #[], attributes := #[] }
def k4m1 : Method := { name := "series", desc := "()Lcom/example/bucket/bucket/lineformat/Series;", sig := { parameters := [], returnType := some (.object "com/example/bucket/bucket/lineformat/Series") }, accessFlags := 1, code := some k4c1 }
def k4c2 : Code := { maxStack := 2, maxLocals := 1, code := prog_22_method_4_code, exceptionTable := #[], attributes := #[] }
def k4m2 : Method := { name := "time", desc := "()J", sig := { parameters := [], returnType := some .long }, accessFlags := 1, code := some k4c2 }
def k4c3 : Code := { maxStack := 2, maxLocals := 1, code := prog_22_method_5_code, exceptionTable := #[], attributes := #[] }
def k4m3 : Method := { name := "value", desc := "()D", sig := { parameters := [], returnType := some .double }, accessFlags := 1, code := some k4c3 }
/-- com/example/bucket/bucket/lineformat/Point -/
def k4 : Class := { plain "com/example/bucket/bucket/lineformat/Point" (some 0) with
  accessFlags := 49
  interfaces := #[]
  cf := some (fileOf pool4 8 #[] #[{ accessFlags := 1, nameIndex := 5, descriptorIndex := 42, attributes := #[] }, { accessFlags := 1, nameIndex := 11, descriptorIndex := 48, attributes := #[] }, { accessFlags := 1, nameIndex := 15, descriptorIndex := 49, attributes := #[] }, { accessFlags := 1, nameIndex := 19, descriptorIndex := 50, attributes := #[] }] 49 2 #[] #[{ accessFlags := 18, nameIndex := 11, descriptorIndex := 12, attributes := #[] }, { accessFlags := 18, nameIndex := 15, descriptorIndex := 16, attributes := #[] }, { accessFlags := 18, nameIndex := 19, descriptorIndex := 20, attributes := #[] }])
  fields := #[{ name := "series", type := (.object "com/example/bucket/bucket/lineformat/Series"), accessFlags := 18, slot := 0, constantValue := 0 }, { name := "time", type := .long, accessFlags := 18, slot := 1, constantValue := 0 }, { name := "value", type := .double, accessFlags := 18, slot := 2, constantValue := 0 }]
  methods := #[k4m0, k4m1, k4m2, k4m3]
  instanceTypes := #[(.object "com/example/bucket/bucket/lineformat/Series"), .long, .double]
  staticTypes := #[]
  resolved := Array.replicate 70 none
  statics := none }

def pool5 : Array CpInfo := pool [(2, .class_ 4), (1, u "java/lang/Object"), (0, u "<init>"), (0, u "()V"), (6, .methodref 14 15), (0, .class_ 16), (0, .nameAndType 17 18), (0, u "java/util/Arrays"), (0, u "rangeCheck"), (0, u "(III)V"), (55, .class_ 76), (1, u "java/util/Arrays$NaturalOrder"), (36, .class_ 115), (1, u "java/util/Arrays$LegacyMergeSort"), (1, u "Z"), (257, .class_ 376), (0, u "java/util/Arrays$ArrayList"), (68, u "$assertionsDisabled"), (269, u "MIN_ARRAY_SORT_GRAN"), (0, u "I"), (2, u "INSERTIONSORT_THRESHOLD"), (120, u "fill"), (18, u "([Ljava/lang/Object;IILjava/lang/Object;)V"), (115, .class_ 976), (0, u "java/util/Arrays$ArrayItr")] 52

def k5m0 : Method := { name := "<init>", desc := "()V", sig := { parameters := [], returnType := none }, accessFlags := 2, code := none }
def k5c1 : Code := { maxStack := 4, maxLocals := 3, code := jdk_65_method_30_code, exceptionTable := #[], attributes := #[] }
def k5m1 : Method := { name := "rangeCheck", desc := "(III)V", sig := { parameters := [.int, .int, .int], returnType := none }, accessFlags := 8, code := some k5c1 }
def k5c2 : Code := { maxStack := 3, maxLocals := 5, code := jdk_65_method_118_code, exceptionTable := #[], attributes := #[] }
def k5m2 : Method := { name := "fill", desc := "([Ljava/lang/Object;IILjava/lang/Object;)V", sig := { parameters := [(.array (.object "java/lang/Object")), .int, .int, (.object "java/lang/Object")], returnType := none }, accessFlags := 9, code := some k5c2 }
/-- java/util/Arrays -/
def k5 : Class := { plain "java/util/Arrays" (some 0) with
  accessFlags := 49
  interfaces := #[]
  cf := some (fileOf pool5 14 #[.nestMembers #[975, 375, 113, 74]] #[{ accessFlags := 2, nameIndex := 5, descriptorIndex := 6, attributes := #[] }, { accessFlags := 8, nameIndex := 17, descriptorIndex := 18, attributes := #[] }, { accessFlags := 9, nameIndex := 840, descriptorIndex := 859, attributes := #[] }] 49 2 #[] #[{ accessFlags := 26, nameIndex := 715, descriptorIndex := 716, attributes := #[] }, { accessFlags := 26, nameIndex := 719, descriptorIndex := 716, attributes := #[] }, { accessFlags := 4120, nameIndex := 445, descriptorIndex := 117, attributes := #[] }])
  fields := #[{ name := "MIN_ARRAY_SORT_GRAN", type := .int, accessFlags := 26, slot := 0, constantValue := 0 }, { name := "INSERTIONSORT_THRESHOLD", type := .int, accessFlags := 26, slot := 1, constantValue := 0 }, { name := "$assertionsDisabled", type := .boolean, accessFlags := 4120, slot := 2, constantValue := 0 }]
  methods := #[k5m0, k5m1, k5m2]
  instanceTypes := #[]
  staticTypes := #[.int, .int, .boolean]
  resolved := Array.replicate 1029 none
  statics := none }

def pool6 : Array CpInfo := pool [(1, u "java/lang/Cloneable"), (0, .class_ 1), (0, u "java/lang/Object"), (0, .class_ 3)] 3

/-- java/lang/Cloneable -/
def k6 : Class := { plain "java/lang/Cloneable" (some 0) with
  accessFlags := 1537
  interfaces := #[]
  cf := some (fileOf pool6 2 #[] #[] 1537 4 #[] #[])
  fields := #[]
  methods := #[]
  instanceTypes := #[]
  staticTypes := #[]
  resolved := Array.replicate 8 none
  statics := none }

def pool7 : Array CpInfo := pool [(1, u "java/io/Serializable"), (0, .class_ 1), (0, u "java/lang/Object"), (0, .class_ 3)] 3

/-- java/io/Serializable -/
def k7 : Class := { plain "java/io/Serializable" (some 0) with
  accessFlags := 1537
  interfaces := #[]
  cf := some (fileOf pool7 2 #[] #[] 1537 4 #[] #[])
  fields := #[]
  methods := #[]
  instanceTypes := #[]
  staticTypes := #[]
  resolved := Array.replicate 8 none
  statics := none }

/-- the primitive byte -/
def k8 : Class := { plain "byte" none with kind := .primitive 'B', accessFlags := 0x411 }
/-- [B -/
def k9 : Class := { plain "[B" (some 0) with kind := .array 8 .byte, interfaces := #[6, 7], accessFlags := 1041 }

/-- the primitive double -/
def k10 : Class := { plain "double" none with kind := .primitive 'D', accessFlags := 0x411 }
/-- [D -/
def k11 : Class := { plain "[D" (some 0) with kind := .array 10 .double, interfaces := #[6, 7], accessFlags := 1041 }

/-- the primitive int -/
def k12 : Class := { plain "int" none with kind := .primitive 'I', accessFlags := 0x411 }
/-- [I -/
def k13 : Class := { plain "[I" (some 0) with kind := .array 12 .int, interfaces := #[6, 7], accessFlags := 1041 }

/-- the primitive long -/
def k14 : Class := { plain "long" none with kind := .primitive 'J', accessFlags := 0x411 }
/-- [J -/
def k15 : Class := { plain "[J" (some 0) with kind := .array 14 .long, interfaces := #[6, 7], accessFlags := 1041 }

/-- [Lcom/example/bucket/bucket/lineformat/Series; -/
def k16 : Class := { plain "[Lcom/example/bucket/bucket/lineformat/Series;" (some 0) with kind := .array 3 (.object "com/example/bucket/bucket/lineformat/Series"), interfaces := #[6, 7], accessFlags := 1041 }

def heap : Heap := #[]
def classes : Array Class := #[k0, k1, k2, k3, k4, k5, k6, k7, k8, k9, k10, k11, k12, k13, k14, k15, k16]
def interned : List (Array UInt16 × Addr) := []
def slotsUsed : Nat := 0
def theMethod : MethodId := ⟨1, 1⟩
def args0 : Array Value := #[.int 5, .int 5, .int 5, .long 5, .long 5]
def aboutOver (below : List Frame) : State where
  vm := { classes := classes, interned := interned.toArray }
  heap := heap
  slotsUsed := slotsUsed
  threads := #[{ frames := .invoking theMethod args0 :: below }]
def below0 : List Frame := [.native { method := ⟨0, 0⟩, args := #[] }]
def about1 : State := aboutOver below0
def p0 : Program := .bare "" "" ""
def e0 : Env := launch0.env 0 0 0
theorem w_frames : about1.frames = Frame.invoking theMethod args0 :: below0 := rfl
set_option maxRecDepth 65536 in
theorem w_args : argsFit about1.vm theMethod args0 = true := by decide +kernel
set_option maxRecDepth 65536 in
theorem w_heap : heapFits about1 = true := by decide +kernel
set_option maxRecDepth 65536 in
theorem w_runnable : about1.curStatus? = some .runnable := by decide +kernel
set_option maxRecDepth 65536 in
theorem w_alone : about1.alone = true := by decide +kernel
set_option maxRecDepth 65536 in
theorem w_named : about1.methodNamed? x = some theMethod := by decide +kernel
set_option maxRecDepth 65536 in
theorem w_hears : about1.hears theMethod below0 = true := by decide +kernel
set_option maxRecDepth 65536 in
theorem w_ripe : about1.ripe theMethod args0 below0 = true := by decide +kernel
theorem w_running : about1.status = .running := rfl
set_option maxRecDepth 65536 in
theorem w_room : about1.hasRoom e0.platform room_1 = true :=
  launch0.hasRoom_least _ room_1 (by decide +kernel) (by decide +kernel) (by decide +kernel) (by decide +kernel) (by decide +kernel) (by decide +kernel)
theorem allAtoms_all (ts : List Jvm.Cond) (a : Array Jvm.Value) (st : Jvm.State) : (allAtoms ts).before a st = ts.all (fun c => c.before a st) := by
  induction ts with
  | nil => rfl
  | cons c t ih =>
    show (Jvm.Cond.and c (allAtoms t)).before a st = _
    rw [Jvm.Cond.before_and, ih, List.all_cons]
def words1 : List Jvm.Cond := Jvm.Cond.code x code maxLocals ret :: tables_1
/-- a 'code' word, met by the world's own term for the bytes: nothing is compared byte by byte -/
theorem code_word {y : MethodName} {bytes : ByteArray} {mx : Nat} {rt : Option FieldType} {a : Array Value} {s : State} {m : MethodId} {meth : Method} {c : Code} (h1 : s.methodNamed? y = some m) (h2 : s.vm.method? m = some meth) (h3 : meth.code = some c) (h4 : c.code = bytes)
    (h5 : (c.maxLocals == mx && c.exceptionTable.isEmpty && decide (c.maxStack ≤ mostOperands) && decide (meth.sig.returnType = rt) && !meth.locks && decide (parseMethodDescriptor y.desc = some meth.sig)) = true) : (Jvm.Cond.code y bytes mx rt).before a s = true := by
  simp only [Bool.and_eq_true, beq_iff_eq, Bool.not_eq_true', decide_eq_true_eq] at h5
  obtain ⟨⟨⟨⟨⟨g1, g2⟩, g3⟩, g4⟩, g5⟩, g6⟩ := h5
  simp [Cond.before, Cond.holds, Cond.value, h1, h2, h3, h4, g1, g2, g3, g4, g5, g6]
def isCode : Jvm.Cond → Bool
  | .code _ _ _ _ => true
  | _ => false
theorem all_split {L : List Jvm.Cond} {P : Jvm.Cond → Bool} (h1 : L.all (fun c => isCode c || P c) = true) (h2 : ∀ c ∈ L.filter isCode, P c = true) : L.all P = true := by
  refine List.all_eq_true.mpr fun c hc => ?_
  have h := List.all_eq_true.mp h1 c hc
  rcases Bool.eq_false_or_eq_true (isCode c) with hi | hi
  · exact h2 c (List.mem_filter.mpr ⟨hc, hi⟩)
  · simpa [hi] using h
set_option maxRecDepth 65536 in
theorem w_c0 : (Jvm.Cond.code x code maxLocals ret).before args0 about1 = true := code_word (m := ⟨1, 1⟩) (meth := k1m1) (c := k1c1) (by decide +kernel) rfl rfl rfl (by decide +kernel)
set_option maxRecDepth 65536 in
theorem w_c1 : (Jvm.Cond.code ({ cls := "com/example/bucket/bucket/ingest/PointRun", name := "<init>", desc := "(I)V" } : Jvm.MethodName) prog_13_method_1_code (2 : Nat) (Option.none : Option Jvm.ClassFile.FieldType)).before args0 about1 = true := code_word (m := ⟨2, 0⟩) (meth := k2m0) (c := k2c0) (by decide +kernel) rfl rfl rfl (by decide +kernel)
set_option maxRecDepth 65536 in
theorem w_c2 : (Jvm.Cond.code ({ cls := "java/lang/Object", name := "<init>", desc := "()V" } : Jvm.MethodName) object_method_1_code (1 : Nat) (Option.none : Option Jvm.ClassFile.FieldType)).before args0 about1 = true := code_word (m := ⟨0, 0⟩) (meth := k0m0) (c := k0c0) (by decide +kernel) rfl rfl rfl (by decide +kernel)
set_option maxRecDepth 65536 in
theorem w_c3 : (Jvm.Cond.code ({ cls := "com/example/bucket/bucket/lineformat/Point", name := "<init>", desc := "(Lcom/example/bucket/bucket/lineformat/Series;JD)V" } : Jvm.MethodName) prog_22_method_1_code (6 : Nat) (Option.none : Option Jvm.ClassFile.FieldType)).before args0 about1 = true := code_word (m := ⟨4, 0⟩) (meth := k4m0) (c := k4c0) (by decide +kernel) rfl rfl rfl (by decide +kernel)
set_option maxRecDepth 65536 in
theorem w_c4 : (Jvm.Cond.code ({ cls := "com/example/bucket/bucket/ingest/PointRun", name := "isFull", desc := "()Z" } : Jvm.MethodName) prog_13_method_3_code (1 : Nat) (Option.some Jvm.ClassFile.FieldType.boolean)).before args0 about1 = true := code_word (m := ⟨2, 1⟩) (meth := k2m1) (c := k2c1) (by decide +kernel) rfl rfl rfl (by decide +kernel)
set_option maxRecDepth 65536 in
theorem w_c5 : (Jvm.Cond.code ({ cls := "com/example/bucket/bucket/ingest/PointRun", name := "add", desc := "(Lcom/example/bucket/bucket/lineformat/Point;J)V" } : Jvm.MethodName) prog_13_method_4_code (4 : Nat) (Option.none : Option Jvm.ClassFile.FieldType)).before args0 about1 = true := code_word (m := ⟨2, 2⟩) (meth := k2m2) (c := k2c2) (by decide +kernel) rfl rfl rfl (by decide +kernel)
set_option maxRecDepth 65536 in
theorem w_c6 : (Jvm.Cond.code ({ cls := "com/example/bucket/bucket/lineformat/Point", name := "series", desc := "()Lcom/example/bucket/bucket/lineformat/Series;" } : Jvm.MethodName) prog_22_method_3_code (1 : Nat) (Option.some (Jvm.ClassFile.FieldType.object "com/example/bucket/bucket/lineformat/Series"))).before args0 about1 = true := code_word (m := ⟨4, 1⟩) (meth := k4m1) (c := k4c1) (by decide +kernel) rfl rfl rfl (by decide +kernel)
set_option maxRecDepth 65536 in
theorem w_c7 : (Jvm.Cond.code ({ cls := "com/example/bucket/bucket/lineformat/Point", name := "time", desc := "()J" } : Jvm.MethodName) prog_22_method_4_code (1 : Nat) (Option.some Jvm.ClassFile.FieldType.long)).before args0 about1 = true := code_word (m := ⟨4, 2⟩) (meth := k4m2) (c := k4c2) (by decide +kernel) rfl rfl rfl (by decide +kernel)
set_option maxRecDepth 65536 in
theorem w_c8 : (Jvm.Cond.code ({ cls := "com/example/bucket/bucket/lineformat/Point", name := "value", desc := "()D" } : Jvm.MethodName) prog_22_method_5_code (1 : Nat) (Option.some Jvm.ClassFile.FieldType.double)).before args0 about1 = true := code_word (m := ⟨4, 3⟩) (meth := k4m3) (c := k4c3) (by decide +kernel) rfl rfl rfl (by decide +kernel)
set_option maxRecDepth 65536 in
theorem w_c9 : (Jvm.Cond.code ({ cls := "com/example/bucket/bucket/ingest/PointRun", name := "clear", desc := "()V" } : Jvm.MethodName) prog_13_method_13_code (1 : Nat) (Option.none : Option Jvm.ClassFile.FieldType)).before args0 about1 = true := code_word (m := ⟨2, 3⟩) (meth := k2m3) (c := k2c3) (by decide +kernel) rfl rfl rfl (by decide +kernel)
set_option maxRecDepth 65536 in
theorem w_c10 : (Jvm.Cond.code ({ cls := "java/util/Arrays", name := "fill", desc := "([Ljava/lang/Object;IILjava/lang/Object;)V" } : Jvm.MethodName) jdk_65_method_118_code (5 : Nat) (Option.none : Option Jvm.ClassFile.FieldType)).before args0 about1 = true := code_word (m := ⟨5, 2⟩) (meth := k5m2) (c := k5c2) (by decide +kernel) rfl rfl rfl (by decide +kernel)
set_option maxRecDepth 65536 in
theorem w_c11 : (Jvm.Cond.code ({ cls := "java/util/Arrays", name := "rangeCheck", desc := "(III)V" } : Jvm.MethodName) jdk_65_method_30_code (3 : Nat) (Option.none : Option Jvm.ClassFile.FieldType)).before args0 about1 = true := code_word (m := ⟨5, 1⟩) (meth := k5m1) (c := k5c1) (by decide +kernel) rfl rfl rfl (by decide +kernel)
def codes1 : List Jvm.Cond := [Jvm.Cond.code x code maxLocals ret, Jvm.Cond.code ({ cls := "com/example/bucket/bucket/ingest/PointRun", name := "<init>", desc := "(I)V" } : Jvm.MethodName) prog_13_method_1_code (2 : Nat) (Option.none : Option Jvm.ClassFile.FieldType), Jvm.Cond.code ({ cls := "java/lang/Object", name := "<init>", desc := "()V" } : Jvm.MethodName) object_method_1_code (1 : Nat) (Option.none : Option Jvm.ClassFile.FieldType), Jvm.Cond.code ({ cls := "com/example/bucket/bucket/lineformat/Point", name := "<init>", desc := "(Lcom/example/bucket/bucket/lineformat/Series;JD)V" } : Jvm.MethodName) prog_22_method_1_code (6 : Nat) (Option.none : Option Jvm.ClassFile.FieldType), Jvm.Cond.code ({ cls := "com/example/bucket/bucket/ingest/PointRun", name := "isFull", desc := "()Z" } : Jvm.MethodName) prog_13_method_3_code (1 : Nat) (Option.some Jvm.ClassFile.FieldType.boolean), Jvm.Cond.code ({ cls := "com/example/bucket/bucket/ingest/PointRun", name := "add", desc := "(Lcom/example/bucket/bucket/lineformat/Point;J)V" } : Jvm.MethodName) prog_13_method_4_code (4 : Nat) (Option.none : Option Jvm.ClassFile.FieldType), Jvm.Cond.code ({ cls := "com/example/bucket/bucket/lineformat/Point", name := "series", desc := "()Lcom/example/bucket/bucket/lineformat/Series;" } : Jvm.MethodName) prog_22_method_3_code (1 : Nat) (Option.some (Jvm.ClassFile.FieldType.object "com/example/bucket/bucket/lineformat/Series")), Jvm.Cond.code ({ cls := "com/example/bucket/bucket/lineformat/Point", name := "time", desc := "()J" } : Jvm.MethodName) prog_22_method_4_code (1 : Nat) (Option.some Jvm.ClassFile.FieldType.long), Jvm.Cond.code ({ cls := "com/example/bucket/bucket/lineformat/Point", name := "value", desc := "()D" } : Jvm.MethodName) prog_22_method_5_code (1 : Nat) (Option.some Jvm.ClassFile.FieldType.double), Jvm.Cond.code ({ cls := "com/example/bucket/bucket/ingest/PointRun", name := "clear", desc := "()V" } : Jvm.MethodName) prog_13_method_13_code (1 : Nat) (Option.none : Option Jvm.ClassFile.FieldType), Jvm.Cond.code ({ cls := "java/util/Arrays", name := "fill", desc := "([Ljava/lang/Object;IILjava/lang/Object;)V" } : Jvm.MethodName) jdk_65_method_118_code (5 : Nat) (Option.none : Option Jvm.ClassFile.FieldType), Jvm.Cond.code ({ cls := "java/util/Arrays", name := "rangeCheck", desc := "(III)V" } : Jvm.MethodName) jdk_65_method_30_code (3 : Nat) (Option.none : Option Jvm.ClassFile.FieldType)]
set_option maxRecDepth 65536 in
theorem codes_eq : words1.filter isCode = codes1 := rfl
theorem w_codes : ∀ c ∈ words1.filter isCode, c.before args0 about1 = true := by
  rw [codes_eq]
  intro c hc
  simp only [codes1, List.mem_cons, List.not_mem_nil, or_false] at hc
  rcases hc with rfl | rfl | rfl | rfl | rfl | rfl | rfl | rfl | rfl | rfl | rfl | rfl
  · exact w_c0
  · exact w_c1
  · exact w_c2
  · exact w_c3
  · exact w_c4
  · exact w_c5
  · exact w_c6
  · exact w_c7
  · exact w_c8
  · exact w_c9
  · exact w_c10
  · exact w_c11
set_option maxRecDepth 65536 in
theorem w_t1 : (words1.take 24).all (fun c => isCode c || c.before args0 about1) = true := by decide +kernel
set_option maxRecDepth 65536 in
theorem w_t2 : ((words1.drop 24).take 24).all (fun c => isCode c || c.before args0 about1) = true := by decide +kernel
set_option maxRecDepth 65536 in
theorem w_t3 : (((words1.drop 24).drop 24).take 24).all (fun c => isCode c || c.before args0 about1) = true := by decide +kernel
set_option maxRecDepth 65536 in
theorem w_t4 : (((words1.drop 24).drop 24).drop 24).all (fun c => isCode c || c.before args0 about1) = true := by decide +kernel
theorem w_tables : (allAtoms (Jvm.Cond.code x code maxLocals ret :: tables_1)).before args0 about1 = true := by
  rw [allAtoms_all]
  show words1.all (fun c => c.before args0 about1) = true
  refine all_split ?_ w_codes
  rw [← List.take_append_drop 24 words1, List.all_append, w_t1, ← List.take_append_drop 24 (words1.drop 24), List.all_append, w_t2, ← List.take_append_drop 24 ((words1.drop 24).drop 24), List.all_append, w_t3, w_t4]
  rfl
set_option maxRecDepth 65536 in
theorem w_case : (Jvm.Cond.and given_1 narrow_1).before args0 about1 = true := by decide +kernel
theorem w_applies : (headSpec (Jvm.Cond.code x code maxLocals ret :: tables_1) room_1).applies x e0.platform about1 = true :=
  (Spec.applies_iff w_frames).mpr ⟨w_running, w_runnable, w_alone, w_named, w_hears, w_ripe, w_room, w_tables⟩
theorem atStart : AtStart classFile x code maxLocals ret World_1 tables_1 room_1 Calls_1 rest_1 Pre_1 launch0 p0 e0 about1 theMethod args0 below0 :=
  ⟨lists_1, trivial, launch0.admits_env _ _ _, launch0.least_env, fairChoices_fair.cas, fairChoices_fair.clock, w_frames, w_args, w_heap, w_applies, trivial, trivial, w_case⟩
end start1
theorem witness_1 : WitnessClaimed_1 := ⟨start1.p0, start1.e0, start1.about1, start1.theMethod, start1.args0, start1.below0, start1.atStart⟩
end Jvm.Pilot.@@N@@
