import JvmDerived
import JvmDerived.Pilot.@@N@@Statement
import JvmDerived.Pilot.@@N@@Code
set_option linter.unusedVariables false
set_option linter.unusedSimpArgs false
namespace Jvm.Pilot.@@N@@
open Jvm Jvm.ClassFile Sem Op Lib Jvm.Free Jvm.Stand Jvm.LawKit Jvm.RoadKit Bundle Jvm.Pilot.@@N@@.Jvm.D
theorem d2_0 : decode jdk_30_method_1_code 0 = .ok (.aload_n 0, 1) := by decide +kernel
theorem d2_1 : decode jdk_30_method_1_code 1 = .ok (.invokespecial 1, 3) := by decide +kernel
theorem d2_4 : decode jdk_30_method_1_code 4 = .ok (.return_, 1) := by decide +kernel
theorem pn_java_lang_Record : plainName "java/lang/Record" = true := by first | (simp [plainName, overriddenIn]; done) | decide +kernel
theorem ef_rm2 (m : MethodId) (a0 : Addr) : entryFrame m #[(.ref a0)] 1 = (mkF m 0 #[.val (.ref a0)] []) := by first | (simp [entryFrame, mkF, argsToLocals, Value.category]; done) | rfl
def Q2 (Z : State) (a0 : Addr) (h0 : Heap) (n0 : Nat) (v : Option Value) (h : Heap) (L : List Loc) : Prop := v = none ∧ Fr n0 L ∧ h = h0
set_option maxRecDepth 65536 in
set_option maxHeartbeats 40000000 in
theorem rm2 (l : Launch) (Z : State) (aa : Array Value) (hw : ∀ d ∈ tables_1, d.before aa Z = true) (ws : List Jvm.Cond) (a0 : Addr) (h0 : Heap) (n0 : Nat) (Z0 : n0 ≤ h0.size) :
    MetFree l (⟨"java/lang/Record", "<init>", "()V"⟩ : MethodName) (head1 (Jvm.Cond.code (⟨"java/lang/Record", "<init>", "()V"⟩ : MethodName) jdk_30_method_1_code 1 none :: ws) ({ frames := 1, cells := 0, slots := 0, locals := 12 } : Room)) (fun a U => a = #[(.ref a0)] ∧ Z.Warmed39 U.vm ∧ U.heap = h0) (fun _ _ _ _ _ => True) (fun _ U o U' => ∃ v L, o = .returned v ∧ Q2 Z a0 h0 n0 v U'.heap L ∧ FrameEnd U o U' L ({ frames := 1, cells := 0, slots := 0, locals := 12 } : Room).cells ({ frames := 1, cells := 0, slots := 0, locals := 12 } : Room).slots) := by
  refine MetFree.of_bodySF (plainFor_of_name pn_java_lang_Record) hisR ?_
  intro p e s m args below meth c s₁ Bd hml0 hP hK
  obtain ⟨rfl, hZ, hh⟩ := hP
  have hx := Bd.exec
  have hby := Bd.bytes
  have hml : c.maxLocals = 1 := hml0
  have hown : s.vm.findClass "java/lang/Record" = some m.cls := findClass_of_methodNamed Bd.named
  have hnm := (name_of_methodNamed Bd.named Bd.method).1
  have X0 : Stand p l e ({ frames := 1, cells := 0, slots := 0, locals := 12 } : Room) s m #[(.ref a0)] below meth c s₁ [] 0 0 := Stand.of_body Bd
  have e0 : s₁.heap = h0 := by rw [← hh, Bd.state]; rfl
  have N0 := Fr.nil n0
  obtain ⟨G0, hG0⟩ : ∃ G, G = s₁.setTop (entryFrame m #[(.ref a0)] 1) := ⟨_, rfl⟩
  have K0 : ∀ t, Steps p.tables e below (s₁.setTop (mkF m 0 #[.val (.ref a0)] [])) t → Steps p.tables e below G0 t := fun t k => by rw [hG0]; exact castTop (ef_rm2 m a0) k
  have K1 : ∀ t, Steps p.tables e below (s₁.setTop (mkF m 1 #[.val (.ref a0)] [(.ref a0)])) t → Steps p.tables e below G0 t := by
    intro t kt
    refine K0 t ?_
    refine XS.aloadN X0.here hx rfl (hb hby d2_0) rfl rfl ?_
    show Steps p.tables e below (s₁.setTop (mkF m 1 #[.val (.ref a0)] [(.ref a0)])) _
    exact kt
  obtain ⟨T2, X2, e2, st2⟩ := initO X0 hx hZ hown (hw _ (List.mem_of_getElem? (i := 11) rfl)) (hw _ (List.mem_of_getElem? (i := 12) rfl)) (hw _ (List.mem_of_getElem? (i := 13) rfl)) e0 (g := (mkF m 1 #[.val (.ref a0)] [(.ref a0)])) rfl (by rw [hml]; rfl) rfl (hb hby d2_1) (by decide) (W := 0) (by show 2 * 0 + _ ≤ _; exact Nat.le_of_eq rfl) (by decide)
  have K2 : ∀ t, Steps p.tables e below (T2.setTop (mkF m 4 #[.val (.ref a0)] [])) t → Steps p.tables e below G0 t := fun t kt => K1 t (st2 _ kt)
  obtain ⟨fs, hr, hrun, hended, hW, hsame⟩ := X2.leave (v := none) (fun _ => rfl)
  refine ⟨_, _, ?_, hrun, hended, _, _, rfl, ?_, ⟨_, rfl⟩, hW, hsame.mono (by decide) (by decide)⟩
  · rw [← hG0]
    refine K2 _ ?_
    exact X2.returnOut hx Bd.returns (hb hby d2_4) hr
  · show Q2 Z a0 h0 n0 _ T2.heap _
    rw [e2]
    exact ⟨rfl, N0, rfl⟩
theorem d1_0 : decode prog_70_method_1_code 0 = .ok (.aload_n 0, 1) := by decide +kernel
theorem d1_1 : decode prog_70_method_1_code 1 = .ok (.invokespecial 1, 3) := by decide +kernel
theorem d1_4 : decode prog_70_method_1_code 4 = .ok (.aload_n 0, 1) := by decide +kernel
theorem d1_5 : decode prog_70_method_1_code 5 = .ok (.lload_n 1, 1) := by decide +kernel
theorem d1_6 : decode prog_70_method_1_code 6 = .ok (.putfield 7, 3) := by decide +kernel
theorem d1_9 : decode prog_70_method_1_code 9 = .ok (.aload_n 0, 1) := by decide +kernel
theorem d1_10 : decode prog_70_method_1_code 10 = .ok (.lload_n 3, 1) := by decide +kernel
theorem d1_11 : decode prog_70_method_1_code 11 = .ok (.putfield 13, 3) := by decide +kernel
theorem d1_14 : decode prog_70_method_1_code 14 = .ok (.aload_n 0, 1) := by decide +kernel
theorem d1_15 : decode prog_70_method_1_code 15 = .ok (.lload 5, 2) := by decide +kernel
theorem d1_17 : decode prog_70_method_1_code 17 = .ok (.putfield 16, 3) := by decide +kernel
theorem d1_20 : decode prog_70_method_1_code 20 = .ok (.aload_n 0, 1) := by decide +kernel
theorem d1_21 : decode prog_70_method_1_code 21 = .ok (.lload 7, 2) := by decide +kernel
theorem d1_23 : decode prog_70_method_1_code 23 = .ok (.putfield 19, 3) := by decide +kernel
theorem d1_26 : decode prog_70_method_1_code 26 = .ok (.aload_n 0, 1) := by decide +kernel
theorem d1_27 : decode prog_70_method_1_code 27 = .ok (.lload 9, 2) := by decide +kernel
theorem d1_29 : decode prog_70_method_1_code 29 = .ok (.putfield 22, 3) := by decide +kernel
theorem d1_32 : decode prog_70_method_1_code 32 = .ok (.aload_n 0, 1) := by decide +kernel
theorem d1_33 : decode prog_70_method_1_code 33 = .ok (.lload 11, 2) := by decide +kernel
theorem d1_35 : decode prog_70_method_1_code 35 = .ok (.putfield 25, 3) := by decide +kernel
theorem d1_38 : decode prog_70_method_1_code 38 = .ok (.aload_n 0, 1) := by decide +kernel
theorem d1_39 : decode prog_70_method_1_code 39 = .ok (.lload 13, 2) := by decide +kernel
theorem d1_41 : decode prog_70_method_1_code 41 = .ok (.putfield 28, 3) := by decide +kernel
theorem d1_44 : decode prog_70_method_1_code 44 = .ok (.aload_n 0, 1) := by decide +kernel
theorem d1_45 : decode prog_70_method_1_code 45 = .ok (.lload 15, 2) := by decide +kernel
theorem d1_47 : decode prog_70_method_1_code 47 = .ok (.putfield 31, 3) := by decide +kernel
theorem d1_50 : decode prog_70_method_1_code 50 = .ok (.return_, 1) := by decide +kernel
theorem pn_com_example_horarium_horarium_engine_Score : plainName "com/example/horarium/horarium/engine/Score" = true := by first | (simp [plainName, overriddenIn]; done) | decide +kernel
theorem pd_PQV : parseMethodDescriptor "()V" = some ⟨[], none⟩ := by decide +kernel
theorem ef_rm1 (m : MethodId) (a0 : Addr) (x1 : Int64) (x2 : Int64) (x3 : Int64) (x4 : Int64) (x5 : Int64) (x6 : Int64) (x7 : Int64) (x8 : Int64) : entryFrame m #[(.ref a0), (.long x1), (.long x2), (.long x3), (.long x4), (.long x5), (.long x6), (.long x7), (.long x8)] 17 = (mkF m 0 #[.val (.ref a0), .val (.long x1), .second, .val (.long x2), .second, .val (.long x3), .second, .val (.long x4), .second, .val (.long x5), .second, .val (.long x6), .second, .val (.long x7), .second, .val (.long x8), .second] []) := by first | (simp [entryFrame, mkF, argsToLocals, Value.category]; done) | rfl
def Q1 (Z : State) (a0 : Addr) (x1 : Int64) (x2 : Int64) (x3 : Int64) (x4 : Int64) (x5 : Int64) (x6 : Int64) (x7 : Int64) (x8 : Int64) (u_lectures : Value) (u_conflicts : Value) (u_availability : Value) (u_roomOccupation : Value) (u_roomCapacity : Value) (u_minWorkingDays : Value) (u_curriculumCompactness : Value) (u_roomStability : Value) (h0 : Heap) (n0 : Nat) (v : Option Value) (h : Heap) (L : List Loc) : Prop := v = none ∧ Fr n0 L ∧ Keep h0 h [a0] ∧ Exa Z h a0 "com/example/horarium/horarium/engine/Score" ∧ Fld Z h a0 "com/example/horarium/horarium/engine/Score" "lectures" "J" (.long x1) ∧ Fld Z h a0 "com/example/horarium/horarium/engine/Score" "conflicts" "J" (.long x2) ∧ Fld Z h a0 "com/example/horarium/horarium/engine/Score" "availability" "J" (.long x3) ∧ Fld Z h a0 "com/example/horarium/horarium/engine/Score" "roomOccupation" "J" (.long x4) ∧ Fld Z h a0 "com/example/horarium/horarium/engine/Score" "roomCapacity" "J" (.long x5) ∧ Fld Z h a0 "com/example/horarium/horarium/engine/Score" "minWorkingDays" "J" (.long x6) ∧ Fld Z h a0 "com/example/horarium/horarium/engine/Score" "curriculumCompactness" "J" (.long x7) ∧ Fld Z h a0 "com/example/horarium/horarium/engine/Score" "roomStability" "J" (.long x8)
set_option maxRecDepth 65536 in
set_option maxHeartbeats 40000000 in
theorem rm1 (l : Launch) (Z : State) (aa : Array Value) (hw : ∀ d ∈ tables_1, d.before aa Z = true) (ws : List Jvm.Cond) (a0 : Addr) (x1 : Int64) (x2 : Int64) (x3 : Int64) (x4 : Int64) (x5 : Int64) (x6 : Int64) (x7 : Int64) (x8 : Int64) (u_lectures : Value) (u_conflicts : Value) (u_availability : Value) (u_roomOccupation : Value) (u_roomCapacity : Value) (u_minWorkingDays : Value) (u_curriculumCompactness : Value) (u_roomStability : Value) (h0 : Heap) (n0 : Nat) (Z0 : n0 ≤ h0.size) (gn : n0 ≤ a0) (E0 : Exa Z h0 a0 "com/example/horarium/horarium/engine/Score") (F_lectures : Fld Z h0 a0 "com/example/horarium/horarium/engine/Score" "lectures" "J" u_lectures) (F_conflicts : Fld Z h0 a0 "com/example/horarium/horarium/engine/Score" "conflicts" "J" u_conflicts) (F_availability : Fld Z h0 a0 "com/example/horarium/horarium/engine/Score" "availability" "J" u_availability) (F_roomOccupation : Fld Z h0 a0 "com/example/horarium/horarium/engine/Score" "roomOccupation" "J" u_roomOccupation) (F_roomCapacity : Fld Z h0 a0 "com/example/horarium/horarium/engine/Score" "roomCapacity" "J" u_roomCapacity) (F_minWorkingDays : Fld Z h0 a0 "com/example/horarium/horarium/engine/Score" "minWorkingDays" "J" u_minWorkingDays) (F_curriculumCompactness : Fld Z h0 a0 "com/example/horarium/horarium/engine/Score" "curriculumCompactness" "J" u_curriculumCompactness) (F_roomStability : Fld Z h0 a0 "com/example/horarium/horarium/engine/Score" "roomStability" "J" u_roomStability) :
    MetFree l (⟨"com/example/horarium/horarium/engine/Score", "<init>", "(JJJJJJJJ)V"⟩ : MethodName) (head1 (Jvm.Cond.code (⟨"com/example/horarium/horarium/engine/Score", "<init>", "(JJJJJJJJ)V"⟩ : MethodName) prog_70_method_1_code 17 none :: ws) ({ frames := 2, cells := 0, slots := 0, locals := 24 } : Room)) (fun a U => a = #[(.ref a0), (.long x1), (.long x2), (.long x3), (.long x4), (.long x5), (.long x6), (.long x7), (.long x8)] ∧ Z.Warmed39 U.vm ∧ U.heap = h0) (fun _ _ _ _ _ => True) (fun _ U o U' => ∃ v L, o = .returned v ∧ Q1 Z a0 x1 x2 x3 x4 x5 x6 x7 x8 u_lectures u_conflicts u_availability u_roomOccupation u_roomCapacity u_minWorkingDays u_curriculumCompactness u_roomStability h0 n0 v U'.heap L ∧ FrameEnd U o U' L ({ frames := 2, cells := 0, slots := 0, locals := 24 } : Room).cells ({ frames := 2, cells := 0, slots := 0, locals := 24 } : Room).slots) := by
  refine MetFree.of_bodySF (plainFor_of_name pn_com_example_horarium_horarium_engine_Score) hisR ?_
  intro p e s m args below meth c s₁ Bd hml0 hP hK
  obtain ⟨rfl, hZ, hh⟩ := hP
  have hx := Bd.exec
  have hby := Bd.bytes
  have hml : c.maxLocals = 17 := hml0
  have hown : s.vm.findClass "com/example/horarium/horarium/engine/Score" = some m.cls := findClass_of_methodNamed Bd.named
  have hnm := (name_of_methodNamed Bd.named Bd.method).1
  have X0 : Stand p l e ({ frames := 2, cells := 0, slots := 0, locals := 24 } : Room) s m #[(.ref a0), (.long x1), (.long x2), (.long x3), (.long x4), (.long x5), (.long x6), (.long x7), (.long x8)] below meth c s₁ [] 0 0 := Stand.of_body Bd
  have e0 : s₁.heap = h0 := by rw [← hh, Bd.state]; rfl
  have N0 := Fr.nil n0
  obtain ⟨G0, hG0⟩ : ∃ G, G = s₁.setTop (entryFrame m #[(.ref a0), (.long x1), (.long x2), (.long x3), (.long x4), (.long x5), (.long x6), (.long x7), (.long x8)] 17) := ⟨_, rfl⟩
  have K0 : ∀ t, Steps p.tables e below (s₁.setTop (mkF m 0 #[.val (.ref a0), .val (.long x1), .second, .val (.long x2), .second, .val (.long x3), .second, .val (.long x4), .second, .val (.long x5), .second, .val (.long x6), .second, .val (.long x7), .second, .val (.long x8), .second] [])) t → Steps p.tables e below G0 t := fun t k => by rw [hG0]; exact castTop (ef_rm1 m a0 x1 x2 x3 x4 x5 x6 x7 x8) k
  have KP1 := Keep.refl h0 [a0]
  have K2 : ∀ t, Steps p.tables e below (s₁.setTop (mkF m 1 #[.val (.ref a0), .val (.long x1), .second, .val (.long x2), .second, .val (.long x3), .second, .val (.long x4), .second, .val (.long x5), .second, .val (.long x6), .second, .val (.long x7), .second, .val (.long x8), .second] [(.ref a0)])) t → Steps p.tables e below G0 t := by
    intro t kt
    refine K0 t ?_
    refine XS.aloadN X0.here hx rfl (hb hby d1_0) rfl rfl ?_
    show Steps p.tables e below (s₁.setTop (mkF m 1 #[.val (.ref a0), .val (.long x1), .second, .val (.long x2), .second, .val (.long x3), .second, .val (.long x4), .second, .val (.long x5), .second, .val (.long x6), .second, .val (.long x7), .second, .val (.long x8), .second] [(.ref a0)])) _
    exact kt
  obtain ⟨_, _, ⟨T3, L3, k3, n3⟩, -, X3, ⟨Lc3, hQ3, l3, y3, z3⟩, st3⟩ := X0.specialBack hx (y := (⟨"java/lang/Record", "<init>", "()V"⟩ : MethodName)) rfl hown (mvT hZ (hw _ (List.mem_of_getElem? (i := 6) rfl))) (mvT hZ (hw _ (List.mem_of_getElem? (i := 7) rfl))) (mvT hZ (hw _ (List.mem_of_getElem? (i := 10) rfl))) (by decide) (backOf (W := 0) (rm2 l Z aa hw [] (a0)  h0 n0 Z0 ) hZ (hw _ (List.mem_of_getElem? (i := 10) rfl)) (hw _ (List.mem_of_getElem? (i := 9) rfl)) (by decide) (by decide)) (g := (mkF m 1 #[.val (.ref a0), .val (.long x1), .second, .val (.long x2), .second, .val (.long x3), .second, .val (.long x4), .second, .val (.long x5), .second, .val (.long x6), .second, .val (.long x7), .second, .val (.long x8), .second] [(.ref a0)])) rfl (by rw [hml]; rfl) (Steps.refl _) (a := a0) (argsL := []) (rest := []) (lenOf pd_PQV rfl) rfl (by show 2 * 0 + _ ≤ _; exact Nat.le_of_eq rfl) (hb hby d1_1) (fun _ _ => ⟨rfl, e0, (by decide : 0 + 0 ≤ _), (by decide : 0 + 0 ≤ _)⟩)
  dsimp only [Pt.U, Pt.locs, Pt.cells, Pt.slots] at X3 l3 y3 z3 st3 hQ3
  subst l3 y3 z3
  obtain ⟨rfl, N3q, e3⟩ := hQ3
  have N3 := Fr.app N0 N3q
  have K3 : ∀ t, Steps p.tables e below (T3.setTop (mkF m 4 #[.val (.ref a0), .val (.long x1), .second, .val (.long x2), .second, .val (.long x3), .second, .val (.long x4), .second, .val (.long x5), .second, .val (.long x6), .second, .val (.long x7), .second, .val (.long x8), .second] [])) t → Steps p.tables e below G0 t := fun t kt => K2 t (st3.trans kt)
  have K4 : ∀ t, Steps p.tables e below (T3.setTop (mkF m 6 #[.val (.ref a0), .val (.long x1), .second, .val (.long x2), .second, .val (.long x3), .second, .val (.long x4), .second, .val (.long x5), .second, .val (.long x6), .second, .val (.long x7), .second, .val (.long x8), .second] [(.long x1), (.ref a0)])) t → Steps p.tables e below G0 t := by
    intro t kt
    refine K3 t ?_
    refine XS.aloadN X3.here hx rfl (hb hby d1_4) rfl rfl ?_
    show Steps p.tables e below (T3.setTop (mkF m 5 #[.val (.ref a0), .val (.long x1), .second, .val (.long x2), .second, .val (.long x3), .second, .val (.long x4), .second, .val (.long x5), .second, .val (.long x6), .second, .val (.long x7), .second, .val (.long x8), .second] [(.ref a0)])) _
    refine XS.lloadN X3.here hx rfl (hb hby d1_5) rfl ?_
    show Steps p.tables e below (T3.setTop (mkF m 6 #[.val (.ref a0), .val (.long x1), .second, .val (.long x2), .second, .val (.long x3), .second, .val (.long x4), .second, .val (.long x5), .second, .val (.long x6), .second, .val (.long x7), .second, .val (.long x8), .second] [(.long x1), (.ref a0)])) _
    exact kt
  obtain ⟨T5, h5, X5, e5, W5, st5⟩ := putF X3 hx hZ hown (host := "") (Or.inl (hw _ (List.mem_of_getElem? (i := 14) rfl))) Via.refl e3 F_lectures E0 (Or.inr ⟨(hw _ (List.mem_of_getElem? (i := 15) rfl)), rfl, hnm⟩) (hw _ (List.mem_of_getElem? (i := 1) rfl)) (ty := .long) (by decide) rfl rfl (g := (mkF m 6 #[.val (.ref a0), .val (.long x1), .second, .val (.long x2), .second, .val (.long x3), .second, .val (.long x4), .second, .val (.long x5), .second, .val (.long x6), .second, .val (.long x7), .second, .val (.long x8), .second] [(.long x1), (.ref a0)])) rfl rfl (hb hby d1_6)
  have K5 : ∀ t, Steps p.tables e below (T5.setTop (mkF m 9 #[.val (.ref a0), .val (.long x1), .second, .val (.long x2), .second, .val (.long x3), .second, .val (.long x4), .second, .val (.long x5), .second, .val (.long x6), .second, .val (.long x7), .second, .val (.long x8), .second] [])) t → Steps p.tables e below G0 t := fun t kt => K4 t (st5 _ kt)
  have Fw5 := (F_lectures).same W5
  have N5 := Fr.snoc X5 N3 gn
  have Z5 : n0 ≤ h5.size := Nat.le_trans Z0 (Keep.of_wr W5).1
  have KP5 := KP1.wr W5 (Or.inl (List.mem_of_getElem? (i := 0) rfl))
  have K6 : ∀ t, Steps p.tables e below (T5.setTop (mkF m 11 #[.val (.ref a0), .val (.long x1), .second, .val (.long x2), .second, .val (.long x3), .second, .val (.long x4), .second, .val (.long x5), .second, .val (.long x6), .second, .val (.long x7), .second, .val (.long x8), .second] [(.long x2), (.ref a0)])) t → Steps p.tables e below G0 t := by
    intro t kt
    refine K5 t ?_
    refine XS.aloadN X5.here hx rfl (hb hby d1_9) rfl rfl ?_
    show Steps p.tables e below (T5.setTop (mkF m 10 #[.val (.ref a0), .val (.long x1), .second, .val (.long x2), .second, .val (.long x3), .second, .val (.long x4), .second, .val (.long x5), .second, .val (.long x6), .second, .val (.long x7), .second, .val (.long x8), .second] [(.ref a0)])) _
    refine XS.lloadN X5.here hx rfl (hb hby d1_10) rfl ?_
    show Steps p.tables e below (T5.setTop (mkF m 11 #[.val (.ref a0), .val (.long x1), .second, .val (.long x2), .second, .val (.long x3), .second, .val (.long x4), .second, .val (.long x5), .second, .val (.long x6), .second, .val (.long x7), .second, .val (.long x8), .second] [(.long x2), (.ref a0)])) _
    exact kt
  have f7 := (F_conflicts.other W5 (Or.inr (slot_ne (Or.inr (hw _ (List.mem_of_getElem? (i := 17) rfl))) (Or.inr (hw _ (List.mem_of_getElem? (i := 15) rfl))) (by decide) (t := .long) (t' := .long) (by decide) (by decide))))
  have f8 := (E0.wr W5)
  obtain ⟨T9, h9, X9, e9, W9, st9⟩ := putF X5 hx hZ hown (host := "") (Or.inl (hw _ (List.mem_of_getElem? (i := 16) rfl))) Via.refl e5 f7 f8 (Or.inr ⟨(hw _ (List.mem_of_getElem? (i := 17) rfl)), rfl, hnm⟩) (hw _ (List.mem_of_getElem? (i := 1) rfl)) (ty := .long) (by decide) rfl rfl (g := (mkF m 11 #[.val (.ref a0), .val (.long x1), .second, .val (.long x2), .second, .val (.long x3), .second, .val (.long x4), .second, .val (.long x5), .second, .val (.long x6), .second, .val (.long x7), .second, .val (.long x8), .second] [(.long x2), (.ref a0)])) rfl rfl (hb hby d1_11)
  have K9 : ∀ t, Steps p.tables e below (T9.setTop (mkF m 14 #[.val (.ref a0), .val (.long x1), .second, .val (.long x2), .second, .val (.long x3), .second, .val (.long x4), .second, .val (.long x5), .second, .val (.long x6), .second, .val (.long x7), .second, .val (.long x8), .second] [])) t → Steps p.tables e below G0 t := fun t kt => K6 t (st9 _ kt)
  have Fw9 := (f7).same W9
  have N9 := Fr.snoc X9 N5 gn
  have Z9 : n0 ≤ h9.size := Nat.le_trans Z5 (Keep.of_wr W9).1
  have KP9 := KP5.wr W9 (Or.inl (List.mem_of_getElem? (i := 0) rfl))
  have K10 : ∀ t, Steps p.tables e below (T9.setTop (mkF m 17 #[.val (.ref a0), .val (.long x1), .second, .val (.long x2), .second, .val (.long x3), .second, .val (.long x4), .second, .val (.long x5), .second, .val (.long x6), .second, .val (.long x7), .second, .val (.long x8), .second] [(.long x3), (.ref a0)])) t → Steps p.tables e below G0 t := by
    intro t kt
    refine K9 t ?_
    refine XS.aloadN X9.here hx rfl (hb hby d1_14) rfl rfl ?_
    show Steps p.tables e below (T9.setTop (mkF m 15 #[.val (.ref a0), .val (.long x1), .second, .val (.long x2), .second, .val (.long x3), .second, .val (.long x4), .second, .val (.long x5), .second, .val (.long x6), .second, .val (.long x7), .second, .val (.long x8), .second] [(.ref a0)])) _
    refine XS.lload X9.here hx rfl (hb hby d1_15) rfl ?_
    show Steps p.tables e below (T9.setTop (mkF m 17 #[.val (.ref a0), .val (.long x1), .second, .val (.long x2), .second, .val (.long x3), .second, .val (.long x4), .second, .val (.long x5), .second, .val (.long x6), .second, .val (.long x7), .second, .val (.long x8), .second] [(.long x3), (.ref a0)])) _
    exact kt
  have f11 := ((F_availability.other W5 (Or.inr (slot_ne (Or.inr (hw _ (List.mem_of_getElem? (i := 19) rfl))) (Or.inr (hw _ (List.mem_of_getElem? (i := 15) rfl))) (by decide) (t := .long) (t' := .long) (by decide) (by decide)))).other W9 (Or.inr (slot_ne (Or.inr (hw _ (List.mem_of_getElem? (i := 19) rfl))) (Or.inr (hw _ (List.mem_of_getElem? (i := 17) rfl))) (by decide) (t := .long) (t' := .long) (by decide) (by decide))))
  have f12 := (f8.wr W9)
  obtain ⟨T13, h13, X13, e13, W13, st13⟩ := putF X9 hx hZ hown (host := "") (Or.inl (hw _ (List.mem_of_getElem? (i := 18) rfl))) Via.refl e9 f11 f12 (Or.inr ⟨(hw _ (List.mem_of_getElem? (i := 19) rfl)), rfl, hnm⟩) (hw _ (List.mem_of_getElem? (i := 1) rfl)) (ty := .long) (by decide) rfl rfl (g := (mkF m 17 #[.val (.ref a0), .val (.long x1), .second, .val (.long x2), .second, .val (.long x3), .second, .val (.long x4), .second, .val (.long x5), .second, .val (.long x6), .second, .val (.long x7), .second, .val (.long x8), .second] [(.long x3), (.ref a0)])) rfl rfl (hb hby d1_17)
  have K13 : ∀ t, Steps p.tables e below (T13.setTop (mkF m 20 #[.val (.ref a0), .val (.long x1), .second, .val (.long x2), .second, .val (.long x3), .second, .val (.long x4), .second, .val (.long x5), .second, .val (.long x6), .second, .val (.long x7), .second, .val (.long x8), .second] [])) t → Steps p.tables e below G0 t := fun t kt => K10 t (st13 _ kt)
  have Fw13 := (f11).same W13
  have N13 := Fr.snoc X13 N9 gn
  have Z13 : n0 ≤ h13.size := Nat.le_trans Z9 (Keep.of_wr W13).1
  have KP13 := KP9.wr W13 (Or.inl (List.mem_of_getElem? (i := 0) rfl))
  have K14 : ∀ t, Steps p.tables e below (T13.setTop (mkF m 23 #[.val (.ref a0), .val (.long x1), .second, .val (.long x2), .second, .val (.long x3), .second, .val (.long x4), .second, .val (.long x5), .second, .val (.long x6), .second, .val (.long x7), .second, .val (.long x8), .second] [(.long x4), (.ref a0)])) t → Steps p.tables e below G0 t := by
    intro t kt
    refine K13 t ?_
    refine XS.aloadN X13.here hx rfl (hb hby d1_20) rfl rfl ?_
    show Steps p.tables e below (T13.setTop (mkF m 21 #[.val (.ref a0), .val (.long x1), .second, .val (.long x2), .second, .val (.long x3), .second, .val (.long x4), .second, .val (.long x5), .second, .val (.long x6), .second, .val (.long x7), .second, .val (.long x8), .second] [(.ref a0)])) _
    refine XS.lload X13.here hx rfl (hb hby d1_21) rfl ?_
    show Steps p.tables e below (T13.setTop (mkF m 23 #[.val (.ref a0), .val (.long x1), .second, .val (.long x2), .second, .val (.long x3), .second, .val (.long x4), .second, .val (.long x5), .second, .val (.long x6), .second, .val (.long x7), .second, .val (.long x8), .second] [(.long x4), (.ref a0)])) _
    exact kt
  have f15 := (((F_roomOccupation.other W5 (Or.inr (slot_ne (Or.inr (hw _ (List.mem_of_getElem? (i := 21) rfl))) (Or.inr (hw _ (List.mem_of_getElem? (i := 15) rfl))) (by decide) (t := .long) (t' := .long) (by decide) (by decide)))).other W9 (Or.inr (slot_ne (Or.inr (hw _ (List.mem_of_getElem? (i := 21) rfl))) (Or.inr (hw _ (List.mem_of_getElem? (i := 17) rfl))) (by decide) (t := .long) (t' := .long) (by decide) (by decide)))).other W13 (Or.inr (slot_ne (Or.inr (hw _ (List.mem_of_getElem? (i := 21) rfl))) (Or.inr (hw _ (List.mem_of_getElem? (i := 19) rfl))) (by decide) (t := .long) (t' := .long) (by decide) (by decide))))
  have f16 := (f12.wr W13)
  obtain ⟨T17, h17, X17, e17, W17, st17⟩ := putF X13 hx hZ hown (host := "") (Or.inl (hw _ (List.mem_of_getElem? (i := 20) rfl))) Via.refl e13 f15 f16 (Or.inr ⟨(hw _ (List.mem_of_getElem? (i := 21) rfl)), rfl, hnm⟩) (hw _ (List.mem_of_getElem? (i := 1) rfl)) (ty := .long) (by decide) rfl rfl (g := (mkF m 23 #[.val (.ref a0), .val (.long x1), .second, .val (.long x2), .second, .val (.long x3), .second, .val (.long x4), .second, .val (.long x5), .second, .val (.long x6), .second, .val (.long x7), .second, .val (.long x8), .second] [(.long x4), (.ref a0)])) rfl rfl (hb hby d1_23)
  have K17 : ∀ t, Steps p.tables e below (T17.setTop (mkF m 26 #[.val (.ref a0), .val (.long x1), .second, .val (.long x2), .second, .val (.long x3), .second, .val (.long x4), .second, .val (.long x5), .second, .val (.long x6), .second, .val (.long x7), .second, .val (.long x8), .second] [])) t → Steps p.tables e below G0 t := fun t kt => K14 t (st17 _ kt)
  have Fw17 := (f15).same W17
  have N17 := Fr.snoc X17 N13 gn
  have Z17 : n0 ≤ h17.size := Nat.le_trans Z13 (Keep.of_wr W17).1
  have KP17 := KP13.wr W17 (Or.inl (List.mem_of_getElem? (i := 0) rfl))
  have K18 : ∀ t, Steps p.tables e below (T17.setTop (mkF m 29 #[.val (.ref a0), .val (.long x1), .second, .val (.long x2), .second, .val (.long x3), .second, .val (.long x4), .second, .val (.long x5), .second, .val (.long x6), .second, .val (.long x7), .second, .val (.long x8), .second] [(.long x5), (.ref a0)])) t → Steps p.tables e below G0 t := by
    intro t kt
    refine K17 t ?_
    refine XS.aloadN X17.here hx rfl (hb hby d1_26) rfl rfl ?_
    show Steps p.tables e below (T17.setTop (mkF m 27 #[.val (.ref a0), .val (.long x1), .second, .val (.long x2), .second, .val (.long x3), .second, .val (.long x4), .second, .val (.long x5), .second, .val (.long x6), .second, .val (.long x7), .second, .val (.long x8), .second] [(.ref a0)])) _
    refine XS.lload X17.here hx rfl (hb hby d1_27) rfl ?_
    show Steps p.tables e below (T17.setTop (mkF m 29 #[.val (.ref a0), .val (.long x1), .second, .val (.long x2), .second, .val (.long x3), .second, .val (.long x4), .second, .val (.long x5), .second, .val (.long x6), .second, .val (.long x7), .second, .val (.long x8), .second] [(.long x5), (.ref a0)])) _
    exact kt
  have f19 := ((((F_roomCapacity.other W5 (Or.inr (slot_ne (Or.inr (hw _ (List.mem_of_getElem? (i := 23) rfl))) (Or.inr (hw _ (List.mem_of_getElem? (i := 15) rfl))) (by decide) (t := .long) (t' := .long) (by decide) (by decide)))).other W9 (Or.inr (slot_ne (Or.inr (hw _ (List.mem_of_getElem? (i := 23) rfl))) (Or.inr (hw _ (List.mem_of_getElem? (i := 17) rfl))) (by decide) (t := .long) (t' := .long) (by decide) (by decide)))).other W13 (Or.inr (slot_ne (Or.inr (hw _ (List.mem_of_getElem? (i := 23) rfl))) (Or.inr (hw _ (List.mem_of_getElem? (i := 19) rfl))) (by decide) (t := .long) (t' := .long) (by decide) (by decide)))).other W17 (Or.inr (slot_ne (Or.inr (hw _ (List.mem_of_getElem? (i := 23) rfl))) (Or.inr (hw _ (List.mem_of_getElem? (i := 21) rfl))) (by decide) (t := .long) (t' := .long) (by decide) (by decide))))
  have f20 := (f16.wr W17)
  obtain ⟨T21, h21, X21, e21, W21, st21⟩ := putF X17 hx hZ hown (host := "") (Or.inl (hw _ (List.mem_of_getElem? (i := 22) rfl))) Via.refl e17 f19 f20 (Or.inr ⟨(hw _ (List.mem_of_getElem? (i := 23) rfl)), rfl, hnm⟩) (hw _ (List.mem_of_getElem? (i := 1) rfl)) (ty := .long) (by decide) rfl rfl (g := (mkF m 29 #[.val (.ref a0), .val (.long x1), .second, .val (.long x2), .second, .val (.long x3), .second, .val (.long x4), .second, .val (.long x5), .second, .val (.long x6), .second, .val (.long x7), .second, .val (.long x8), .second] [(.long x5), (.ref a0)])) rfl rfl (hb hby d1_29)
  have K21 : ∀ t, Steps p.tables e below (T21.setTop (mkF m 32 #[.val (.ref a0), .val (.long x1), .second, .val (.long x2), .second, .val (.long x3), .second, .val (.long x4), .second, .val (.long x5), .second, .val (.long x6), .second, .val (.long x7), .second, .val (.long x8), .second] [])) t → Steps p.tables e below G0 t := fun t kt => K18 t (st21 _ kt)
  have Fw21 := (f19).same W21
  have N21 := Fr.snoc X21 N17 gn
  have Z21 : n0 ≤ h21.size := Nat.le_trans Z17 (Keep.of_wr W21).1
  have KP21 := KP17.wr W21 (Or.inl (List.mem_of_getElem? (i := 0) rfl))
  have K22 : ∀ t, Steps p.tables e below (T21.setTop (mkF m 35 #[.val (.ref a0), .val (.long x1), .second, .val (.long x2), .second, .val (.long x3), .second, .val (.long x4), .second, .val (.long x5), .second, .val (.long x6), .second, .val (.long x7), .second, .val (.long x8), .second] [(.long x6), (.ref a0)])) t → Steps p.tables e below G0 t := by
    intro t kt
    refine K21 t ?_
    refine XS.aloadN X21.here hx rfl (hb hby d1_32) rfl rfl ?_
    show Steps p.tables e below (T21.setTop (mkF m 33 #[.val (.ref a0), .val (.long x1), .second, .val (.long x2), .second, .val (.long x3), .second, .val (.long x4), .second, .val (.long x5), .second, .val (.long x6), .second, .val (.long x7), .second, .val (.long x8), .second] [(.ref a0)])) _
    refine XS.lload X21.here hx rfl (hb hby d1_33) rfl ?_
    show Steps p.tables e below (T21.setTop (mkF m 35 #[.val (.ref a0), .val (.long x1), .second, .val (.long x2), .second, .val (.long x3), .second, .val (.long x4), .second, .val (.long x5), .second, .val (.long x6), .second, .val (.long x7), .second, .val (.long x8), .second] [(.long x6), (.ref a0)])) _
    exact kt
  have f23 := (((((F_minWorkingDays.other W5 (Or.inr (slot_ne (Or.inr (hw _ (List.mem_of_getElem? (i := 25) rfl))) (Or.inr (hw _ (List.mem_of_getElem? (i := 15) rfl))) (by decide) (t := .long) (t' := .long) (by decide) (by decide)))).other W9 (Or.inr (slot_ne (Or.inr (hw _ (List.mem_of_getElem? (i := 25) rfl))) (Or.inr (hw _ (List.mem_of_getElem? (i := 17) rfl))) (by decide) (t := .long) (t' := .long) (by decide) (by decide)))).other W13 (Or.inr (slot_ne (Or.inr (hw _ (List.mem_of_getElem? (i := 25) rfl))) (Or.inr (hw _ (List.mem_of_getElem? (i := 19) rfl))) (by decide) (t := .long) (t' := .long) (by decide) (by decide)))).other W17 (Or.inr (slot_ne (Or.inr (hw _ (List.mem_of_getElem? (i := 25) rfl))) (Or.inr (hw _ (List.mem_of_getElem? (i := 21) rfl))) (by decide) (t := .long) (t' := .long) (by decide) (by decide)))).other W21 (Or.inr (slot_ne (Or.inr (hw _ (List.mem_of_getElem? (i := 25) rfl))) (Or.inr (hw _ (List.mem_of_getElem? (i := 23) rfl))) (by decide) (t := .long) (t' := .long) (by decide) (by decide))))
  have f24 := (f20.wr W21)
  obtain ⟨T25, h25, X25, e25, W25, st25⟩ := putF X21 hx hZ hown (host := "") (Or.inl (hw _ (List.mem_of_getElem? (i := 24) rfl))) Via.refl e21 f23 f24 (Or.inr ⟨(hw _ (List.mem_of_getElem? (i := 25) rfl)), rfl, hnm⟩) (hw _ (List.mem_of_getElem? (i := 1) rfl)) (ty := .long) (by decide) rfl rfl (g := (mkF m 35 #[.val (.ref a0), .val (.long x1), .second, .val (.long x2), .second, .val (.long x3), .second, .val (.long x4), .second, .val (.long x5), .second, .val (.long x6), .second, .val (.long x7), .second, .val (.long x8), .second] [(.long x6), (.ref a0)])) rfl rfl (hb hby d1_35)
  have K25 : ∀ t, Steps p.tables e below (T25.setTop (mkF m 38 #[.val (.ref a0), .val (.long x1), .second, .val (.long x2), .second, .val (.long x3), .second, .val (.long x4), .second, .val (.long x5), .second, .val (.long x6), .second, .val (.long x7), .second, .val (.long x8), .second] [])) t → Steps p.tables e below G0 t := fun t kt => K22 t (st25 _ kt)
  have Fw25 := (f23).same W25
  have N25 := Fr.snoc X25 N21 gn
  have Z25 : n0 ≤ h25.size := Nat.le_trans Z21 (Keep.of_wr W25).1
  have KP25 := KP21.wr W25 (Or.inl (List.mem_of_getElem? (i := 0) rfl))
  have K26 : ∀ t, Steps p.tables e below (T25.setTop (mkF m 41 #[.val (.ref a0), .val (.long x1), .second, .val (.long x2), .second, .val (.long x3), .second, .val (.long x4), .second, .val (.long x5), .second, .val (.long x6), .second, .val (.long x7), .second, .val (.long x8), .second] [(.long x7), (.ref a0)])) t → Steps p.tables e below G0 t := by
    intro t kt
    refine K25 t ?_
    refine XS.aloadN X25.here hx rfl (hb hby d1_38) rfl rfl ?_
    show Steps p.tables e below (T25.setTop (mkF m 39 #[.val (.ref a0), .val (.long x1), .second, .val (.long x2), .second, .val (.long x3), .second, .val (.long x4), .second, .val (.long x5), .second, .val (.long x6), .second, .val (.long x7), .second, .val (.long x8), .second] [(.ref a0)])) _
    refine XS.lload X25.here hx rfl (hb hby d1_39) rfl ?_
    show Steps p.tables e below (T25.setTop (mkF m 41 #[.val (.ref a0), .val (.long x1), .second, .val (.long x2), .second, .val (.long x3), .second, .val (.long x4), .second, .val (.long x5), .second, .val (.long x6), .second, .val (.long x7), .second, .val (.long x8), .second] [(.long x7), (.ref a0)])) _
    exact kt
  have f27 := ((((((F_curriculumCompactness.other W5 (Or.inr (slot_ne (Or.inr (hw _ (List.mem_of_getElem? (i := 27) rfl))) (Or.inr (hw _ (List.mem_of_getElem? (i := 15) rfl))) (by decide) (t := .long) (t' := .long) (by decide) (by decide)))).other W9 (Or.inr (slot_ne (Or.inr (hw _ (List.mem_of_getElem? (i := 27) rfl))) (Or.inr (hw _ (List.mem_of_getElem? (i := 17) rfl))) (by decide) (t := .long) (t' := .long) (by decide) (by decide)))).other W13 (Or.inr (slot_ne (Or.inr (hw _ (List.mem_of_getElem? (i := 27) rfl))) (Or.inr (hw _ (List.mem_of_getElem? (i := 19) rfl))) (by decide) (t := .long) (t' := .long) (by decide) (by decide)))).other W17 (Or.inr (slot_ne (Or.inr (hw _ (List.mem_of_getElem? (i := 27) rfl))) (Or.inr (hw _ (List.mem_of_getElem? (i := 21) rfl))) (by decide) (t := .long) (t' := .long) (by decide) (by decide)))).other W21 (Or.inr (slot_ne (Or.inr (hw _ (List.mem_of_getElem? (i := 27) rfl))) (Or.inr (hw _ (List.mem_of_getElem? (i := 23) rfl))) (by decide) (t := .long) (t' := .long) (by decide) (by decide)))).other W25 (Or.inr (slot_ne (Or.inr (hw _ (List.mem_of_getElem? (i := 27) rfl))) (Or.inr (hw _ (List.mem_of_getElem? (i := 25) rfl))) (by decide) (t := .long) (t' := .long) (by decide) (by decide))))
  have f28 := (f24.wr W25)
  obtain ⟨T29, h29, X29, e29, W29, st29⟩ := putF X25 hx hZ hown (host := "") (Or.inl (hw _ (List.mem_of_getElem? (i := 26) rfl))) Via.refl e25 f27 f28 (Or.inr ⟨(hw _ (List.mem_of_getElem? (i := 27) rfl)), rfl, hnm⟩) (hw _ (List.mem_of_getElem? (i := 1) rfl)) (ty := .long) (by decide) rfl rfl (g := (mkF m 41 #[.val (.ref a0), .val (.long x1), .second, .val (.long x2), .second, .val (.long x3), .second, .val (.long x4), .second, .val (.long x5), .second, .val (.long x6), .second, .val (.long x7), .second, .val (.long x8), .second] [(.long x7), (.ref a0)])) rfl rfl (hb hby d1_41)
  have K29 : ∀ t, Steps p.tables e below (T29.setTop (mkF m 44 #[.val (.ref a0), .val (.long x1), .second, .val (.long x2), .second, .val (.long x3), .second, .val (.long x4), .second, .val (.long x5), .second, .val (.long x6), .second, .val (.long x7), .second, .val (.long x8), .second] [])) t → Steps p.tables e below G0 t := fun t kt => K26 t (st29 _ kt)
  have Fw29 := (f27).same W29
  have N29 := Fr.snoc X29 N25 gn
  have Z29 : n0 ≤ h29.size := Nat.le_trans Z25 (Keep.of_wr W29).1
  have KP29 := KP25.wr W29 (Or.inl (List.mem_of_getElem? (i := 0) rfl))
  have K30 : ∀ t, Steps p.tables e below (T29.setTop (mkF m 47 #[.val (.ref a0), .val (.long x1), .second, .val (.long x2), .second, .val (.long x3), .second, .val (.long x4), .second, .val (.long x5), .second, .val (.long x6), .second, .val (.long x7), .second, .val (.long x8), .second] [(.long x8), (.ref a0)])) t → Steps p.tables e below G0 t := by
    intro t kt
    refine K29 t ?_
    refine XS.aloadN X29.here hx rfl (hb hby d1_44) rfl rfl ?_
    show Steps p.tables e below (T29.setTop (mkF m 45 #[.val (.ref a0), .val (.long x1), .second, .val (.long x2), .second, .val (.long x3), .second, .val (.long x4), .second, .val (.long x5), .second, .val (.long x6), .second, .val (.long x7), .second, .val (.long x8), .second] [(.ref a0)])) _
    refine XS.lload X29.here hx rfl (hb hby d1_45) rfl ?_
    show Steps p.tables e below (T29.setTop (mkF m 47 #[.val (.ref a0), .val (.long x1), .second, .val (.long x2), .second, .val (.long x3), .second, .val (.long x4), .second, .val (.long x5), .second, .val (.long x6), .second, .val (.long x7), .second, .val (.long x8), .second] [(.long x8), (.ref a0)])) _
    exact kt
  have f31 := (((((((F_roomStability.other W5 (Or.inr (slot_ne (Or.inr (hw _ (List.mem_of_getElem? (i := 29) rfl))) (Or.inr (hw _ (List.mem_of_getElem? (i := 15) rfl))) (by decide) (t := .long) (t' := .long) (by decide) (by decide)))).other W9 (Or.inr (slot_ne (Or.inr (hw _ (List.mem_of_getElem? (i := 29) rfl))) (Or.inr (hw _ (List.mem_of_getElem? (i := 17) rfl))) (by decide) (t := .long) (t' := .long) (by decide) (by decide)))).other W13 (Or.inr (slot_ne (Or.inr (hw _ (List.mem_of_getElem? (i := 29) rfl))) (Or.inr (hw _ (List.mem_of_getElem? (i := 19) rfl))) (by decide) (t := .long) (t' := .long) (by decide) (by decide)))).other W17 (Or.inr (slot_ne (Or.inr (hw _ (List.mem_of_getElem? (i := 29) rfl))) (Or.inr (hw _ (List.mem_of_getElem? (i := 21) rfl))) (by decide) (t := .long) (t' := .long) (by decide) (by decide)))).other W21 (Or.inr (slot_ne (Or.inr (hw _ (List.mem_of_getElem? (i := 29) rfl))) (Or.inr (hw _ (List.mem_of_getElem? (i := 23) rfl))) (by decide) (t := .long) (t' := .long) (by decide) (by decide)))).other W25 (Or.inr (slot_ne (Or.inr (hw _ (List.mem_of_getElem? (i := 29) rfl))) (Or.inr (hw _ (List.mem_of_getElem? (i := 25) rfl))) (by decide) (t := .long) (t' := .long) (by decide) (by decide)))).other W29 (Or.inr (slot_ne (Or.inr (hw _ (List.mem_of_getElem? (i := 29) rfl))) (Or.inr (hw _ (List.mem_of_getElem? (i := 27) rfl))) (by decide) (t := .long) (t' := .long) (by decide) (by decide))))
  have f32 := (f28.wr W29)
  obtain ⟨T33, h33, X33, e33, W33, st33⟩ := putF X29 hx hZ hown (host := "") (Or.inl (hw _ (List.mem_of_getElem? (i := 28) rfl))) Via.refl e29 f31 f32 (Or.inr ⟨(hw _ (List.mem_of_getElem? (i := 29) rfl)), rfl, hnm⟩) (hw _ (List.mem_of_getElem? (i := 1) rfl)) (ty := .long) (by decide) rfl rfl (g := (mkF m 47 #[.val (.ref a0), .val (.long x1), .second, .val (.long x2), .second, .val (.long x3), .second, .val (.long x4), .second, .val (.long x5), .second, .val (.long x6), .second, .val (.long x7), .second, .val (.long x8), .second] [(.long x8), (.ref a0)])) rfl rfl (hb hby d1_47)
  have K33 : ∀ t, Steps p.tables e below (T33.setTop (mkF m 50 #[.val (.ref a0), .val (.long x1), .second, .val (.long x2), .second, .val (.long x3), .second, .val (.long x4), .second, .val (.long x5), .second, .val (.long x6), .second, .val (.long x7), .second, .val (.long x8), .second] [])) t → Steps p.tables e below G0 t := fun t kt => K30 t (st33 _ kt)
  have Fw33 := (f31).same W33
  have N33 := Fr.snoc X33 N29 gn
  have Z33 : n0 ≤ h33.size := Nat.le_trans Z29 (Keep.of_wr W33).1
  have KP33 := KP29.wr W33 (Or.inl (List.mem_of_getElem? (i := 0) rfl))
  have f34 := (f32.wr W33)
  have f35 := (((((((Fw5.other W9 (Or.inr (slot_ne (Or.inr (hw _ (List.mem_of_getElem? (i := 15) rfl))) (Or.inr (hw _ (List.mem_of_getElem? (i := 17) rfl))) (by decide) (t := .long) (t' := .long) (by decide) (by decide)))).other W13 (Or.inr (slot_ne (Or.inr (hw _ (List.mem_of_getElem? (i := 15) rfl))) (Or.inr (hw _ (List.mem_of_getElem? (i := 19) rfl))) (by decide) (t := .long) (t' := .long) (by decide) (by decide)))).other W17 (Or.inr (slot_ne (Or.inr (hw _ (List.mem_of_getElem? (i := 15) rfl))) (Or.inr (hw _ (List.mem_of_getElem? (i := 21) rfl))) (by decide) (t := .long) (t' := .long) (by decide) (by decide)))).other W21 (Or.inr (slot_ne (Or.inr (hw _ (List.mem_of_getElem? (i := 15) rfl))) (Or.inr (hw _ (List.mem_of_getElem? (i := 23) rfl))) (by decide) (t := .long) (t' := .long) (by decide) (by decide)))).other W25 (Or.inr (slot_ne (Or.inr (hw _ (List.mem_of_getElem? (i := 15) rfl))) (Or.inr (hw _ (List.mem_of_getElem? (i := 25) rfl))) (by decide) (t := .long) (t' := .long) (by decide) (by decide)))).other W29 (Or.inr (slot_ne (Or.inr (hw _ (List.mem_of_getElem? (i := 15) rfl))) (Or.inr (hw _ (List.mem_of_getElem? (i := 27) rfl))) (by decide) (t := .long) (t' := .long) (by decide) (by decide)))).other W33 (Or.inr (slot_ne (Or.inr (hw _ (List.mem_of_getElem? (i := 15) rfl))) (Or.inr (hw _ (List.mem_of_getElem? (i := 29) rfl))) (by decide) (t := .long) (t' := .long) (by decide) (by decide))))
  have f36 := ((((((Fw9.other W13 (Or.inr (slot_ne (Or.inr (hw _ (List.mem_of_getElem? (i := 17) rfl))) (Or.inr (hw _ (List.mem_of_getElem? (i := 19) rfl))) (by decide) (t := .long) (t' := .long) (by decide) (by decide)))).other W17 (Or.inr (slot_ne (Or.inr (hw _ (List.mem_of_getElem? (i := 17) rfl))) (Or.inr (hw _ (List.mem_of_getElem? (i := 21) rfl))) (by decide) (t := .long) (t' := .long) (by decide) (by decide)))).other W21 (Or.inr (slot_ne (Or.inr (hw _ (List.mem_of_getElem? (i := 17) rfl))) (Or.inr (hw _ (List.mem_of_getElem? (i := 23) rfl))) (by decide) (t := .long) (t' := .long) (by decide) (by decide)))).other W25 (Or.inr (slot_ne (Or.inr (hw _ (List.mem_of_getElem? (i := 17) rfl))) (Or.inr (hw _ (List.mem_of_getElem? (i := 25) rfl))) (by decide) (t := .long) (t' := .long) (by decide) (by decide)))).other W29 (Or.inr (slot_ne (Or.inr (hw _ (List.mem_of_getElem? (i := 17) rfl))) (Or.inr (hw _ (List.mem_of_getElem? (i := 27) rfl))) (by decide) (t := .long) (t' := .long) (by decide) (by decide)))).other W33 (Or.inr (slot_ne (Or.inr (hw _ (List.mem_of_getElem? (i := 17) rfl))) (Or.inr (hw _ (List.mem_of_getElem? (i := 29) rfl))) (by decide) (t := .long) (t' := .long) (by decide) (by decide))))
  have f37 := (((((Fw13.other W17 (Or.inr (slot_ne (Or.inr (hw _ (List.mem_of_getElem? (i := 19) rfl))) (Or.inr (hw _ (List.mem_of_getElem? (i := 21) rfl))) (by decide) (t := .long) (t' := .long) (by decide) (by decide)))).other W21 (Or.inr (slot_ne (Or.inr (hw _ (List.mem_of_getElem? (i := 19) rfl))) (Or.inr (hw _ (List.mem_of_getElem? (i := 23) rfl))) (by decide) (t := .long) (t' := .long) (by decide) (by decide)))).other W25 (Or.inr (slot_ne (Or.inr (hw _ (List.mem_of_getElem? (i := 19) rfl))) (Or.inr (hw _ (List.mem_of_getElem? (i := 25) rfl))) (by decide) (t := .long) (t' := .long) (by decide) (by decide)))).other W29 (Or.inr (slot_ne (Or.inr (hw _ (List.mem_of_getElem? (i := 19) rfl))) (Or.inr (hw _ (List.mem_of_getElem? (i := 27) rfl))) (by decide) (t := .long) (t' := .long) (by decide) (by decide)))).other W33 (Or.inr (slot_ne (Or.inr (hw _ (List.mem_of_getElem? (i := 19) rfl))) (Or.inr (hw _ (List.mem_of_getElem? (i := 29) rfl))) (by decide) (t := .long) (t' := .long) (by decide) (by decide))))
  have f38 := ((((Fw17.other W21 (Or.inr (slot_ne (Or.inr (hw _ (List.mem_of_getElem? (i := 21) rfl))) (Or.inr (hw _ (List.mem_of_getElem? (i := 23) rfl))) (by decide) (t := .long) (t' := .long) (by decide) (by decide)))).other W25 (Or.inr (slot_ne (Or.inr (hw _ (List.mem_of_getElem? (i := 21) rfl))) (Or.inr (hw _ (List.mem_of_getElem? (i := 25) rfl))) (by decide) (t := .long) (t' := .long) (by decide) (by decide)))).other W29 (Or.inr (slot_ne (Or.inr (hw _ (List.mem_of_getElem? (i := 21) rfl))) (Or.inr (hw _ (List.mem_of_getElem? (i := 27) rfl))) (by decide) (t := .long) (t' := .long) (by decide) (by decide)))).other W33 (Or.inr (slot_ne (Or.inr (hw _ (List.mem_of_getElem? (i := 21) rfl))) (Or.inr (hw _ (List.mem_of_getElem? (i := 29) rfl))) (by decide) (t := .long) (t' := .long) (by decide) (by decide))))
  have f39 := (((Fw21.other W25 (Or.inr (slot_ne (Or.inr (hw _ (List.mem_of_getElem? (i := 23) rfl))) (Or.inr (hw _ (List.mem_of_getElem? (i := 25) rfl))) (by decide) (t := .long) (t' := .long) (by decide) (by decide)))).other W29 (Or.inr (slot_ne (Or.inr (hw _ (List.mem_of_getElem? (i := 23) rfl))) (Or.inr (hw _ (List.mem_of_getElem? (i := 27) rfl))) (by decide) (t := .long) (t' := .long) (by decide) (by decide)))).other W33 (Or.inr (slot_ne (Or.inr (hw _ (List.mem_of_getElem? (i := 23) rfl))) (Or.inr (hw _ (List.mem_of_getElem? (i := 29) rfl))) (by decide) (t := .long) (t' := .long) (by decide) (by decide))))
  have f40 := ((Fw25.other W29 (Or.inr (slot_ne (Or.inr (hw _ (List.mem_of_getElem? (i := 25) rfl))) (Or.inr (hw _ (List.mem_of_getElem? (i := 27) rfl))) (by decide) (t := .long) (t' := .long) (by decide) (by decide)))).other W33 (Or.inr (slot_ne (Or.inr (hw _ (List.mem_of_getElem? (i := 25) rfl))) (Or.inr (hw _ (List.mem_of_getElem? (i := 29) rfl))) (by decide) (t := .long) (t' := .long) (by decide) (by decide))))
  have f41 := (Fw29.other W33 (Or.inr (slot_ne (Or.inr (hw _ (List.mem_of_getElem? (i := 27) rfl))) (Or.inr (hw _ (List.mem_of_getElem? (i := 29) rfl))) (by decide) (t := .long) (t' := .long) (by decide) (by decide))))
  obtain ⟨fs, hr, hrun, hended, hW, hsame⟩ := X33.leave (v := none) (fun _ => rfl)
  refine ⟨_, _, ?_, hrun, hended, _, _, rfl, ?_, ⟨_, rfl⟩, hW, hsame.mono (by decide) (by decide)⟩
  · rw [← hG0]
    refine K33 _ ?_
    exact X33.returnOut hx Bd.returns (hb hby d1_50) hr
  · show Q1 Z a0 x1 x2 x3 x4 x5 x6 x7 x8 u_lectures u_conflicts u_availability u_roomOccupation u_roomCapacity u_minWorkingDays u_curriculumCompactness u_roomStability h0 n0 _ T33.heap _
    rw [e33]
    exact ⟨rfl, N33, KP33, f34, f35, f36, f37, f38, f39, f40, f41, Fw33⟩
theorem d4_0 : decode prog_70_method_2_code 0 = .ok (.aload_n 0, 1) := by decide +kernel
theorem d4_1 : decode prog_70_method_2_code 1 = .ok (.getfield 7, 3) := by decide +kernel
theorem d4_4 : decode prog_70_method_2_code 4 = .ok (.aload_n 0, 1) := by decide +kernel
theorem d4_5 : decode prog_70_method_2_code 5 = .ok (.getfield 13, 3) := by decide +kernel
theorem d4_8 : decode prog_70_method_2_code 8 = .ok (.ladd, 1) := by decide +kernel
theorem d4_9 : decode prog_70_method_2_code 9 = .ok (.aload_n 0, 1) := by decide +kernel
theorem d4_10 : decode prog_70_method_2_code 10 = .ok (.getfield 16, 3) := by decide +kernel
theorem d4_13 : decode prog_70_method_2_code 13 = .ok (.ladd, 1) := by decide +kernel
theorem d4_14 : decode prog_70_method_2_code 14 = .ok (.aload_n 0, 1) := by decide +kernel
theorem d4_15 : decode prog_70_method_2_code 15 = .ok (.getfield 19, 3) := by decide +kernel
theorem d4_18 : decode prog_70_method_2_code 18 = .ok (.ladd, 1) := by decide +kernel
theorem d4_19 : decode prog_70_method_2_code 19 = .ok (.lreturn, 1) := by decide +kernel
theorem ef_rm4 (m : MethodId) (a0 : Addr) : entryFrame m #[(.ref a0)] 1 = (mkF m 0 #[.val (.ref a0)] []) := by first | (simp [entryFrame, mkF, argsToLocals, Value.category]; done) | rfl
def Q4 (Z : State) (a0 : Addr) (w0 : Int64) (w1 : Int64) (w2 : Int64) (w3 : Int64) (h0 : Heap) (n0 : Nat) (v : Option Value) (h : Heap) (L : List Loc) : Prop := v = some (.long (w0 + w1 + w2 + w3)) ∧ Fr n0 L ∧ h = h0
set_option maxRecDepth 65536 in
set_option maxHeartbeats 40000000 in
theorem rm4 (l : Launch) (Z : State) (aa : Array Value) (hw : ∀ d ∈ tables_1, d.before aa Z = true) (ws : List Jvm.Cond) (a0 : Addr) (w0 : Int64) (w1 : Int64) (w2 : Int64) (w3 : Int64) (h0 : Heap) (n0 : Nat) (Z0 : n0 ≤ h0.size) (F0 : Fld Z h0 a0 "com/example/horarium/horarium/engine/Score" "lectures" "J" (.long w0)) (F1 : Fld Z h0 a0 "com/example/horarium/horarium/engine/Score" "conflicts" "J" (.long w1)) (F2 : Fld Z h0 a0 "com/example/horarium/horarium/engine/Score" "availability" "J" (.long w2)) (F3 : Fld Z h0 a0 "com/example/horarium/horarium/engine/Score" "roomOccupation" "J" (.long w3)) :
    MetFree l (⟨"com/example/horarium/horarium/engine/Score", "hard", "()J"⟩ : MethodName) (head1 (Jvm.Cond.code (⟨"com/example/horarium/horarium/engine/Score", "hard", "()J"⟩ : MethodName) prog_70_method_2_code 1 (some .long) :: ws) ({ frames := 0, cells := 0, slots := 0, locals := 0 } : Room)) (fun a U => a = #[(.ref a0)] ∧ Z.Warmed39 U.vm ∧ U.heap = h0) (fun _ _ _ _ _ => True) (fun _ U o U' => ∃ v L, o = .returned v ∧ Q4 Z a0 w0 w1 w2 w3 h0 n0 v U'.heap L ∧ FrameEnd U o U' L ({ frames := 0, cells := 0, slots := 0, locals := 0 } : Room).cells ({ frames := 0, cells := 0, slots := 0, locals := 0 } : Room).slots) := by
  refine MetFree.of_bodySF (plainFor_of_name pn_com_example_horarium_horarium_engine_Score) hisR ?_
  intro p e s m args below meth c s₁ Bd hml0 hP hK
  obtain ⟨rfl, hZ, hh⟩ := hP
  have hx := Bd.exec
  have hby := Bd.bytes
  have hml : c.maxLocals = 1 := hml0
  have hown : s.vm.findClass "com/example/horarium/horarium/engine/Score" = some m.cls := findClass_of_methodNamed Bd.named
  have hnm := (name_of_methodNamed Bd.named Bd.method).1
  have X0 : Stand p l e ({ frames := 0, cells := 0, slots := 0, locals := 0 } : Room) s m #[(.ref a0)] below meth c s₁ [] 0 0 := Stand.of_body Bd
  have e0 : s₁.heap = h0 := by rw [← hh, Bd.state]; rfl
  have N0 := Fr.nil n0
  obtain ⟨G0, hG0⟩ : ∃ G, G = s₁.setTop (entryFrame m #[(.ref a0)] 1) := ⟨_, rfl⟩
  have K0 : ∀ t, Steps p.tables e below (s₁.setTop (mkF m 0 #[.val (.ref a0)] [])) t → Steps p.tables e below G0 t := fun t k => by rw [hG0]; exact castTop (ef_rm4 m a0) k
  have K1 : ∀ t, Steps p.tables e below (s₁.setTop (mkF m 1 #[.val (.ref a0)] [(.ref a0)])) t → Steps p.tables e below G0 t := by
    intro t kt
    refine K0 t ?_
    refine XS.aloadN X0.here hx rfl (hb hby d4_0) rfl rfl ?_
    show Steps p.tables e below (s₁.setTop (mkF m 1 #[.val (.ref a0)] [(.ref a0)])) _
    exact kt
  obtain ⟨T2, X2, e2, st2⟩ := getF X0 hx hZ hown (host := "") (Or.inl (hw _ (List.mem_of_getElem? (i := 14) rfl))) Via.refl e0 F0 (g := (mkF m 1 #[.val (.ref a0)] [(.ref a0)])) rfl rfl (hb hby d4_1)
  have K2 : ∀ t, Steps p.tables e below (T2.setTop (mkF m 4 #[.val (.ref a0)] [(.long w0)])) t → Steps p.tables e below G0 t := fun t kt => K1 t (st2 _ kt)
  have K3 : ∀ t, Steps p.tables e below (T2.setTop (mkF m 5 #[.val (.ref a0)] [(.ref a0), (.long w0)])) t → Steps p.tables e below G0 t := by
    intro t kt
    refine K2 t ?_
    refine XS.aloadN X2.here hx rfl (hb hby d4_4) rfl rfl ?_
    show Steps p.tables e below (T2.setTop (mkF m 5 #[.val (.ref a0)] [(.ref a0), (.long w0)])) _
    exact kt
  obtain ⟨T4, X4, e4, st4⟩ := getF X2 hx hZ hown (host := "") (Or.inl (hw _ (List.mem_of_getElem? (i := 16) rfl))) Via.refl e2 F1 (g := (mkF m 5 #[.val (.ref a0)] [(.ref a0), (.long w0)])) rfl rfl (hb hby d4_5)
  have K4 : ∀ t, Steps p.tables e below (T4.setTop (mkF m 8 #[.val (.ref a0)] [(.long w1), (.long w0)])) t → Steps p.tables e below G0 t := fun t kt => K3 t (st4 _ kt)
  have K5 : ∀ t, Steps p.tables e below (T4.setTop (mkF m 10 #[.val (.ref a0)] [(.ref a0), (.long (w0 + w1))])) t → Steps p.tables e below G0 t := by
    intro t kt
    refine K4 t ?_
    refine XS.ladd X4.here hx rfl (hb hby d4_8) rfl ?_
    show Steps p.tables e below (T4.setTop (mkF m 9 #[.val (.ref a0)] [(.long (w0 + w1))])) _
    refine XS.aloadN X4.here hx rfl (hb hby d4_9) rfl rfl ?_
    show Steps p.tables e below (T4.setTop (mkF m 10 #[.val (.ref a0)] [(.ref a0), (.long (w0 + w1))])) _
    exact kt
  obtain ⟨T6, X6, e6, st6⟩ := getF X4 hx hZ hown (host := "") (Or.inl (hw _ (List.mem_of_getElem? (i := 18) rfl))) Via.refl e4 F2 (g := (mkF m 10 #[.val (.ref a0)] [(.ref a0), (.long (w0 + w1))])) rfl rfl (hb hby d4_10)
  have K6 : ∀ t, Steps p.tables e below (T6.setTop (mkF m 13 #[.val (.ref a0)] [(.long w2), (.long (w0 + w1))])) t → Steps p.tables e below G0 t := fun t kt => K5 t (st6 _ kt)
  have K7 : ∀ t, Steps p.tables e below (T6.setTop (mkF m 15 #[.val (.ref a0)] [(.ref a0), (.long ((w0 + w1) + w2))])) t → Steps p.tables e below G0 t := by
    intro t kt
    refine K6 t ?_
    refine XS.ladd X6.here hx rfl (hb hby d4_13) rfl ?_
    show Steps p.tables e below (T6.setTop (mkF m 14 #[.val (.ref a0)] [(.long ((w0 + w1) + w2))])) _
    refine XS.aloadN X6.here hx rfl (hb hby d4_14) rfl rfl ?_
    show Steps p.tables e below (T6.setTop (mkF m 15 #[.val (.ref a0)] [(.ref a0), (.long ((w0 + w1) + w2))])) _
    exact kt
  obtain ⟨T8, X8, e8, st8⟩ := getF X6 hx hZ hown (host := "") (Or.inl (hw _ (List.mem_of_getElem? (i := 20) rfl))) Via.refl e6 F3 (g := (mkF m 15 #[.val (.ref a0)] [(.ref a0), (.long ((w0 + w1) + w2))])) rfl rfl (hb hby d4_15)
  have K8 : ∀ t, Steps p.tables e below (T8.setTop (mkF m 18 #[.val (.ref a0)] [(.long w3), (.long ((w0 + w1) + w2))])) t → Steps p.tables e below G0 t := fun t kt => K7 t (st8 _ kt)
  have K9 : ∀ t, Steps p.tables e below (T8.setTop (mkF m 19 #[.val (.ref a0)] [(.long (((w0 + w1) + w2) + w3))])) t → Steps p.tables e below G0 t := by
    intro t kt
    refine K8 t ?_
    refine XS.ladd X8.here hx rfl (hb hby d4_18) rfl ?_
    show Steps p.tables e below (T8.setTop (mkF m 19 #[.val (.ref a0)] [(.long (((w0 + w1) + w2) + w3))])) _
    exact kt
  obtain ⟨fs, hr, hrun, hended, hW, hsame⟩ := X8.leave (v := some (.long (((w0 + w1) + w2) + w3))) (fun h => by rw [Bd.returns] at h; cases h)
  refine ⟨_, _, ?_, hrun, hended, _, _, rfl, ?_, ⟨_, rfl⟩, hW, hsame.mono (by decide) (by decide)⟩
  · rw [← hG0]
    refine K9 _ ?_
    exact retOut X8 hx (t := .long) Bd.returns rfl (Or.inr (Or.inl ⟨rfl, rfl, _, rfl⟩)) (hb hby d4_19) hr
  · show Q4 Z a0 w0 w1 w2 w3 h0 n0 _ T8.heap _
    rw [e8]
    exact ⟨rfl, N0, rfl⟩
theorem pn_com_example_horarium_horarium_engine_ScoreHardPinLaw : plainName "com/example/horarium/horarium/engine/ScoreHardPinLaw" = true := by first | (simp [plainName, overriddenIn]; done) | decide +kernel
theorem pd_PJJJJJJJJQV : parseMethodDescriptor "(JJJJJJJJ)V" = some ⟨[.long, .long, .long, .long, .long, .long, .long, .long], none⟩ := by decide +kernel
theorem pd_PQJ : parseMethodDescriptor "()J" = some ⟨[], some .long⟩ := by decide +kernel
theorem ef_rm0 (m : MethodId) (qa : Int64) (qb : Int64) (qc : Int64) (qd : Int64) (qe : Int64) (qf : Int64) : entryFrame m #[(.long qa), (.long qb), (.long qc), (.long qd), (.long qe), (.long qf)] maxLocals = (mkF m 0 #[.val (.long qa), .second, .val (.long qb), .second, .val (.long qc), .second, .val (.long qd), .second, .val (.long qe), .second, .val (.long qf), .second, .unset, .unset, .unset, .unset, .unset, .unset, .unset, .unset, .unset, .unset, .unset, .unset, .unset, .unset, .unset, .unset, .unset] []) := by first | (simp [entryFrame, mkF, argsToLocals, Value.category, maxLocals]; done) | rfl
def Q0 (Z : State) (qa : Int64) (qb : Int64) (qc : Int64) (qd : Int64) (qe : Int64) (qf : Int64) (h0 : Heap) (n0 : Nat) (v : Option Value) (h : Heap) (L : List Loc) : Prop := v = some (.int 1) ∧ Fr n0 L
set_option maxRecDepth 65536 in
set_option maxHeartbeats 40000000 in
theorem rm0 (l : Launch) (Z : State) (aa : Array Value) (hw : ∀ d ∈ tables_1, d.before aa Z = true) (ws : List Jvm.Cond) (qa : Int64) (qb : Int64) (qc : Int64) (qd : Int64) (qe : Int64) (qf : Int64) (h0 : Heap) (n0 : Nat) (Z0 : n0 ≤ h0.size) :
    MetFree l x (head1 (Jvm.Cond.code x code maxLocals ret :: ws) room_1) (fun a U => a = #[(.long qa), (.long qb), (.long qc), (.long qd), (.long qe), (.long qf)] ∧ Z.Warmed39 U.vm ∧ U.heap = h0) (fun _ _ _ _ _ => True) (fun _ U o U' => ∃ v L, o = .returned v ∧ Q0 Z qa qb qc qd qe qf h0 n0 v U'.heap L ∧ FrameEnd U o U' L room_1.cells room_1.slots) := by
  refine MetFree.of_bodySF (plainFor_of_name pn_com_example_horarium_horarium_engine_ScoreHardPinLaw) hisR ?_
  intro p e s m args below meth c s₁ Bd hml0 hP hK
  obtain ⟨rfl, hZ, hh⟩ := hP
  have hx := Bd.exec
  have hby := Bd.bytes
  have hml : c.maxLocals = 29 := hml0
  have hown : s.vm.findClass "com/example/horarium/horarium/engine/ScoreHardPinLaw" = some m.cls := findClass_of_methodNamed Bd.named
  have hnm := (name_of_methodNamed Bd.named Bd.method).1
  have X0 : Stand p l e room_1 s m #[(.long qa), (.long qb), (.long qc), (.long qd), (.long qe), (.long qf)] below meth c s₁ [] 0 0 := Stand.of_body Bd
  have e0 : s₁.heap = h0 := by rw [← hh, Bd.state]; rfl
  have N0 := Fr.nil n0
  obtain ⟨G0, hG0⟩ : ∃ G, G = s₁.setTop (entryFrame m #[(.long qa), (.long qb), (.long qc), (.long qd), (.long qe), (.long qf)] maxLocals) := ⟨_, rfl⟩
  have K0 : ∀ t, Steps p.tables e below (s₁.setTop (mkF m 0 #[.val (.long qa), .second, .val (.long qb), .second, .val (.long qc), .second, .val (.long qd), .second, .val (.long qe), .second, .val (.long qf), .second, .unset, .unset, .unset, .unset, .unset, .unset, .unset, .unset, .unset, .unset, .unset, .unset, .unset, .unset, .unset, .unset, .unset] [])) t → Steps p.tables e below G0 t := fun t k => by rw [hG0]; exact castTop (ef_rm0 m qa qb qc qd qe qf) k
  obtain ⟨T1, h1, X1, e1, E1, A1, D1, -, st1⟩ := newO X0 hx hZ hown (hw _ (List.mem_of_getElem? (i := 0) rfl)) (hw _ (List.mem_of_getElem? (i := 1) rfl)) (hw _ (List.mem_of_getElem? (i := 2) rfl)) e0 (g := (mkF m 0 #[.val (.long qa), .second, .val (.long qb), .second, .val (.long qc), .second, .val (.long qd), .second, .val (.long qe), .second, .val (.long qf), .second, .unset, .unset, .unset, .unset, .unset, .unset, .unset, .unset, .unset, .unset, .unset, .unset, .unset, .unset, .unset, .unset, .unset] [])) rfl (hb hby at_0) (by decide) (by decide)
  obtain ⟨b1, g1⟩ : ∃ z, z = h0.size := ⟨_, rfl⟩
  rw [← g1] at A1 D1 st1
  have gn1 : n0 ≤ b1 := Nat.le_trans Z0 (Nat.le_of_eq g1.symm)
  have Z1 : n0 ≤ h1.size := Nat.le_trans Z0 E1.1
  have K1 : ∀ t, Steps p.tables e below (T1.setTop (mkF m 3 #[.val (.long qa), .second, .val (.long qb), .second, .val (.long qc), .second, .val (.long qd), .second, .val (.long qe), .second, .val (.long qf), .second, .unset, .unset, .unset, .unset, .unset, .unset, .unset, .unset, .unset, .unset, .unset, .unset, .unset, .unset, .unset, .unset, .unset] [(.ref b1)])) t → Steps p.tables e below G0 t := fun t kt => K0 t (st1 _ kt)
  have F_lectures_b1 := (D1 (Or.inr (hw _ (List.mem_of_getElem? (i := 15) rfl))) (ty := .long) (by decide) : Fld Z h1 b1 "com/example/horarium/horarium/engine/Score" "lectures" "J" (.long (0 : Int64)))
  have F_conflicts_b1 := (D1 (Or.inr (hw _ (List.mem_of_getElem? (i := 17) rfl))) (ty := .long) (by decide) : Fld Z h1 b1 "com/example/horarium/horarium/engine/Score" "conflicts" "J" (.long (0 : Int64)))
  have F_availability_b1 := (D1 (Or.inr (hw _ (List.mem_of_getElem? (i := 19) rfl))) (ty := .long) (by decide) : Fld Z h1 b1 "com/example/horarium/horarium/engine/Score" "availability" "J" (.long (0 : Int64)))
  have F_roomOccupation_b1 := (D1 (Or.inr (hw _ (List.mem_of_getElem? (i := 21) rfl))) (ty := .long) (by decide) : Fld Z h1 b1 "com/example/horarium/horarium/engine/Score" "roomOccupation" "J" (.long (0 : Int64)))
  have F_roomCapacity_b1 := (D1 (Or.inr (hw _ (List.mem_of_getElem? (i := 23) rfl))) (ty := .long) (by decide) : Fld Z h1 b1 "com/example/horarium/horarium/engine/Score" "roomCapacity" "J" (.long (0 : Int64)))
  have F_minWorkingDays_b1 := (D1 (Or.inr (hw _ (List.mem_of_getElem? (i := 25) rfl))) (ty := .long) (by decide) : Fld Z h1 b1 "com/example/horarium/horarium/engine/Score" "minWorkingDays" "J" (.long (0 : Int64)))
  have F_curriculumCompactness_b1 := (D1 (Or.inr (hw _ (List.mem_of_getElem? (i := 27) rfl))) (ty := .long) (by decide) : Fld Z h1 b1 "com/example/horarium/horarium/engine/Score" "curriculumCompactness" "J" (.long (0 : Int64)))
  have F_roomStability_b1 := (D1 (Or.inr (hw _ (List.mem_of_getElem? (i := 29) rfl))) (ty := .long) (by decide) : Fld Z h1 b1 "com/example/horarium/horarium/engine/Score" "roomStability" "J" (.long (0 : Int64)))
  have K3 : ∀ t, Steps p.tables e below (T1.setTop (mkF m 24 #[.val (.long qa), .second, .val (.long qb), .second, .val (.long qc), .second, .val (.long qd), .second, .val (.long qe), .second, .val (.long qf), .second, .unset, .unset, .unset, .unset, .unset, .unset, .unset, .unset, .unset, .unset, .unset, .unset, .unset, .unset, .unset, .unset, .unset] [(.long (qe + qf)), (.long (qe ^^^ qf)), (.long qf), (.long qe), (.long qd), (.long qc), (.long qb), (.long qa), (.ref b1), (.ref b1)])) t → Steps p.tables e below G0 t := by
    intro t kt
    refine K1 t ?_
    refine XS.dup X1.here hx rfl (hb hby at_3) rfl rfl ?_
    show Steps p.tables e below (T1.setTop (mkF m 4 #[.val (.long qa), .second, .val (.long qb), .second, .val (.long qc), .second, .val (.long qd), .second, .val (.long qe), .second, .val (.long qf), .second, .unset, .unset, .unset, .unset, .unset, .unset, .unset, .unset, .unset, .unset, .unset, .unset, .unset, .unset, .unset, .unset, .unset] [(.ref b1), (.ref b1)])) _
    refine XS.lloadN X1.here hx rfl (hb hby at_4) rfl ?_
    show Steps p.tables e below (T1.setTop (mkF m 5 #[.val (.long qa), .second, .val (.long qb), .second, .val (.long qc), .second, .val (.long qd), .second, .val (.long qe), .second, .val (.long qf), .second, .unset, .unset, .unset, .unset, .unset, .unset, .unset, .unset, .unset, .unset, .unset, .unset, .unset, .unset, .unset, .unset, .unset] [(.long qa), (.ref b1), (.ref b1)])) _
    refine XS.lloadN X1.here hx rfl (hb hby at_5) rfl ?_
    show Steps p.tables e below (T1.setTop (mkF m 6 #[.val (.long qa), .second, .val (.long qb), .second, .val (.long qc), .second, .val (.long qd), .second, .val (.long qe), .second, .val (.long qf), .second, .unset, .unset, .unset, .unset, .unset, .unset, .unset, .unset, .unset, .unset, .unset, .unset, .unset, .unset, .unset, .unset, .unset] [(.long qb), (.long qa), (.ref b1), (.ref b1)])) _
    refine XS.lload X1.here hx rfl (hb hby at_6) rfl ?_
    show Steps p.tables e below (T1.setTop (mkF m 8 #[.val (.long qa), .second, .val (.long qb), .second, .val (.long qc), .second, .val (.long qd), .second, .val (.long qe), .second, .val (.long qf), .second, .unset, .unset, .unset, .unset, .unset, .unset, .unset, .unset, .unset, .unset, .unset, .unset, .unset, .unset, .unset, .unset, .unset] [(.long qc), (.long qb), (.long qa), (.ref b1), (.ref b1)])) _
    refine XS.lload X1.here hx rfl (hb hby at_8) rfl ?_
    show Steps p.tables e below (T1.setTop (mkF m 10 #[.val (.long qa), .second, .val (.long qb), .second, .val (.long qc), .second, .val (.long qd), .second, .val (.long qe), .second, .val (.long qf), .second, .unset, .unset, .unset, .unset, .unset, .unset, .unset, .unset, .unset, .unset, .unset, .unset, .unset, .unset, .unset, .unset, .unset] [(.long qd), (.long qc), (.long qb), (.long qa), (.ref b1), (.ref b1)])) _
    refine XS.lload X1.here hx rfl (hb hby at_10) rfl ?_
    show Steps p.tables e below (T1.setTop (mkF m 12 #[.val (.long qa), .second, .val (.long qb), .second, .val (.long qc), .second, .val (.long qd), .second, .val (.long qe), .second, .val (.long qf), .second, .unset, .unset, .unset, .unset, .unset, .unset, .unset, .unset, .unset, .unset, .unset, .unset, .unset, .unset, .unset, .unset, .unset] [(.long qe), (.long qd), (.long qc), (.long qb), (.long qa), (.ref b1), (.ref b1)])) _
    refine XS.lload X1.here hx rfl (hb hby at_12) rfl ?_
    show Steps p.tables e below (T1.setTop (mkF m 14 #[.val (.long qa), .second, .val (.long qb), .second, .val (.long qc), .second, .val (.long qd), .second, .val (.long qe), .second, .val (.long qf), .second, .unset, .unset, .unset, .unset, .unset, .unset, .unset, .unset, .unset, .unset, .unset, .unset, .unset, .unset, .unset, .unset, .unset] [(.long qf), (.long qe), (.long qd), (.long qc), (.long qb), (.long qa), (.ref b1), (.ref b1)])) _
    refine XS.lload X1.here hx rfl (hb hby at_14) rfl ?_
    show Steps p.tables e below (T1.setTop (mkF m 16 #[.val (.long qa), .second, .val (.long qb), .second, .val (.long qc), .second, .val (.long qd), .second, .val (.long qe), .second, .val (.long qf), .second, .unset, .unset, .unset, .unset, .unset, .unset, .unset, .unset, .unset, .unset, .unset, .unset, .unset, .unset, .unset, .unset, .unset] [(.long qe), (.long qf), (.long qe), (.long qd), (.long qc), (.long qb), (.long qa), (.ref b1), (.ref b1)])) _
    refine XS.lload X1.here hx rfl (hb hby at_16) rfl ?_
    show Steps p.tables e below (T1.setTop (mkF m 18 #[.val (.long qa), .second, .val (.long qb), .second, .val (.long qc), .second, .val (.long qd), .second, .val (.long qe), .second, .val (.long qf), .second, .unset, .unset, .unset, .unset, .unset, .unset, .unset, .unset, .unset, .unset, .unset, .unset, .unset, .unset, .unset, .unset, .unset] [(.long qf), (.long qe), (.long qf), (.long qe), (.long qd), (.long qc), (.long qb), (.long qa), (.ref b1), (.ref b1)])) _
    refine XS.lxor X1.here hx rfl (hb hby at_18) rfl ?_
    show Steps p.tables e below (T1.setTop (mkF m 19 #[.val (.long qa), .second, .val (.long qb), .second, .val (.long qc), .second, .val (.long qd), .second, .val (.long qe), .second, .val (.long qf), .second, .unset, .unset, .unset, .unset, .unset, .unset, .unset, .unset, .unset, .unset, .unset, .unset, .unset, .unset, .unset, .unset, .unset] [(.long (qe ^^^ qf)), (.long qf), (.long qe), (.long qd), (.long qc), (.long qb), (.long qa), (.ref b1), (.ref b1)])) _
    refine XS.lload X1.here hx rfl (hb hby at_19) rfl ?_
    show Steps p.tables e below (T1.setTop (mkF m 21 #[.val (.long qa), .second, .val (.long qb), .second, .val (.long qc), .second, .val (.long qd), .second, .val (.long qe), .second, .val (.long qf), .second, .unset, .unset, .unset, .unset, .unset, .unset, .unset, .unset, .unset, .unset, .unset, .unset, .unset, .unset, .unset, .unset, .unset] [(.long qe), (.long (qe ^^^ qf)), (.long qf), (.long qe), (.long qd), (.long qc), (.long qb), (.long qa), (.ref b1), (.ref b1)])) _
    refine XS.lload X1.here hx rfl (hb hby at_21) rfl ?_
    show Steps p.tables e below (T1.setTop (mkF m 23 #[.val (.long qa), .second, .val (.long qb), .second, .val (.long qc), .second, .val (.long qd), .second, .val (.long qe), .second, .val (.long qf), .second, .unset, .unset, .unset, .unset, .unset, .unset, .unset, .unset, .unset, .unset, .unset, .unset, .unset, .unset, .unset, .unset, .unset] [(.long qf), (.long qe), (.long (qe ^^^ qf)), (.long qf), (.long qe), (.long qd), (.long qc), (.long qb), (.long qa), (.ref b1), (.ref b1)])) _
    refine XS.ladd X1.here hx rfl (hb hby at_23) rfl ?_
    show Steps p.tables e below (T1.setTop (mkF m 24 #[.val (.long qa), .second, .val (.long qb), .second, .val (.long qc), .second, .val (.long qd), .second, .val (.long qe), .second, .val (.long qf), .second, .unset, .unset, .unset, .unset, .unset, .unset, .unset, .unset, .unset, .unset, .unset, .unset, .unset, .unset, .unset, .unset, .unset] [(.long (qe + qf)), (.long (qe ^^^ qf)), (.long qf), (.long qe), (.long qd), (.long qc), (.long qb), (.long qa), (.ref b1), (.ref b1)])) _
    exact kt
  obtain ⟨_, _, ⟨T4, L4, k4, n4⟩, -, X4, ⟨Lc4, hQ4, l4, y4, z4⟩, st4⟩ := X1.specialBack hx (y := (⟨"com/example/horarium/horarium/engine/Score", "<init>", "(JJJJJJJJ)V"⟩ : MethodName)) rfl hown (mvT hZ (hw _ (List.mem_of_getElem? (i := 3) rfl))) (mvT hZ (hw _ (List.mem_of_getElem? (i := 4) rfl))) (mvT hZ (hw _ (List.mem_of_getElem? (i := 5) rfl))) (by decide) (backOf (W := 1) (rm1 l Z aa hw [] (b1) (qa) (qb) (qc) (qd) (qe) (qf) ((qe ^^^ qf)) ((qe + qf)) _ _ _ _ _ _ _ _ h1 n0 Z1 gn1 A1 F_lectures_b1 F_conflicts_b1 F_availability_b1 F_roomOccupation_b1 F_roomCapacity_b1 F_minWorkingDays_b1 F_curriculumCompactness_b1 F_roomStability_b1) hZ (hw _ (List.mem_of_getElem? (i := 5) rfl)) (hw _ (List.mem_of_getElem? (i := 2) rfl)) (by decide) (by decide)) (g := (mkF m 24 #[.val (.long qa), .second, .val (.long qb), .second, .val (.long qc), .second, .val (.long qd), .second, .val (.long qe), .second, .val (.long qf), .second, .unset, .unset, .unset, .unset, .unset, .unset, .unset, .unset, .unset, .unset, .unset, .unset, .unset, .unset, .unset, .unset, .unset] [(.long (qe + qf)), (.long (qe ^^^ qf)), (.long qf), (.long qe), (.long qd), (.long qc), (.long qb), (.long qa), (.ref b1), (.ref b1)])) rfl (by rw [hml]; rfl) (Steps.refl _) (a := b1) (argsL := [(.long qa), (.long qb), (.long qc), (.long qd), (.long qe), (.long qf), (.long (qe ^^^ qf)), (.long (qe + qf))]) (rest := [(.ref b1)]) (lenOf pd_PJJJJJJJJQV rfl) rfl (by show 2 * 0 + _ ≤ _; exact Nat.le_of_eq rfl) (hb hby at_24) (fun _ _ => ⟨rfl, e1, (by decide : 1 + 0 ≤ _), (by decide : 8 + 0 ≤ _)⟩)
  dsimp only [Pt.U, Pt.locs, Pt.cells, Pt.slots] at X4 l4 y4 z4 st4 hQ4
  subst l4 y4 z4
  obtain ⟨rfl, N4q, KK2, EE2, Fc0_2, Fc1_2, Fc2_2, Fc3_2, Fc4_2, Fc5_2, Fc6_2, Fc7_2⟩ := hQ4
  have N4 := Fr.app N0 N4q
  have K4 : ∀ t, Steps p.tables e below (T4.setTop (mkF m 27 #[.val (.long qa), .second, .val (.long qb), .second, .val (.long qc), .second, .val (.long qd), .second, .val (.long qe), .second, .val (.long qf), .second, .unset, .unset, .unset, .unset, .unset, .unset, .unset, .unset, .unset, .unset, .unset, .unset, .unset, .unset, .unset, .unset, .unset] [(.ref b1)])) t → Steps p.tables e below G0 t := fun t kt => K3 t (st4.trans kt)
  have ZZ2 : n0 ≤ T4.heap.size := Nat.le_trans Z1 KK2.1
  have K5 : ∀ t, Steps p.tables e below (T4.setTop (mkF m 29 #[.val (.long qa), .second, .val (.long qb), .second, .val (.long qc), .second, .val (.long qd), .second, .val (.long qe), .second, .val (.long qf), .second, .val (.ref b1), .unset, .unset, .unset, .unset, .unset, .unset, .unset, .unset, .unset, .unset, .unset, .unset, .unset, .unset, .unset, .unset] [])) t → Steps p.tables e below G0 t := by
    intro t kt
    refine K4 t ?_
    refine XS.astore X4.here hx rfl (hb hby at_27) rfl rfl (l' := #[.val (.long qa), .second, .val (.long qb), .second, .val (.long qc), .second, .val (.long qd), .second, .val (.long qe), .second, .val (.long qf), .second, .val (.ref b1), .unset, .unset, .unset, .unset, .unset, .unset, .unset, .unset, .unset, .unset, .unset, .unset, .unset, .unset, .unset, .unset]) rfl ?_
    show Steps p.tables e below (T4.setTop (mkF m 29 #[.val (.long qa), .second, .val (.long qb), .second, .val (.long qc), .second, .val (.long qd), .second, .val (.long qe), .second, .val (.long qf), .second, .val (.ref b1), .unset, .unset, .unset, .unset, .unset, .unset, .unset, .unset, .unset, .unset, .unset, .unset, .unset, .unset, .unset, .unset] [])) _
    exact kt
  obtain ⟨T6, h6, X6, e6, E6, A6, D6, -, st6⟩ := newO X4 hx hZ hown (hw _ (List.mem_of_getElem? (i := 0) rfl)) (hw _ (List.mem_of_getElem? (i := 1) rfl)) (hw _ (List.mem_of_getElem? (i := 2) rfl)) (rfl : T4.heap = _) (g := (mkF m 29 #[.val (.long qa), .second, .val (.long qb), .second, .val (.long qc), .second, .val (.long qd), .second, .val (.long qe), .second, .val (.long qf), .second, .val (.ref b1), .unset, .unset, .unset, .unset, .unset, .unset, .unset, .unset, .unset, .unset, .unset, .unset, .unset, .unset, .unset, .unset] [])) rfl (hb hby at_29) (by decide) (by decide)
  obtain ⟨b6, g6⟩ : ∃ z, z = T4.heap.size := ⟨_, rfl⟩
  rw [← g6] at A6 D6 st6
  have gn6 : n0 ≤ b6 := Nat.le_trans ZZ2 (Nat.le_of_eq g6.symm)
  have Z6 : n0 ≤ h6.size := Nat.le_trans ZZ2 E6.1
  have K6 : ∀ t, Steps p.tables e below (T6.setTop (mkF m 32 #[.val (.long qa), .second, .val (.long qb), .second, .val (.long qc), .second, .val (.long qd), .second, .val (.long qe), .second, .val (.long qf), .second, .val (.ref b1), .unset, .unset, .unset, .unset, .unset, .unset, .unset, .unset, .unset, .unset, .unset, .unset, .unset, .unset, .unset, .unset] [(.ref b6)])) t → Steps p.tables e below G0 t := fun t kt => K5 t (st6 _ kt)
  have ne_b1_b6 : b1 ≠ b6 := Nat.ne_of_lt (Nat.lt_of_lt_of_le (EE2).lt (Nat.le_of_eq g6.symm))
  have F_lectures_b6 := (D6 (Or.inr (hw _ (List.mem_of_getElem? (i := 15) rfl))) (ty := .long) (by decide) : Fld Z h6 b6 "com/example/horarium/horarium/engine/Score" "lectures" "J" (.long (0 : Int64)))
  have F_conflicts_b6 := (D6 (Or.inr (hw _ (List.mem_of_getElem? (i := 17) rfl))) (ty := .long) (by decide) : Fld Z h6 b6 "com/example/horarium/horarium/engine/Score" "conflicts" "J" (.long (0 : Int64)))
  have F_availability_b6 := (D6 (Or.inr (hw _ (List.mem_of_getElem? (i := 19) rfl))) (ty := .long) (by decide) : Fld Z h6 b6 "com/example/horarium/horarium/engine/Score" "availability" "J" (.long (0 : Int64)))
  have F_roomOccupation_b6 := (D6 (Or.inr (hw _ (List.mem_of_getElem? (i := 21) rfl))) (ty := .long) (by decide) : Fld Z h6 b6 "com/example/horarium/horarium/engine/Score" "roomOccupation" "J" (.long (0 : Int64)))
  have F_roomCapacity_b6 := (D6 (Or.inr (hw _ (List.mem_of_getElem? (i := 23) rfl))) (ty := .long) (by decide) : Fld Z h6 b6 "com/example/horarium/horarium/engine/Score" "roomCapacity" "J" (.long (0 : Int64)))
  have F_minWorkingDays_b6 := (D6 (Or.inr (hw _ (List.mem_of_getElem? (i := 25) rfl))) (ty := .long) (by decide) : Fld Z h6 b6 "com/example/horarium/horarium/engine/Score" "minWorkingDays" "J" (.long (0 : Int64)))
  have F_curriculumCompactness_b6 := (D6 (Or.inr (hw _ (List.mem_of_getElem? (i := 27) rfl))) (ty := .long) (by decide) : Fld Z h6 b6 "com/example/horarium/horarium/engine/Score" "curriculumCompactness" "J" (.long (0 : Int64)))
  have F_roomStability_b6 := (D6 (Or.inr (hw _ (List.mem_of_getElem? (i := 29) rfl))) (ty := .long) (by decide) : Fld Z h6 b6 "com/example/horarium/horarium/engine/Score" "roomStability" "J" (.long (0 : Int64)))
  have K8 : ∀ t, Steps p.tables e below (T6.setTop (mkF m 45 #[.val (.long qa), .second, .val (.long qb), .second, .val (.long qc), .second, .val (.long qd), .second, .val (.long qe), .second, .val (.long qf), .second, .val (.ref b1), .unset, .unset, .unset, .unset, .unset, .unset, .unset, .unset, .unset, .unset, .unset, .unset, .unset, .unset, .unset, .unset] [(.long qe), (.long qf), (.long qf), (.long qe), (.long (0 : Int64)), (.long (0 : Int64)), (.long (0 : Int64)), (.long qa), (.ref b6), (.ref b6)])) t → Steps p.tables e below G0 t := by
    intro t kt
    refine K6 t ?_
    refine XS.dup X6.here hx rfl (hb hby at_32) rfl rfl ?_
    show Steps p.tables e below (T6.setTop (mkF m 33 #[.val (.long qa), .second, .val (.long qb), .second, .val (.long qc), .second, .val (.long qd), .second, .val (.long qe), .second, .val (.long qf), .second, .val (.ref b1), .unset, .unset, .unset, .unset, .unset, .unset, .unset, .unset, .unset, .unset, .unset, .unset, .unset, .unset, .unset, .unset] [(.ref b6), (.ref b6)])) _
    refine XS.lloadN X6.here hx rfl (hb hby at_33) rfl ?_
    show Steps p.tables e below (T6.setTop (mkF m 34 #[.val (.long qa), .second, .val (.long qb), .second, .val (.long qc), .second, .val (.long qd), .second, .val (.long qe), .second, .val (.long qf), .second, .val (.ref b1), .unset, .unset, .unset, .unset, .unset, .unset, .unset, .unset, .unset, .unset, .unset, .unset, .unset, .unset, .unset, .unset] [(.long qa), (.ref b6), (.ref b6)])) _
    refine XS.lconst X6.here hx rfl (hb hby at_34) ?_
    show Steps p.tables e below (T6.setTop (mkF m 35 #[.val (.long qa), .second, .val (.long qb), .second, .val (.long qc), .second, .val (.long qd), .second, .val (.long qe), .second, .val (.long qf), .second, .val (.ref b1), .unset, .unset, .unset, .unset, .unset, .unset, .unset, .unset, .unset, .unset, .unset, .unset, .unset, .unset, .unset, .unset] [(.long (0 : Int64)), (.long qa), (.ref b6), (.ref b6)])) _
    refine XS.lconst X6.here hx rfl (hb hby at_35) ?_
    show Steps p.tables e below (T6.setTop (mkF m 36 #[.val (.long qa), .second, .val (.long qb), .second, .val (.long qc), .second, .val (.long qd), .second, .val (.long qe), .second, .val (.long qf), .second, .val (.ref b1), .unset, .unset, .unset, .unset, .unset, .unset, .unset, .unset, .unset, .unset, .unset, .unset, .unset, .unset, .unset, .unset] [(.long (0 : Int64)), (.long (0 : Int64)), (.long qa), (.ref b6), (.ref b6)])) _
    refine XS.lconst X6.here hx rfl (hb hby at_36) ?_
    show Steps p.tables e below (T6.setTop (mkF m 37 #[.val (.long qa), .second, .val (.long qb), .second, .val (.long qc), .second, .val (.long qd), .second, .val (.long qe), .second, .val (.long qf), .second, .val (.ref b1), .unset, .unset, .unset, .unset, .unset, .unset, .unset, .unset, .unset, .unset, .unset, .unset, .unset, .unset, .unset, .unset] [(.long (0 : Int64)), (.long (0 : Int64)), (.long (0 : Int64)), (.long qa), (.ref b6), (.ref b6)])) _
    refine XS.lload X6.here hx rfl (hb hby at_37) rfl ?_
    show Steps p.tables e below (T6.setTop (mkF m 39 #[.val (.long qa), .second, .val (.long qb), .second, .val (.long qc), .second, .val (.long qd), .second, .val (.long qe), .second, .val (.long qf), .second, .val (.ref b1), .unset, .unset, .unset, .unset, .unset, .unset, .unset, .unset, .unset, .unset, .unset, .unset, .unset, .unset, .unset, .unset] [(.long qe), (.long (0 : Int64)), (.long (0 : Int64)), (.long (0 : Int64)), (.long qa), (.ref b6), (.ref b6)])) _
    refine XS.lload X6.here hx rfl (hb hby at_39) rfl ?_
    show Steps p.tables e below (T6.setTop (mkF m 41 #[.val (.long qa), .second, .val (.long qb), .second, .val (.long qc), .second, .val (.long qd), .second, .val (.long qe), .second, .val (.long qf), .second, .val (.ref b1), .unset, .unset, .unset, .unset, .unset, .unset, .unset, .unset, .unset, .unset, .unset, .unset, .unset, .unset, .unset, .unset] [(.long qf), (.long qe), (.long (0 : Int64)), (.long (0 : Int64)), (.long (0 : Int64)), (.long qa), (.ref b6), (.ref b6)])) _
    refine XS.lload X6.here hx rfl (hb hby at_41) rfl ?_
    show Steps p.tables e below (T6.setTop (mkF m 43 #[.val (.long qa), .second, .val (.long qb), .second, .val (.long qc), .second, .val (.long qd), .second, .val (.long qe), .second, .val (.long qf), .second, .val (.ref b1), .unset, .unset, .unset, .unset, .unset, .unset, .unset, .unset, .unset, .unset, .unset, .unset, .unset, .unset, .unset, .unset] [(.long qf), (.long qf), (.long qe), (.long (0 : Int64)), (.long (0 : Int64)), (.long (0 : Int64)), (.long qa), (.ref b6), (.ref b6)])) _
    refine XS.lload X6.here hx rfl (hb hby at_43) rfl ?_
    show Steps p.tables e below (T6.setTop (mkF m 45 #[.val (.long qa), .second, .val (.long qb), .second, .val (.long qc), .second, .val (.long qd), .second, .val (.long qe), .second, .val (.long qf), .second, .val (.ref b1), .unset, .unset, .unset, .unset, .unset, .unset, .unset, .unset, .unset, .unset, .unset, .unset, .unset, .unset, .unset, .unset] [(.long qe), (.long qf), (.long qf), (.long qe), (.long (0 : Int64)), (.long (0 : Int64)), (.long (0 : Int64)), (.long qa), (.ref b6), (.ref b6)])) _
    exact kt
  obtain ⟨_, _, ⟨T9, L9, k9, n9⟩, -, X9, ⟨Lc9, hQ9, l9, y9, z9⟩, st9⟩ := X6.specialBack hx (y := (⟨"com/example/horarium/horarium/engine/Score", "<init>", "(JJJJJJJJ)V"⟩ : MethodName)) rfl hown (mvT hZ (hw _ (List.mem_of_getElem? (i := 3) rfl))) (mvT hZ (hw _ (List.mem_of_getElem? (i := 4) rfl))) (mvT hZ (hw _ (List.mem_of_getElem? (i := 5) rfl))) (by decide) (backOf (W := 1) (rm1 l Z aa hw [] (b6) (qa) ((0 : Int64)) ((0 : Int64)) ((0 : Int64)) (qe) (qf) (qf) (qe) _ _ _ _ _ _ _ _ h6 n0 Z6 gn6 A6 F_lectures_b6 F_conflicts_b6 F_availability_b6 F_roomOccupation_b6 F_roomCapacity_b6 F_minWorkingDays_b6 F_curriculumCompactness_b6 F_roomStability_b6) hZ (hw _ (List.mem_of_getElem? (i := 5) rfl)) (hw _ (List.mem_of_getElem? (i := 2) rfl)) (by decide) (by decide)) (g := (mkF m 45 #[.val (.long qa), .second, .val (.long qb), .second, .val (.long qc), .second, .val (.long qd), .second, .val (.long qe), .second, .val (.long qf), .second, .val (.ref b1), .unset, .unset, .unset, .unset, .unset, .unset, .unset, .unset, .unset, .unset, .unset, .unset, .unset, .unset, .unset, .unset] [(.long qe), (.long qf), (.long qf), (.long qe), (.long (0 : Int64)), (.long (0 : Int64)), (.long (0 : Int64)), (.long qa), (.ref b6), (.ref b6)])) rfl (by rw [hml]; rfl) (Steps.refl _) (a := b6) (argsL := [(.long qa), (.long (0 : Int64)), (.long (0 : Int64)), (.long (0 : Int64)), (.long qe), (.long qf), (.long qf), (.long qe)]) (rest := [(.ref b6)]) (lenOf pd_PJJJJJJJJQV rfl) rfl (by show 2 * 0 + _ ≤ _; exact Nat.le_of_eq rfl) (hb hby at_45) (fun _ _ => ⟨rfl, e6, (by decide : 2 + 0 ≤ _), (by decide : 16 + 0 ≤ _)⟩)
  dsimp only [Pt.U, Pt.locs, Pt.cells, Pt.slots] at X9 l9 y9 z9 st9 hQ9
  subst l9 y9 z9
  obtain ⟨rfl, N9q, KK7, EE7, Fc0_7, Fc1_7, Fc2_7, Fc3_7, Fc4_7, Fc5_7, Fc6_7, Fc7_7⟩ := hQ9
  have N9 := Fr.app N4 N9q
  have K9 : ∀ t, Steps p.tables e below (T9.setTop (mkF m 48 #[.val (.long qa), .second, .val (.long qb), .second, .val (.long qc), .second, .val (.long qd), .second, .val (.long qe), .second, .val (.long qf), .second, .val (.ref b1), .unset, .unset, .unset, .unset, .unset, .unset, .unset, .unset, .unset, .unset, .unset, .unset, .unset, .unset, .unset, .unset] [(.ref b6)])) t → Steps p.tables e below G0 t := fun t kt => K8 t (st9.trans kt)
  have ZZ7 : n0 ≤ T9.heap.size := Nat.le_trans Z6 KK7.1
  have K10 : ∀ t, Steps p.tables e below (T9.setTop (mkF m 50 #[.val (.long qa), .second, .val (.long qb), .second, .val (.long qc), .second, .val (.long qd), .second, .val (.long qe), .second, .val (.long qf), .second, .val (.ref b1), .val (.ref b6), .unset, .unset, .unset, .unset, .unset, .unset, .unset, .unset, .unset, .unset, .unset, .unset, .unset, .unset, .unset] [])) t → Steps p.tables e below G0 t := by
    intro t kt
    refine K9 t ?_
    refine XS.astore X9.here hx rfl (hb hby at_48) rfl rfl (l' := #[.val (.long qa), .second, .val (.long qb), .second, .val (.long qc), .second, .val (.long qd), .second, .val (.long qe), .second, .val (.long qf), .second, .val (.ref b1), .val (.ref b6), .unset, .unset, .unset, .unset, .unset, .unset, .unset, .unset, .unset, .unset, .unset, .unset, .unset, .unset, .unset]) rfl ?_
    show Steps p.tables e below (T9.setTop (mkF m 50 #[.val (.long qa), .second, .val (.long qb), .second, .val (.long qc), .second, .val (.long qd), .second, .val (.long qe), .second, .val (.long qf), .second, .val (.ref b1), .val (.ref b6), .unset, .unset, .unset, .unset, .unset, .unset, .unset, .unset, .unset, .unset, .unset, .unset, .unset, .unset, .unset] [])) _
    exact kt
  have f11 := ((EE2.ext E6).keep KK7)
  obtain ⟨T12, h12, X12, e12, E12, A12, D12, -, st12⟩ := newO X9 hx hZ hown (hw _ (List.mem_of_getElem? (i := 0) rfl)) (hw _ (List.mem_of_getElem? (i := 1) rfl)) (hw _ (List.mem_of_getElem? (i := 2) rfl)) (rfl : T9.heap = _) (g := (mkF m 50 #[.val (.long qa), .second, .val (.long qb), .second, .val (.long qc), .second, .val (.long qd), .second, .val (.long qe), .second, .val (.long qf), .second, .val (.ref b1), .val (.ref b6), .unset, .unset, .unset, .unset, .unset, .unset, .unset, .unset, .unset, .unset, .unset, .unset, .unset, .unset, .unset] [])) rfl (hb hby at_50) (by decide) (by decide)
  obtain ⟨b12, g12⟩ : ∃ z, z = T9.heap.size := ⟨_, rfl⟩
  rw [← g12] at A12 D12 st12
  have gn12 : n0 ≤ b12 := Nat.le_trans ZZ7 (Nat.le_of_eq g12.symm)
  have Z12 : n0 ≤ h12.size := Nat.le_trans ZZ7 E12.1
  have K12 : ∀ t, Steps p.tables e below (T12.setTop (mkF m 53 #[.val (.long qa), .second, .val (.long qb), .second, .val (.long qc), .second, .val (.long qd), .second, .val (.long qe), .second, .val (.long qf), .second, .val (.ref b1), .val (.ref b6), .unset, .unset, .unset, .unset, .unset, .unset, .unset, .unset, .unset, .unset, .unset, .unset, .unset, .unset, .unset] [(.ref b12)])) t → Steps p.tables e below G0 t := fun t kt => K10 t (st12 _ kt)
  have ne_b1_b12 : b1 ≠ b12 := Nat.ne_of_lt (Nat.lt_of_lt_of_le (f11).lt (Nat.le_of_eq g12.symm))
  have ne_b6_b12 : b6 ≠ b12 := Nat.ne_of_lt (Nat.lt_of_lt_of_le (EE7).lt (Nat.le_of_eq g12.symm))
  have F_lectures_b12 := (D12 (Or.inr (hw _ (List.mem_of_getElem? (i := 15) rfl))) (ty := .long) (by decide) : Fld Z h12 b12 "com/example/horarium/horarium/engine/Score" "lectures" "J" (.long (0 : Int64)))
  have F_conflicts_b12 := (D12 (Or.inr (hw _ (List.mem_of_getElem? (i := 17) rfl))) (ty := .long) (by decide) : Fld Z h12 b12 "com/example/horarium/horarium/engine/Score" "conflicts" "J" (.long (0 : Int64)))
  have F_availability_b12 := (D12 (Or.inr (hw _ (List.mem_of_getElem? (i := 19) rfl))) (ty := .long) (by decide) : Fld Z h12 b12 "com/example/horarium/horarium/engine/Score" "availability" "J" (.long (0 : Int64)))
  have F_roomOccupation_b12 := (D12 (Or.inr (hw _ (List.mem_of_getElem? (i := 21) rfl))) (ty := .long) (by decide) : Fld Z h12 b12 "com/example/horarium/horarium/engine/Score" "roomOccupation" "J" (.long (0 : Int64)))
  have F_roomCapacity_b12 := (D12 (Or.inr (hw _ (List.mem_of_getElem? (i := 23) rfl))) (ty := .long) (by decide) : Fld Z h12 b12 "com/example/horarium/horarium/engine/Score" "roomCapacity" "J" (.long (0 : Int64)))
  have F_minWorkingDays_b12 := (D12 (Or.inr (hw _ (List.mem_of_getElem? (i := 25) rfl))) (ty := .long) (by decide) : Fld Z h12 b12 "com/example/horarium/horarium/engine/Score" "minWorkingDays" "J" (.long (0 : Int64)))
  have F_curriculumCompactness_b12 := (D12 (Or.inr (hw _ (List.mem_of_getElem? (i := 27) rfl))) (ty := .long) (by decide) : Fld Z h12 b12 "com/example/horarium/horarium/engine/Score" "curriculumCompactness" "J" (.long (0 : Int64)))
  have F_roomStability_b12 := (D12 (Or.inr (hw _ (List.mem_of_getElem? (i := 29) rfl))) (ty := .long) (by decide) : Fld Z h12 b12 "com/example/horarium/horarium/engine/Score" "roomStability" "J" (.long (0 : Int64)))
  have K14 : ∀ t, Steps p.tables e below (T12.setTop (mkF m 66 #[.val (.long qa), .second, .val (.long qb), .second, .val (.long qc), .second, .val (.long qd), .second, .val (.long qe), .second, .val (.long qf), .second, .val (.ref b1), .val (.ref b6), .unset, .unset, .unset, .unset, .unset, .unset, .unset, .unset, .unset, .unset, .unset, .unset, .unset, .unset, .unset] [(.long qf), (.long qe), (.long qe), (.long qf), (.long (0 : Int64)), (.long (0 : Int64)), (.long qb), (.long (0 : Int64)), (.ref b12), (.ref b12)])) t → Steps p.tables e below G0 t := by
    intro t kt
    refine K12 t ?_
    refine XS.dup X12.here hx rfl (hb hby at_53) rfl rfl ?_
    show Steps p.tables e below (T12.setTop (mkF m 54 #[.val (.long qa), .second, .val (.long qb), .second, .val (.long qc), .second, .val (.long qd), .second, .val (.long qe), .second, .val (.long qf), .second, .val (.ref b1), .val (.ref b6), .unset, .unset, .unset, .unset, .unset, .unset, .unset, .unset, .unset, .unset, .unset, .unset, .unset, .unset, .unset] [(.ref b12), (.ref b12)])) _
    refine XS.lconst X12.here hx rfl (hb hby at_54) ?_
    show Steps p.tables e below (T12.setTop (mkF m 55 #[.val (.long qa), .second, .val (.long qb), .second, .val (.long qc), .second, .val (.long qd), .second, .val (.long qe), .second, .val (.long qf), .second, .val (.ref b1), .val (.ref b6), .unset, .unset, .unset, .unset, .unset, .unset, .unset, .unset, .unset, .unset, .unset, .unset, .unset, .unset, .unset] [(.long (0 : Int64)), (.ref b12), (.ref b12)])) _
    refine XS.lloadN X12.here hx rfl (hb hby at_55) rfl ?_
    show Steps p.tables e below (T12.setTop (mkF m 56 #[.val (.long qa), .second, .val (.long qb), .second, .val (.long qc), .second, .val (.long qd), .second, .val (.long qe), .second, .val (.long qf), .second, .val (.ref b1), .val (.ref b6), .unset, .unset, .unset, .unset, .unset, .unset, .unset, .unset, .unset, .unset, .unset, .unset, .unset, .unset, .unset] [(.long qb), (.long (0 : Int64)), (.ref b12), (.ref b12)])) _
    refine XS.lconst X12.here hx rfl (hb hby at_56) ?_
    show Steps p.tables e below (T12.setTop (mkF m 57 #[.val (.long qa), .second, .val (.long qb), .second, .val (.long qc), .second, .val (.long qd), .second, .val (.long qe), .second, .val (.long qf), .second, .val (.ref b1), .val (.ref b6), .unset, .unset, .unset, .unset, .unset, .unset, .unset, .unset, .unset, .unset, .unset, .unset, .unset, .unset, .unset] [(.long (0 : Int64)), (.long qb), (.long (0 : Int64)), (.ref b12), (.ref b12)])) _
    refine XS.lconst X12.here hx rfl (hb hby at_57) ?_
    show Steps p.tables e below (T12.setTop (mkF m 58 #[.val (.long qa), .second, .val (.long qb), .second, .val (.long qc), .second, .val (.long qd), .second, .val (.long qe), .second, .val (.long qf), .second, .val (.ref b1), .val (.ref b6), .unset, .unset, .unset, .unset, .unset, .unset, .unset, .unset, .unset, .unset, .unset, .unset, .unset, .unset, .unset] [(.long (0 : Int64)), (.long (0 : Int64)), (.long qb), (.long (0 : Int64)), (.ref b12), (.ref b12)])) _
    refine XS.lload X12.here hx rfl (hb hby at_58) rfl ?_
    show Steps p.tables e below (T12.setTop (mkF m 60 #[.val (.long qa), .second, .val (.long qb), .second, .val (.long qc), .second, .val (.long qd), .second, .val (.long qe), .second, .val (.long qf), .second, .val (.ref b1), .val (.ref b6), .unset, .unset, .unset, .unset, .unset, .unset, .unset, .unset, .unset, .unset, .unset, .unset, .unset, .unset, .unset] [(.long qf), (.long (0 : Int64)), (.long (0 : Int64)), (.long qb), (.long (0 : Int64)), (.ref b12), (.ref b12)])) _
    refine XS.lload X12.here hx rfl (hb hby at_60) rfl ?_
    show Steps p.tables e below (T12.setTop (mkF m 62 #[.val (.long qa), .second, .val (.long qb), .second, .val (.long qc), .second, .val (.long qd), .second, .val (.long qe), .second, .val (.long qf), .second, .val (.ref b1), .val (.ref b6), .unset, .unset, .unset, .unset, .unset, .unset, .unset, .unset, .unset, .unset, .unset, .unset, .unset, .unset, .unset] [(.long qe), (.long qf), (.long (0 : Int64)), (.long (0 : Int64)), (.long qb), (.long (0 : Int64)), (.ref b12), (.ref b12)])) _
    refine XS.lload X12.here hx rfl (hb hby at_62) rfl ?_
    show Steps p.tables e below (T12.setTop (mkF m 64 #[.val (.long qa), .second, .val (.long qb), .second, .val (.long qc), .second, .val (.long qd), .second, .val (.long qe), .second, .val (.long qf), .second, .val (.ref b1), .val (.ref b6), .unset, .unset, .unset, .unset, .unset, .unset, .unset, .unset, .unset, .unset, .unset, .unset, .unset, .unset, .unset] [(.long qe), (.long qe), (.long qf), (.long (0 : Int64)), (.long (0 : Int64)), (.long qb), (.long (0 : Int64)), (.ref b12), (.ref b12)])) _
    refine XS.lload X12.here hx rfl (hb hby at_64) rfl ?_
    show Steps p.tables e below (T12.setTop (mkF m 66 #[.val (.long qa), .second, .val (.long qb), .second, .val (.long qc), .second, .val (.long qd), .second, .val (.long qe), .second, .val (.long qf), .second, .val (.ref b1), .val (.ref b6), .unset, .unset, .unset, .unset, .unset, .unset, .unset, .unset, .unset, .unset, .unset, .unset, .unset, .unset, .unset] [(.long qf), (.long qe), (.long qe), (.long qf), (.long (0 : Int64)), (.long (0 : Int64)), (.long qb), (.long (0 : Int64)), (.ref b12), (.ref b12)])) _
    exact kt
  obtain ⟨_, _, ⟨T15, L15, k15, n15⟩, -, X15, ⟨Lc15, hQ15, l15, y15, z15⟩, st15⟩ := X12.specialBack hx (y := (⟨"com/example/horarium/horarium/engine/Score", "<init>", "(JJJJJJJJ)V"⟩ : MethodName)) rfl hown (mvT hZ (hw _ (List.mem_of_getElem? (i := 3) rfl))) (mvT hZ (hw _ (List.mem_of_getElem? (i := 4) rfl))) (mvT hZ (hw _ (List.mem_of_getElem? (i := 5) rfl))) (by decide) (backOf (W := 1) (rm1 l Z aa hw [] (b12) ((0 : Int64)) (qb) ((0 : Int64)) ((0 : Int64)) (qf) (qe) (qe) (qf) _ _ _ _ _ _ _ _ h12 n0 Z12 gn12 A12 F_lectures_b12 F_conflicts_b12 F_availability_b12 F_roomOccupation_b12 F_roomCapacity_b12 F_minWorkingDays_b12 F_curriculumCompactness_b12 F_roomStability_b12) hZ (hw _ (List.mem_of_getElem? (i := 5) rfl)) (hw _ (List.mem_of_getElem? (i := 2) rfl)) (by decide) (by decide)) (g := (mkF m 66 #[.val (.long qa), .second, .val (.long qb), .second, .val (.long qc), .second, .val (.long qd), .second, .val (.long qe), .second, .val (.long qf), .second, .val (.ref b1), .val (.ref b6), .unset, .unset, .unset, .unset, .unset, .unset, .unset, .unset, .unset, .unset, .unset, .unset, .unset, .unset, .unset] [(.long qf), (.long qe), (.long qe), (.long qf), (.long (0 : Int64)), (.long (0 : Int64)), (.long qb), (.long (0 : Int64)), (.ref b12), (.ref b12)])) rfl (by rw [hml]; rfl) (Steps.refl _) (a := b12) (argsL := [(.long (0 : Int64)), (.long qb), (.long (0 : Int64)), (.long (0 : Int64)), (.long qf), (.long qe), (.long qe), (.long qf)]) (rest := [(.ref b12)]) (lenOf pd_PJJJJJJJJQV rfl) rfl (by show 2 * 0 + _ ≤ _; exact Nat.le_of_eq rfl) (hb hby at_66) (fun _ _ => ⟨rfl, e12, (by decide : 3 + 0 ≤ _), (by decide : 24 + 0 ≤ _)⟩)
  dsimp only [Pt.U, Pt.locs, Pt.cells, Pt.slots] at X15 l15 y15 z15 st15 hQ15
  subst l15 y15 z15
  obtain ⟨rfl, N15q, KK13, EE13, Fc0_13, Fc1_13, Fc2_13, Fc3_13, Fc4_13, Fc5_13, Fc6_13, Fc7_13⟩ := hQ15
  have N15 := Fr.app N9 N15q
  have K15 : ∀ t, Steps p.tables e below (T15.setTop (mkF m 69 #[.val (.long qa), .second, .val (.long qb), .second, .val (.long qc), .second, .val (.long qd), .second, .val (.long qe), .second, .val (.long qf), .second, .val (.ref b1), .val (.ref b6), .unset, .unset, .unset, .unset, .unset, .unset, .unset, .unset, .unset, .unset, .unset, .unset, .unset, .unset, .unset] [(.ref b12)])) t → Steps p.tables e below G0 t := fun t kt => K14 t (st15.trans kt)
  have ZZ13 : n0 ≤ T15.heap.size := Nat.le_trans Z12 KK13.1
  have K16 : ∀ t, Steps p.tables e below (T15.setTop (mkF m 71 #[.val (.long qa), .second, .val (.long qb), .second, .val (.long qc), .second, .val (.long qd), .second, .val (.long qe), .second, .val (.long qf), .second, .val (.ref b1), .val (.ref b6), .val (.ref b12), .unset, .unset, .unset, .unset, .unset, .unset, .unset, .unset, .unset, .unset, .unset, .unset, .unset, .unset] [])) t → Steps p.tables e below G0 t := by
    intro t kt
    refine K15 t ?_
    refine XS.astore X15.here hx rfl (hb hby at_69) rfl rfl (l' := #[.val (.long qa), .second, .val (.long qb), .second, .val (.long qc), .second, .val (.long qd), .second, .val (.long qe), .second, .val (.long qf), .second, .val (.ref b1), .val (.ref b6), .val (.ref b12), .unset, .unset, .unset, .unset, .unset, .unset, .unset, .unset, .unset, .unset, .unset, .unset, .unset, .unset]) rfl ?_
    show Steps p.tables e below (T15.setTop (mkF m 71 #[.val (.long qa), .second, .val (.long qb), .second, .val (.long qc), .second, .val (.long qd), .second, .val (.long qe), .second, .val (.long qf), .second, .val (.ref b1), .val (.ref b6), .val (.ref b12), .unset, .unset, .unset, .unset, .unset, .unset, .unset, .unset, .unset, .unset, .unset, .unset, .unset, .unset] [])) _
    exact kt
  have f17 := ((f11.ext E12).keep KK13)
  have f18 := ((EE7.ext E12).keep KK13)
  obtain ⟨T19, h19, X19, e19, E19, A19, D19, -, st19⟩ := newO X15 hx hZ hown (hw _ (List.mem_of_getElem? (i := 0) rfl)) (hw _ (List.mem_of_getElem? (i := 1) rfl)) (hw _ (List.mem_of_getElem? (i := 2) rfl)) (rfl : T15.heap = _) (g := (mkF m 71 #[.val (.long qa), .second, .val (.long qb), .second, .val (.long qc), .second, .val (.long qd), .second, .val (.long qe), .second, .val (.long qf), .second, .val (.ref b1), .val (.ref b6), .val (.ref b12), .unset, .unset, .unset, .unset, .unset, .unset, .unset, .unset, .unset, .unset, .unset, .unset, .unset, .unset] [])) rfl (hb hby at_71) (by decide) (by decide)
  obtain ⟨b19, g19⟩ : ∃ z, z = T15.heap.size := ⟨_, rfl⟩
  rw [← g19] at A19 D19 st19
  have gn19 : n0 ≤ b19 := Nat.le_trans ZZ13 (Nat.le_of_eq g19.symm)
  have Z19 : n0 ≤ h19.size := Nat.le_trans ZZ13 E19.1
  have K19 : ∀ t, Steps p.tables e below (T19.setTop (mkF m 74 #[.val (.long qa), .second, .val (.long qb), .second, .val (.long qc), .second, .val (.long qd), .second, .val (.long qe), .second, .val (.long qf), .second, .val (.ref b1), .val (.ref b6), .val (.ref b12), .unset, .unset, .unset, .unset, .unset, .unset, .unset, .unset, .unset, .unset, .unset, .unset, .unset, .unset] [(.ref b19)])) t → Steps p.tables e below G0 t := fun t kt => K16 t (st19 _ kt)
  have ne_b1_b19 : b1 ≠ b19 := Nat.ne_of_lt (Nat.lt_of_lt_of_le (f17).lt (Nat.le_of_eq g19.symm))
  have ne_b6_b19 : b6 ≠ b19 := Nat.ne_of_lt (Nat.lt_of_lt_of_le (f18).lt (Nat.le_of_eq g19.symm))
  have ne_b12_b19 : b12 ≠ b19 := Nat.ne_of_lt (Nat.lt_of_lt_of_le (EE13).lt (Nat.le_of_eq g19.symm))
  have F_lectures_b19 := (D19 (Or.inr (hw _ (List.mem_of_getElem? (i := 15) rfl))) (ty := .long) (by decide) : Fld Z h19 b19 "com/example/horarium/horarium/engine/Score" "lectures" "J" (.long (0 : Int64)))
  have F_conflicts_b19 := (D19 (Or.inr (hw _ (List.mem_of_getElem? (i := 17) rfl))) (ty := .long) (by decide) : Fld Z h19 b19 "com/example/horarium/horarium/engine/Score" "conflicts" "J" (.long (0 : Int64)))
  have F_availability_b19 := (D19 (Or.inr (hw _ (List.mem_of_getElem? (i := 19) rfl))) (ty := .long) (by decide) : Fld Z h19 b19 "com/example/horarium/horarium/engine/Score" "availability" "J" (.long (0 : Int64)))
  have F_roomOccupation_b19 := (D19 (Or.inr (hw _ (List.mem_of_getElem? (i := 21) rfl))) (ty := .long) (by decide) : Fld Z h19 b19 "com/example/horarium/horarium/engine/Score" "roomOccupation" "J" (.long (0 : Int64)))
  have F_roomCapacity_b19 := (D19 (Or.inr (hw _ (List.mem_of_getElem? (i := 23) rfl))) (ty := .long) (by decide) : Fld Z h19 b19 "com/example/horarium/horarium/engine/Score" "roomCapacity" "J" (.long (0 : Int64)))
  have F_minWorkingDays_b19 := (D19 (Or.inr (hw _ (List.mem_of_getElem? (i := 25) rfl))) (ty := .long) (by decide) : Fld Z h19 b19 "com/example/horarium/horarium/engine/Score" "minWorkingDays" "J" (.long (0 : Int64)))
  have F_curriculumCompactness_b19 := (D19 (Or.inr (hw _ (List.mem_of_getElem? (i := 27) rfl))) (ty := .long) (by decide) : Fld Z h19 b19 "com/example/horarium/horarium/engine/Score" "curriculumCompactness" "J" (.long (0 : Int64)))
  have F_roomStability_b19 := (D19 (Or.inr (hw _ (List.mem_of_getElem? (i := 29) rfl))) (ty := .long) (by decide) : Fld Z h19 b19 "com/example/horarium/horarium/engine/Score" "roomStability" "J" (.long (0 : Int64)))
  have K21 : ∀ t, Steps p.tables e below (T19.setTop (mkF m 88 #[.val (.long qa), .second, .val (.long qb), .second, .val (.long qc), .second, .val (.long qd), .second, .val (.long qe), .second, .val (.long qf), .second, .val (.ref b1), .val (.ref b6), .val (.ref b12), .unset, .unset, .unset, .unset, .unset, .unset, .unset, .unset, .unset, .unset, .unset, .unset, .unset, .unset] [(.long qf), (.long qf), (.long qe), (.long qe), (.long (0 : Int64)), (.long qc), (.long (0 : Int64)), (.long (0 : Int64)), (.ref b19), (.ref b19)])) t → Steps p.tables e below G0 t := by
    intro t kt
    refine K19 t ?_
    refine XS.dup X19.here hx rfl (hb hby at_74) rfl rfl ?_
    show Steps p.tables e below (T19.setTop (mkF m 75 #[.val (.long qa), .second, .val (.long qb), .second, .val (.long qc), .second, .val (.long qd), .second, .val (.long qe), .second, .val (.long qf), .second, .val (.ref b1), .val (.ref b6), .val (.ref b12), .unset, .unset, .unset, .unset, .unset, .unset, .unset, .unset, .unset, .unset, .unset, .unset, .unset, .unset] [(.ref b19), (.ref b19)])) _
    refine XS.lconst X19.here hx rfl (hb hby at_75) ?_
    show Steps p.tables e below (T19.setTop (mkF m 76 #[.val (.long qa), .second, .val (.long qb), .second, .val (.long qc), .second, .val (.long qd), .second, .val (.long qe), .second, .val (.long qf), .second, .val (.ref b1), .val (.ref b6), .val (.ref b12), .unset, .unset, .unset, .unset, .unset, .unset, .unset, .unset, .unset, .unset, .unset, .unset, .unset, .unset] [(.long (0 : Int64)), (.ref b19), (.ref b19)])) _
    refine XS.lconst X19.here hx rfl (hb hby at_76) ?_
    show Steps p.tables e below (T19.setTop (mkF m 77 #[.val (.long qa), .second, .val (.long qb), .second, .val (.long qc), .second, .val (.long qd), .second, .val (.long qe), .second, .val (.long qf), .second, .val (.ref b1), .val (.ref b6), .val (.ref b12), .unset, .unset, .unset, .unset, .unset, .unset, .unset, .unset, .unset, .unset, .unset, .unset, .unset, .unset] [(.long (0 : Int64)), (.long (0 : Int64)), (.ref b19), (.ref b19)])) _
    refine XS.lload X19.here hx rfl (hb hby at_77) rfl ?_
    show Steps p.tables e below (T19.setTop (mkF m 79 #[.val (.long qa), .second, .val (.long qb), .second, .val (.long qc), .second, .val (.long qd), .second, .val (.long qe), .second, .val (.long qf), .second, .val (.ref b1), .val (.ref b6), .val (.ref b12), .unset, .unset, .unset, .unset, .unset, .unset, .unset, .unset, .unset, .unset, .unset, .unset, .unset, .unset] [(.long qc), (.long (0 : Int64)), (.long (0 : Int64)), (.ref b19), (.ref b19)])) _
    refine XS.lconst X19.here hx rfl (hb hby at_79) ?_
    show Steps p.tables e below (T19.setTop (mkF m 80 #[.val (.long qa), .second, .val (.long qb), .second, .val (.long qc), .second, .val (.long qd), .second, .val (.long qe), .second, .val (.long qf), .second, .val (.ref b1), .val (.ref b6), .val (.ref b12), .unset, .unset, .unset, .unset, .unset, .unset, .unset, .unset, .unset, .unset, .unset, .unset, .unset, .unset] [(.long (0 : Int64)), (.long qc), (.long (0 : Int64)), (.long (0 : Int64)), (.ref b19), (.ref b19)])) _
    refine XS.lload X19.here hx rfl (hb hby at_80) rfl ?_
    show Steps p.tables e below (T19.setTop (mkF m 82 #[.val (.long qa), .second, .val (.long qb), .second, .val (.long qc), .second, .val (.long qd), .second, .val (.long qe), .second, .val (.long qf), .second, .val (.ref b1), .val (.ref b6), .val (.ref b12), .unset, .unset, .unset, .unset, .unset, .unset, .unset, .unset, .unset, .unset, .unset, .unset, .unset, .unset] [(.long qe), (.long (0 : Int64)), (.long qc), (.long (0 : Int64)), (.long (0 : Int64)), (.ref b19), (.ref b19)])) _
    refine XS.lload X19.here hx rfl (hb hby at_82) rfl ?_
    show Steps p.tables e below (T19.setTop (mkF m 84 #[.val (.long qa), .second, .val (.long qb), .second, .val (.long qc), .second, .val (.long qd), .second, .val (.long qe), .second, .val (.long qf), .second, .val (.ref b1), .val (.ref b6), .val (.ref b12), .unset, .unset, .unset, .unset, .unset, .unset, .unset, .unset, .unset, .unset, .unset, .unset, .unset, .unset] [(.long qe), (.long qe), (.long (0 : Int64)), (.long qc), (.long (0 : Int64)), (.long (0 : Int64)), (.ref b19), (.ref b19)])) _
    refine XS.lload X19.here hx rfl (hb hby at_84) rfl ?_
    show Steps p.tables e below (T19.setTop (mkF m 86 #[.val (.long qa), .second, .val (.long qb), .second, .val (.long qc), .second, .val (.long qd), .second, .val (.long qe), .second, .val (.long qf), .second, .val (.ref b1), .val (.ref b6), .val (.ref b12), .unset, .unset, .unset, .unset, .unset, .unset, .unset, .unset, .unset, .unset, .unset, .unset, .unset, .unset] [(.long qf), (.long qe), (.long qe), (.long (0 : Int64)), (.long qc), (.long (0 : Int64)), (.long (0 : Int64)), (.ref b19), (.ref b19)])) _
    refine XS.lload X19.here hx rfl (hb hby at_86) rfl ?_
    show Steps p.tables e below (T19.setTop (mkF m 88 #[.val (.long qa), .second, .val (.long qb), .second, .val (.long qc), .second, .val (.long qd), .second, .val (.long qe), .second, .val (.long qf), .second, .val (.ref b1), .val (.ref b6), .val (.ref b12), .unset, .unset, .unset, .unset, .unset, .unset, .unset, .unset, .unset, .unset, .unset, .unset, .unset, .unset] [(.long qf), (.long qf), (.long qe), (.long qe), (.long (0 : Int64)), (.long qc), (.long (0 : Int64)), (.long (0 : Int64)), (.ref b19), (.ref b19)])) _
    exact kt
  obtain ⟨_, _, ⟨T22, L22, k22, n22⟩, -, X22, ⟨Lc22, hQ22, l22, y22, z22⟩, st22⟩ := X19.specialBack hx (y := (⟨"com/example/horarium/horarium/engine/Score", "<init>", "(JJJJJJJJ)V"⟩ : MethodName)) rfl hown (mvT hZ (hw _ (List.mem_of_getElem? (i := 3) rfl))) (mvT hZ (hw _ (List.mem_of_getElem? (i := 4) rfl))) (mvT hZ (hw _ (List.mem_of_getElem? (i := 5) rfl))) (by decide) (backOf (W := 1) (rm1 l Z aa hw [] (b19) ((0 : Int64)) ((0 : Int64)) (qc) ((0 : Int64)) (qe) (qe) (qf) (qf) _ _ _ _ _ _ _ _ h19 n0 Z19 gn19 A19 F_lectures_b19 F_conflicts_b19 F_availability_b19 F_roomOccupation_b19 F_roomCapacity_b19 F_minWorkingDays_b19 F_curriculumCompactness_b19 F_roomStability_b19) hZ (hw _ (List.mem_of_getElem? (i := 5) rfl)) (hw _ (List.mem_of_getElem? (i := 2) rfl)) (by decide) (by decide)) (g := (mkF m 88 #[.val (.long qa), .second, .val (.long qb), .second, .val (.long qc), .second, .val (.long qd), .second, .val (.long qe), .second, .val (.long qf), .second, .val (.ref b1), .val (.ref b6), .val (.ref b12), .unset, .unset, .unset, .unset, .unset, .unset, .unset, .unset, .unset, .unset, .unset, .unset, .unset, .unset] [(.long qf), (.long qf), (.long qe), (.long qe), (.long (0 : Int64)), (.long qc), (.long (0 : Int64)), (.long (0 : Int64)), (.ref b19), (.ref b19)])) rfl (by rw [hml]; rfl) (Steps.refl _) (a := b19) (argsL := [(.long (0 : Int64)), (.long (0 : Int64)), (.long qc), (.long (0 : Int64)), (.long qe), (.long qe), (.long qf), (.long qf)]) (rest := [(.ref b19)]) (lenOf pd_PJJJJJJJJQV rfl) rfl (by show 2 * 0 + _ ≤ _; exact Nat.le_of_eq rfl) (hb hby at_88) (fun _ _ => ⟨rfl, e19, (by decide : 4 + 0 ≤ _), (by decide : 32 + 0 ≤ _)⟩)
  dsimp only [Pt.U, Pt.locs, Pt.cells, Pt.slots] at X22 l22 y22 z22 st22 hQ22
  subst l22 y22 z22
  obtain ⟨rfl, N22q, KK20, EE20, Fc0_20, Fc1_20, Fc2_20, Fc3_20, Fc4_20, Fc5_20, Fc6_20, Fc7_20⟩ := hQ22
  have N22 := Fr.app N15 N22q
  have K22 : ∀ t, Steps p.tables e below (T22.setTop (mkF m 91 #[.val (.long qa), .second, .val (.long qb), .second, .val (.long qc), .second, .val (.long qd), .second, .val (.long qe), .second, .val (.long qf), .second, .val (.ref b1), .val (.ref b6), .val (.ref b12), .unset, .unset, .unset, .unset, .unset, .unset, .unset, .unset, .unset, .unset, .unset, .unset, .unset, .unset] [(.ref b19)])) t → Steps p.tables e below G0 t := fun t kt => K21 t (st22.trans kt)
  have ZZ20 : n0 ≤ T22.heap.size := Nat.le_trans Z19 KK20.1
  have K23 : ∀ t, Steps p.tables e below (T22.setTop (mkF m 93 #[.val (.long qa), .second, .val (.long qb), .second, .val (.long qc), .second, .val (.long qd), .second, .val (.long qe), .second, .val (.long qf), .second, .val (.ref b1), .val (.ref b6), .val (.ref b12), .val (.ref b19), .unset, .unset, .unset, .unset, .unset, .unset, .unset, .unset, .unset, .unset, .unset, .unset, .unset] [])) t → Steps p.tables e below G0 t := by
    intro t kt
    refine K22 t ?_
    refine XS.astore X22.here hx rfl (hb hby at_91) rfl rfl (l' := #[.val (.long qa), .second, .val (.long qb), .second, .val (.long qc), .second, .val (.long qd), .second, .val (.long qe), .second, .val (.long qf), .second, .val (.ref b1), .val (.ref b6), .val (.ref b12), .val (.ref b19), .unset, .unset, .unset, .unset, .unset, .unset, .unset, .unset, .unset, .unset, .unset, .unset, .unset]) rfl ?_
    show Steps p.tables e below (T22.setTop (mkF m 93 #[.val (.long qa), .second, .val (.long qb), .second, .val (.long qc), .second, .val (.long qd), .second, .val (.long qe), .second, .val (.long qf), .second, .val (.ref b1), .val (.ref b6), .val (.ref b12), .val (.ref b19), .unset, .unset, .unset, .unset, .unset, .unset, .unset, .unset, .unset, .unset, .unset, .unset, .unset] [])) _
    exact kt
  have f24 := ((f17.ext E19).keep KK20)
  have f25 := ((f18.ext E19).keep KK20)
  have f26 := ((EE13.ext E19).keep KK20)
  obtain ⟨T27, h27, X27, e27, E27, A27, D27, -, st27⟩ := newO X22 hx hZ hown (hw _ (List.mem_of_getElem? (i := 0) rfl)) (hw _ (List.mem_of_getElem? (i := 1) rfl)) (hw _ (List.mem_of_getElem? (i := 2) rfl)) (rfl : T22.heap = _) (g := (mkF m 93 #[.val (.long qa), .second, .val (.long qb), .second, .val (.long qc), .second, .val (.long qd), .second, .val (.long qe), .second, .val (.long qf), .second, .val (.ref b1), .val (.ref b6), .val (.ref b12), .val (.ref b19), .unset, .unset, .unset, .unset, .unset, .unset, .unset, .unset, .unset, .unset, .unset, .unset, .unset] [])) rfl (hb hby at_93) (by decide) (by decide)
  obtain ⟨b27, g27⟩ : ∃ z, z = T22.heap.size := ⟨_, rfl⟩
  rw [← g27] at A27 D27 st27
  have gn27 : n0 ≤ b27 := Nat.le_trans ZZ20 (Nat.le_of_eq g27.symm)
  have Z27 : n0 ≤ h27.size := Nat.le_trans ZZ20 E27.1
  have K27 : ∀ t, Steps p.tables e below (T27.setTop (mkF m 96 #[.val (.long qa), .second, .val (.long qb), .second, .val (.long qc), .second, .val (.long qd), .second, .val (.long qe), .second, .val (.long qf), .second, .val (.ref b1), .val (.ref b6), .val (.ref b12), .val (.ref b19), .unset, .unset, .unset, .unset, .unset, .unset, .unset, .unset, .unset, .unset, .unset, .unset, .unset] [(.ref b27)])) t → Steps p.tables e below G0 t := fun t kt => K23 t (st27 _ kt)
  have ne_b1_b27 : b1 ≠ b27 := Nat.ne_of_lt (Nat.lt_of_lt_of_le (f24).lt (Nat.le_of_eq g27.symm))
  have ne_b6_b27 : b6 ≠ b27 := Nat.ne_of_lt (Nat.lt_of_lt_of_le (f25).lt (Nat.le_of_eq g27.symm))
  have ne_b12_b27 : b12 ≠ b27 := Nat.ne_of_lt (Nat.lt_of_lt_of_le (f26).lt (Nat.le_of_eq g27.symm))
  have ne_b19_b27 : b19 ≠ b27 := Nat.ne_of_lt (Nat.lt_of_lt_of_le (EE20).lt (Nat.le_of_eq g27.symm))
  have F_lectures_b27 := (D27 (Or.inr (hw _ (List.mem_of_getElem? (i := 15) rfl))) (ty := .long) (by decide) : Fld Z h27 b27 "com/example/horarium/horarium/engine/Score" "lectures" "J" (.long (0 : Int64)))
  have F_conflicts_b27 := (D27 (Or.inr (hw _ (List.mem_of_getElem? (i := 17) rfl))) (ty := .long) (by decide) : Fld Z h27 b27 "com/example/horarium/horarium/engine/Score" "conflicts" "J" (.long (0 : Int64)))
  have F_availability_b27 := (D27 (Or.inr (hw _ (List.mem_of_getElem? (i := 19) rfl))) (ty := .long) (by decide) : Fld Z h27 b27 "com/example/horarium/horarium/engine/Score" "availability" "J" (.long (0 : Int64)))
  have F_roomOccupation_b27 := (D27 (Or.inr (hw _ (List.mem_of_getElem? (i := 21) rfl))) (ty := .long) (by decide) : Fld Z h27 b27 "com/example/horarium/horarium/engine/Score" "roomOccupation" "J" (.long (0 : Int64)))
  have F_roomCapacity_b27 := (D27 (Or.inr (hw _ (List.mem_of_getElem? (i := 23) rfl))) (ty := .long) (by decide) : Fld Z h27 b27 "com/example/horarium/horarium/engine/Score" "roomCapacity" "J" (.long (0 : Int64)))
  have F_minWorkingDays_b27 := (D27 (Or.inr (hw _ (List.mem_of_getElem? (i := 25) rfl))) (ty := .long) (by decide) : Fld Z h27 b27 "com/example/horarium/horarium/engine/Score" "minWorkingDays" "J" (.long (0 : Int64)))
  have F_curriculumCompactness_b27 := (D27 (Or.inr (hw _ (List.mem_of_getElem? (i := 27) rfl))) (ty := .long) (by decide) : Fld Z h27 b27 "com/example/horarium/horarium/engine/Score" "curriculumCompactness" "J" (.long (0 : Int64)))
  have F_roomStability_b27 := (D27 (Or.inr (hw _ (List.mem_of_getElem? (i := 29) rfl))) (ty := .long) (by decide) : Fld Z h27 b27 "com/example/horarium/horarium/engine/Score" "roomStability" "J" (.long (0 : Int64)))
  have K29 : ∀ t, Steps p.tables e below (T27.setTop (mkF m 110 #[.val (.long qa), .second, .val (.long qb), .second, .val (.long qc), .second, .val (.long qd), .second, .val (.long qe), .second, .val (.long qf), .second, .val (.ref b1), .val (.ref b6), .val (.ref b12), .val (.ref b19), .unset, .unset, .unset, .unset, .unset, .unset, .unset, .unset, .unset, .unset, .unset, .unset, .unset] [(.long qe), (.long qe), (.long qf), (.long qf), (.long qd), (.long (0 : Int64)), (.long (0 : Int64)), (.long (0 : Int64)), (.ref b27), (.ref b27)])) t → Steps p.tables e below G0 t := by
    intro t kt
    refine K27 t ?_
    refine XS.dup X27.here hx rfl (hb hby at_96) rfl rfl ?_
    show Steps p.tables e below (T27.setTop (mkF m 97 #[.val (.long qa), .second, .val (.long qb), .second, .val (.long qc), .second, .val (.long qd), .second, .val (.long qe), .second, .val (.long qf), .second, .val (.ref b1), .val (.ref b6), .val (.ref b12), .val (.ref b19), .unset, .unset, .unset, .unset, .unset, .unset, .unset, .unset, .unset, .unset, .unset, .unset, .unset] [(.ref b27), (.ref b27)])) _
    refine XS.lconst X27.here hx rfl (hb hby at_97) ?_
    show Steps p.tables e below (T27.setTop (mkF m 98 #[.val (.long qa), .second, .val (.long qb), .second, .val (.long qc), .second, .val (.long qd), .second, .val (.long qe), .second, .val (.long qf), .second, .val (.ref b1), .val (.ref b6), .val (.ref b12), .val (.ref b19), .unset, .unset, .unset, .unset, .unset, .unset, .unset, .unset, .unset, .unset, .unset, .unset, .unset] [(.long (0 : Int64)), (.ref b27), (.ref b27)])) _
    refine XS.lconst X27.here hx rfl (hb hby at_98) ?_
    show Steps p.tables e below (T27.setTop (mkF m 99 #[.val (.long qa), .second, .val (.long qb), .second, .val (.long qc), .second, .val (.long qd), .second, .val (.long qe), .second, .val (.long qf), .second, .val (.ref b1), .val (.ref b6), .val (.ref b12), .val (.ref b19), .unset, .unset, .unset, .unset, .unset, .unset, .unset, .unset, .unset, .unset, .unset, .unset, .unset] [(.long (0 : Int64)), (.long (0 : Int64)), (.ref b27), (.ref b27)])) _
    refine XS.lconst X27.here hx rfl (hb hby at_99) ?_
    show Steps p.tables e below (T27.setTop (mkF m 100 #[.val (.long qa), .second, .val (.long qb), .second, .val (.long qc), .second, .val (.long qd), .second, .val (.long qe), .second, .val (.long qf), .second, .val (.ref b1), .val (.ref b6), .val (.ref b12), .val (.ref b19), .unset, .unset, .unset, .unset, .unset, .unset, .unset, .unset, .unset, .unset, .unset, .unset, .unset] [(.long (0 : Int64)), (.long (0 : Int64)), (.long (0 : Int64)), (.ref b27), (.ref b27)])) _
    refine XS.lload X27.here hx rfl (hb hby at_100) rfl ?_
    show Steps p.tables e below (T27.setTop (mkF m 102 #[.val (.long qa), .second, .val (.long qb), .second, .val (.long qc), .second, .val (.long qd), .second, .val (.long qe), .second, .val (.long qf), .second, .val (.ref b1), .val (.ref b6), .val (.ref b12), .val (.ref b19), .unset, .unset, .unset, .unset, .unset, .unset, .unset, .unset, .unset, .unset, .unset, .unset, .unset] [(.long qd), (.long (0 : Int64)), (.long (0 : Int64)), (.long (0 : Int64)), (.ref b27), (.ref b27)])) _
    refine XS.lload X27.here hx rfl (hb hby at_102) rfl ?_
    show Steps p.tables e below (T27.setTop (mkF m 104 #[.val (.long qa), .second, .val (.long qb), .second, .val (.long qc), .second, .val (.long qd), .second, .val (.long qe), .second, .val (.long qf), .second, .val (.ref b1), .val (.ref b6), .val (.ref b12), .val (.ref b19), .unset, .unset, .unset, .unset, .unset, .unset, .unset, .unset, .unset, .unset, .unset, .unset, .unset] [(.long qf), (.long qd), (.long (0 : Int64)), (.long (0 : Int64)), (.long (0 : Int64)), (.ref b27), (.ref b27)])) _
    refine XS.lload X27.here hx rfl (hb hby at_104) rfl ?_
    show Steps p.tables e below (T27.setTop (mkF m 106 #[.val (.long qa), .second, .val (.long qb), .second, .val (.long qc), .second, .val (.long qd), .second, .val (.long qe), .second, .val (.long qf), .second, .val (.ref b1), .val (.ref b6), .val (.ref b12), .val (.ref b19), .unset, .unset, .unset, .unset, .unset, .unset, .unset, .unset, .unset, .unset, .unset, .unset, .unset] [(.long qf), (.long qf), (.long qd), (.long (0 : Int64)), (.long (0 : Int64)), (.long (0 : Int64)), (.ref b27), (.ref b27)])) _
    refine XS.lload X27.here hx rfl (hb hby at_106) rfl ?_
    show Steps p.tables e below (T27.setTop (mkF m 108 #[.val (.long qa), .second, .val (.long qb), .second, .val (.long qc), .second, .val (.long qd), .second, .val (.long qe), .second, .val (.long qf), .second, .val (.ref b1), .val (.ref b6), .val (.ref b12), .val (.ref b19), .unset, .unset, .unset, .unset, .unset, .unset, .unset, .unset, .unset, .unset, .unset, .unset, .unset] [(.long qe), (.long qf), (.long qf), (.long qd), (.long (0 : Int64)), (.long (0 : Int64)), (.long (0 : Int64)), (.ref b27), (.ref b27)])) _
    refine XS.lload X27.here hx rfl (hb hby at_108) rfl ?_
    show Steps p.tables e below (T27.setTop (mkF m 110 #[.val (.long qa), .second, .val (.long qb), .second, .val (.long qc), .second, .val (.long qd), .second, .val (.long qe), .second, .val (.long qf), .second, .val (.ref b1), .val (.ref b6), .val (.ref b12), .val (.ref b19), .unset, .unset, .unset, .unset, .unset, .unset, .unset, .unset, .unset, .unset, .unset, .unset, .unset] [(.long qe), (.long qe), (.long qf), (.long qf), (.long qd), (.long (0 : Int64)), (.long (0 : Int64)), (.long (0 : Int64)), (.ref b27), (.ref b27)])) _
    exact kt
  obtain ⟨_, _, ⟨T30, L30, k30, n30⟩, -, X30, ⟨Lc30, hQ30, l30, y30, z30⟩, st30⟩ := X27.specialBack hx (y := (⟨"com/example/horarium/horarium/engine/Score", "<init>", "(JJJJJJJJ)V"⟩ : MethodName)) rfl hown (mvT hZ (hw _ (List.mem_of_getElem? (i := 3) rfl))) (mvT hZ (hw _ (List.mem_of_getElem? (i := 4) rfl))) (mvT hZ (hw _ (List.mem_of_getElem? (i := 5) rfl))) (by decide) (backOf (W := 1) (rm1 l Z aa hw [] (b27) ((0 : Int64)) ((0 : Int64)) ((0 : Int64)) (qd) (qf) (qf) (qe) (qe) _ _ _ _ _ _ _ _ h27 n0 Z27 gn27 A27 F_lectures_b27 F_conflicts_b27 F_availability_b27 F_roomOccupation_b27 F_roomCapacity_b27 F_minWorkingDays_b27 F_curriculumCompactness_b27 F_roomStability_b27) hZ (hw _ (List.mem_of_getElem? (i := 5) rfl)) (hw _ (List.mem_of_getElem? (i := 2) rfl)) (by decide) (by decide)) (g := (mkF m 110 #[.val (.long qa), .second, .val (.long qb), .second, .val (.long qc), .second, .val (.long qd), .second, .val (.long qe), .second, .val (.long qf), .second, .val (.ref b1), .val (.ref b6), .val (.ref b12), .val (.ref b19), .unset, .unset, .unset, .unset, .unset, .unset, .unset, .unset, .unset, .unset, .unset, .unset, .unset] [(.long qe), (.long qe), (.long qf), (.long qf), (.long qd), (.long (0 : Int64)), (.long (0 : Int64)), (.long (0 : Int64)), (.ref b27), (.ref b27)])) rfl (by rw [hml]; rfl) (Steps.refl _) (a := b27) (argsL := [(.long (0 : Int64)), (.long (0 : Int64)), (.long (0 : Int64)), (.long qd), (.long qf), (.long qf), (.long qe), (.long qe)]) (rest := [(.ref b27)]) (lenOf pd_PJJJJJJJJQV rfl) rfl (by show 2 * 0 + _ ≤ _; exact Nat.le_of_eq rfl) (hb hby at_110) (fun _ _ => ⟨rfl, e27, (by decide : 5 + 0 ≤ _), (by decide : 40 + 0 ≤ _)⟩)
  dsimp only [Pt.U, Pt.locs, Pt.cells, Pt.slots] at X30 l30 y30 z30 st30 hQ30
  subst l30 y30 z30
  obtain ⟨rfl, N30q, KK28, EE28, Fc0_28, Fc1_28, Fc2_28, Fc3_28, Fc4_28, Fc5_28, Fc6_28, Fc7_28⟩ := hQ30
  have N30 := Fr.app N22 N30q
  have K30 : ∀ t, Steps p.tables e below (T30.setTop (mkF m 113 #[.val (.long qa), .second, .val (.long qb), .second, .val (.long qc), .second, .val (.long qd), .second, .val (.long qe), .second, .val (.long qf), .second, .val (.ref b1), .val (.ref b6), .val (.ref b12), .val (.ref b19), .unset, .unset, .unset, .unset, .unset, .unset, .unset, .unset, .unset, .unset, .unset, .unset, .unset] [(.ref b27)])) t → Steps p.tables e below G0 t := fun t kt => K29 t (st30.trans kt)
  have ZZ28 : n0 ≤ T30.heap.size := Nat.le_trans Z27 KK28.1
  have K31 : ∀ t, Steps p.tables e below (T30.setTop (mkF m 117 #[.val (.long qa), .second, .val (.long qb), .second, .val (.long qc), .second, .val (.long qd), .second, .val (.long qe), .second, .val (.long qf), .second, .val (.ref b1), .val (.ref b6), .val (.ref b12), .val (.ref b19), .val (.ref b27), .unset, .unset, .unset, .unset, .unset, .unset, .unset, .unset, .unset, .unset, .unset, .unset] [(.ref b6)])) t → Steps p.tables e below G0 t := by
    intro t kt
    refine K30 t ?_
    refine XS.astore X30.here hx rfl (hb hby at_113) rfl rfl (l' := #[.val (.long qa), .second, .val (.long qb), .second, .val (.long qc), .second, .val (.long qd), .second, .val (.long qe), .second, .val (.long qf), .second, .val (.ref b1), .val (.ref b6), .val (.ref b12), .val (.ref b19), .val (.ref b27), .unset, .unset, .unset, .unset, .unset, .unset, .unset, .unset, .unset, .unset, .unset, .unset]) rfl ?_
    show Steps p.tables e below (T30.setTop (mkF m 115 #[.val (.long qa), .second, .val (.long qb), .second, .val (.long qc), .second, .val (.long qd), .second, .val (.long qe), .second, .val (.long qf), .second, .val (.ref b1), .val (.ref b6), .val (.ref b12), .val (.ref b19), .val (.ref b27), .unset, .unset, .unset, .unset, .unset, .unset, .unset, .unset, .unset, .unset, .unset, .unset] [])) _
    refine XS.aload X30.here hx rfl (hb hby at_115) rfl rfl ?_
    show Steps p.tables e below (T30.setTop (mkF m 117 #[.val (.long qa), .second, .val (.long qb), .second, .val (.long qc), .second, .val (.long qd), .second, .val (.long qe), .second, .val (.long qf), .second, .val (.ref b1), .val (.ref b6), .val (.ref b12), .val (.ref b19), .val (.ref b27), .unset, .unset, .unset, .unset, .unset, .unset, .unset, .unset, .unset, .unset, .unset, .unset] [(.ref b6)])) _
    exact kt
  have f32 := ((((((Fc0_7.ext E12).keep KK13 (fun q => ne_b6_b12 (List.mem_singleton.mp q))).ext E19).keep KK20 (fun q => ne_b6_b19 (List.mem_singleton.mp q))).ext E27).keep KK28 (fun q => ne_b6_b27 (List.mem_singleton.mp q)))
  have f33 := ((((((Fc1_7.ext E12).keep KK13 (fun q => ne_b6_b12 (List.mem_singleton.mp q))).ext E19).keep KK20 (fun q => ne_b6_b19 (List.mem_singleton.mp q))).ext E27).keep KK28 (fun q => ne_b6_b27 (List.mem_singleton.mp q)))
  have f34 := ((((((Fc2_7.ext E12).keep KK13 (fun q => ne_b6_b12 (List.mem_singleton.mp q))).ext E19).keep KK20 (fun q => ne_b6_b19 (List.mem_singleton.mp q))).ext E27).keep KK28 (fun q => ne_b6_b27 (List.mem_singleton.mp q)))
  have f35 := ((((((Fc3_7.ext E12).keep KK13 (fun q => ne_b6_b12 (List.mem_singleton.mp q))).ext E19).keep KK20 (fun q => ne_b6_b19 (List.mem_singleton.mp q))).ext E27).keep KK28 (fun q => ne_b6_b27 (List.mem_singleton.mp q)))
  have f36 := ((f25.ext E27).keep KK28)
  obtain ⟨cq37, kq37, q37a, q37b, q37c⟩ := isOf hZ (rfl : T30.heap = _) f36
  obtain ⟨_, _, ⟨T38, L38, k38, n38⟩, -, X38, ⟨Lc38, hQ38, l38, y38, z38⟩, st38⟩ := X30.virtualBack hx (y := (⟨"com/example/horarium/horarium/engine/Score", "hard", "()J"⟩ : MethodName)) (z := (⟨"com/example/horarium/horarium/engine/Score", "hard", "()J"⟩ : MethodName)) hown (mvT hZ (hw _ (List.mem_of_getElem? (i := 30) rfl))) (mvT hZ (hw _ (List.mem_of_getElem? (i := 31) rfl))) (notFace_of_selects (args := #[]) (mvT hZ (hw _ (List.mem_of_getElem? (i := 33) rfl)))) (mvT hZ (hw _ (List.mem_of_getElem? (i := 33) rfl))) (mvT hZ (hw _ (List.mem_of_getElem? (i := 32) rfl))) (by decide) (backOf (W := 0) (rm4 l Z aa hw [] (b6) (qa) ((0 : Int64)) ((0 : Int64)) ((0 : Int64)) T30.heap n0 ZZ28 f32 f33 f34 f35) hZ (hw _ (List.mem_of_getElem? (i := 34) rfl)) (hw _ (List.mem_of_getElem? (i := 2) rfl)) (by decide) (by decide)) q37a q37c (g := (mkF m 117 #[.val (.long qa), .second, .val (.long qb), .second, .val (.long qc), .second, .val (.long qd), .second, .val (.long qe), .second, .val (.long qf), .second, .val (.ref b1), .val (.ref b6), .val (.ref b12), .val (.ref b19), .val (.ref b27), .unset, .unset, .unset, .unset, .unset, .unset, .unset, .unset, .unset, .unset, .unset, .unset] [(.ref b6)])) rfl (by rw [hml]; rfl) (Steps.refl _) (argsL := []) (rest := []) (lenOf pd_PQJ rfl) rfl (by show 2 * 0 + _ ≤ _; exact Nat.le_of_eq rfl) (hb hby at_117) (fun _ _ => ⟨rfl, (rfl : T30.heap = _), (by decide : 5 + 0 ≤ _), (by decide : 40 + 0 ≤ _)⟩)
  dsimp only [Pt.U, Pt.locs, Pt.cells, Pt.slots] at X38 l38 y38 z38 st38 hQ38
  subst l38 y38 z38
  obtain ⟨rfl, N38q, e38⟩ := hQ38
  have N38 := Fr.app N30 N38q
  have K38 : ∀ t, Steps p.tables e below (T38.setTop (mkF m 120 #[.val (.long qa), .second, .val (.long qb), .second, .val (.long qc), .second, .val (.long qd), .second, .val (.long qe), .second, .val (.long qf), .second, .val (.ref b1), .val (.ref b6), .val (.ref b12), .val (.ref b19), .val (.ref b27), .unset, .unset, .unset, .unset, .unset, .unset, .unset, .unset, .unset, .unset, .unset, .unset] [(.long (qa + (0 : Int64) + (0 : Int64) + (0 : Int64)))])) t → Steps p.tables e below G0 t := fun t kt => K31 t (st38.trans kt)
  have K39 : ∀ t, Steps p.tables e below (T38.setTop (mkF m 124 #[.val (.long qa), .second, .val (.long qb), .second, .val (.long qc), .second, .val (.long qd), .second, .val (.long qe), .second, .val (.long qf), .second, .val (.ref b1), .val (.ref b6), .val (.ref b12), .val (.ref b19), .val (.ref b27), .val (.long (qa + (0 : Int64) + (0 : Int64) + (0 : Int64))), .second, .unset, .unset, .unset, .unset, .unset, .unset, .unset, .unset, .unset, .unset] [(.ref b12)])) t → Steps p.tables e below G0 t := by
    intro t kt
    refine K38 t ?_
    refine XS.lstore X38.here hx rfl (hb hby at_120) rfl (l' := #[.val (.long qa), .second, .val (.long qb), .second, .val (.long qc), .second, .val (.long qd), .second, .val (.long qe), .second, .val (.long qf), .second, .val (.ref b1), .val (.ref b6), .val (.ref b12), .val (.ref b19), .val (.ref b27), .val (.long (qa + (0 : Int64) + (0 : Int64) + (0 : Int64))), .second, .unset, .unset, .unset, .unset, .unset, .unset, .unset, .unset, .unset, .unset]) rfl ?_
    show Steps p.tables e below (T38.setTop (mkF m 122 #[.val (.long qa), .second, .val (.long qb), .second, .val (.long qc), .second, .val (.long qd), .second, .val (.long qe), .second, .val (.long qf), .second, .val (.ref b1), .val (.ref b6), .val (.ref b12), .val (.ref b19), .val (.ref b27), .val (.long (qa + (0 : Int64) + (0 : Int64) + (0 : Int64))), .second, .unset, .unset, .unset, .unset, .unset, .unset, .unset, .unset, .unset, .unset] [])) _
    refine XS.aload X38.here hx rfl (hb hby at_122) rfl rfl ?_
    show Steps p.tables e below (T38.setTop (mkF m 124 #[.val (.long qa), .second, .val (.long qb), .second, .val (.long qc), .second, .val (.long qd), .second, .val (.long qe), .second, .val (.long qf), .second, .val (.ref b1), .val (.ref b6), .val (.ref b12), .val (.ref b19), .val (.ref b27), .val (.long (qa + (0 : Int64) + (0 : Int64) + (0 : Int64))), .second, .unset, .unset, .unset, .unset, .unset, .unset, .unset, .unset, .unset, .unset] [(.ref b12)])) _
    exact kt
  have f40 := ((((Fc0_13.ext E19).keep KK20 (fun q => ne_b12_b19 (List.mem_singleton.mp q))).ext E27).keep KK28 (fun q => ne_b12_b27 (List.mem_singleton.mp q)))
  have f41 := ((((Fc1_13.ext E19).keep KK20 (fun q => ne_b12_b19 (List.mem_singleton.mp q))).ext E27).keep KK28 (fun q => ne_b12_b27 (List.mem_singleton.mp q)))
  have f42 := ((((Fc2_13.ext E19).keep KK20 (fun q => ne_b12_b19 (List.mem_singleton.mp q))).ext E27).keep KK28 (fun q => ne_b12_b27 (List.mem_singleton.mp q)))
  have f43 := ((((Fc3_13.ext E19).keep KK20 (fun q => ne_b12_b19 (List.mem_singleton.mp q))).ext E27).keep KK28 (fun q => ne_b12_b27 (List.mem_singleton.mp q)))
  have f44 := ((f26.ext E27).keep KK28)
  obtain ⟨cq45, kq45, q45a, q45b, q45c⟩ := isOf hZ e38 f44
  obtain ⟨_, _, ⟨T46, L46, k46, n46⟩, -, X46, ⟨Lc46, hQ46, l46, y46, z46⟩, st46⟩ := X38.virtualBack hx (y := (⟨"com/example/horarium/horarium/engine/Score", "hard", "()J"⟩ : MethodName)) (z := (⟨"com/example/horarium/horarium/engine/Score", "hard", "()J"⟩ : MethodName)) hown (mvT hZ (hw _ (List.mem_of_getElem? (i := 30) rfl))) (mvT hZ (hw _ (List.mem_of_getElem? (i := 31) rfl))) (notFace_of_selects (args := #[]) (mvT hZ (hw _ (List.mem_of_getElem? (i := 33) rfl)))) (mvT hZ (hw _ (List.mem_of_getElem? (i := 33) rfl))) (mvT hZ (hw _ (List.mem_of_getElem? (i := 32) rfl))) (by decide) (backOf (W := 0) (rm4 l Z aa hw [] (b12) ((0 : Int64)) (qb) ((0 : Int64)) ((0 : Int64)) T30.heap n0 ZZ28 f40 f41 f42 f43) hZ (hw _ (List.mem_of_getElem? (i := 34) rfl)) (hw _ (List.mem_of_getElem? (i := 2) rfl)) (by decide) (by decide)) q45a q45c (g := (mkF m 124 #[.val (.long qa), .second, .val (.long qb), .second, .val (.long qc), .second, .val (.long qd), .second, .val (.long qe), .second, .val (.long qf), .second, .val (.ref b1), .val (.ref b6), .val (.ref b12), .val (.ref b19), .val (.ref b27), .val (.long (qa + (0 : Int64) + (0 : Int64) + (0 : Int64))), .second, .unset, .unset, .unset, .unset, .unset, .unset, .unset, .unset, .unset, .unset] [(.ref b12)])) rfl (by rw [hml]; rfl) (Steps.refl _) (argsL := []) (rest := []) (lenOf pd_PQJ rfl) rfl (by show 2 * 0 + _ ≤ _; exact Nat.le_of_eq rfl) (hb hby at_124) (fun _ _ => ⟨rfl, e38, (by decide : 5 + 0 ≤ _), (by decide : 40 + 0 ≤ _)⟩)
  dsimp only [Pt.U, Pt.locs, Pt.cells, Pt.slots] at X46 l46 y46 z46 st46 hQ46
  subst l46 y46 z46
  obtain ⟨rfl, N46q, e46⟩ := hQ46
  have N46 := Fr.app N38 N46q
  have K46 : ∀ t, Steps p.tables e below (T46.setTop (mkF m 127 #[.val (.long qa), .second, .val (.long qb), .second, .val (.long qc), .second, .val (.long qd), .second, .val (.long qe), .second, .val (.long qf), .second, .val (.ref b1), .val (.ref b6), .val (.ref b12), .val (.ref b19), .val (.ref b27), .val (.long (qa + (0 : Int64) + (0 : Int64) + (0 : Int64))), .second, .unset, .unset, .unset, .unset, .unset, .unset, .unset, .unset, .unset, .unset] [(.long ((0 : Int64) + qb + (0 : Int64) + (0 : Int64)))])) t → Steps p.tables e below G0 t := fun t kt => K39 t (st46.trans kt)
  have K47 : ∀ t, Steps p.tables e below (T46.setTop (mkF m 131 #[.val (.long qa), .second, .val (.long qb), .second, .val (.long qc), .second, .val (.long qd), .second, .val (.long qe), .second, .val (.long qf), .second, .val (.ref b1), .val (.ref b6), .val (.ref b12), .val (.ref b19), .val (.ref b27), .val (.long (qa + (0 : Int64) + (0 : Int64) + (0 : Int64))), .second, .val (.long ((0 : Int64) + qb + (0 : Int64) + (0 : Int64))), .second, .unset, .unset, .unset, .unset, .unset, .unset, .unset, .unset] [(.ref b19)])) t → Steps p.tables e below G0 t := by
    intro t kt
    refine K46 t ?_
    refine XS.lstore X46.here hx rfl (hb hby at_127) rfl (l' := #[.val (.long qa), .second, .val (.long qb), .second, .val (.long qc), .second, .val (.long qd), .second, .val (.long qe), .second, .val (.long qf), .second, .val (.ref b1), .val (.ref b6), .val (.ref b12), .val (.ref b19), .val (.ref b27), .val (.long (qa + (0 : Int64) + (0 : Int64) + (0 : Int64))), .second, .val (.long ((0 : Int64) + qb + (0 : Int64) + (0 : Int64))), .second, .unset, .unset, .unset, .unset, .unset, .unset, .unset, .unset]) rfl ?_
    show Steps p.tables e below (T46.setTop (mkF m 129 #[.val (.long qa), .second, .val (.long qb), .second, .val (.long qc), .second, .val (.long qd), .second, .val (.long qe), .second, .val (.long qf), .second, .val (.ref b1), .val (.ref b6), .val (.ref b12), .val (.ref b19), .val (.ref b27), .val (.long (qa + (0 : Int64) + (0 : Int64) + (0 : Int64))), .second, .val (.long ((0 : Int64) + qb + (0 : Int64) + (0 : Int64))), .second, .unset, .unset, .unset, .unset, .unset, .unset, .unset, .unset] [])) _
    refine XS.aload X46.here hx rfl (hb hby at_129) rfl rfl ?_
    show Steps p.tables e below (T46.setTop (mkF m 131 #[.val (.long qa), .second, .val (.long qb), .second, .val (.long qc), .second, .val (.long qd), .second, .val (.long qe), .second, .val (.long qf), .second, .val (.ref b1), .val (.ref b6), .val (.ref b12), .val (.ref b19), .val (.ref b27), .val (.long (qa + (0 : Int64) + (0 : Int64) + (0 : Int64))), .second, .val (.long ((0 : Int64) + qb + (0 : Int64) + (0 : Int64))), .second, .unset, .unset, .unset, .unset, .unset, .unset, .unset, .unset] [(.ref b19)])) _
    exact kt
  have f48 := ((Fc0_20.ext E27).keep KK28 (fun q => ne_b19_b27 (List.mem_singleton.mp q)))
  have f49 := ((Fc1_20.ext E27).keep KK28 (fun q => ne_b19_b27 (List.mem_singleton.mp q)))
  have f50 := ((Fc2_20.ext E27).keep KK28 (fun q => ne_b19_b27 (List.mem_singleton.mp q)))
  have f51 := ((Fc3_20.ext E27).keep KK28 (fun q => ne_b19_b27 (List.mem_singleton.mp q)))
  have f52 := ((EE20.ext E27).keep KK28)
  obtain ⟨cq53, kq53, q53a, q53b, q53c⟩ := isOf hZ e46 f52
  obtain ⟨_, _, ⟨T54, L54, k54, n54⟩, -, X54, ⟨Lc54, hQ54, l54, y54, z54⟩, st54⟩ := X46.virtualBack hx (y := (⟨"com/example/horarium/horarium/engine/Score", "hard", "()J"⟩ : MethodName)) (z := (⟨"com/example/horarium/horarium/engine/Score", "hard", "()J"⟩ : MethodName)) hown (mvT hZ (hw _ (List.mem_of_getElem? (i := 30) rfl))) (mvT hZ (hw _ (List.mem_of_getElem? (i := 31) rfl))) (notFace_of_selects (args := #[]) (mvT hZ (hw _ (List.mem_of_getElem? (i := 33) rfl)))) (mvT hZ (hw _ (List.mem_of_getElem? (i := 33) rfl))) (mvT hZ (hw _ (List.mem_of_getElem? (i := 32) rfl))) (by decide) (backOf (W := 0) (rm4 l Z aa hw [] (b19) ((0 : Int64)) ((0 : Int64)) (qc) ((0 : Int64)) T30.heap n0 ZZ28 f48 f49 f50 f51) hZ (hw _ (List.mem_of_getElem? (i := 34) rfl)) (hw _ (List.mem_of_getElem? (i := 2) rfl)) (by decide) (by decide)) q53a q53c (g := (mkF m 131 #[.val (.long qa), .second, .val (.long qb), .second, .val (.long qc), .second, .val (.long qd), .second, .val (.long qe), .second, .val (.long qf), .second, .val (.ref b1), .val (.ref b6), .val (.ref b12), .val (.ref b19), .val (.ref b27), .val (.long (qa + (0 : Int64) + (0 : Int64) + (0 : Int64))), .second, .val (.long ((0 : Int64) + qb + (0 : Int64) + (0 : Int64))), .second, .unset, .unset, .unset, .unset, .unset, .unset, .unset, .unset] [(.ref b19)])) rfl (by rw [hml]; rfl) (Steps.refl _) (argsL := []) (rest := []) (lenOf pd_PQJ rfl) rfl (by show 2 * 0 + _ ≤ _; exact Nat.le_of_eq rfl) (hb hby at_131) (fun _ _ => ⟨rfl, e46, (by decide : 5 + 0 ≤ _), (by decide : 40 + 0 ≤ _)⟩)
  dsimp only [Pt.U, Pt.locs, Pt.cells, Pt.slots] at X54 l54 y54 z54 st54 hQ54
  subst l54 y54 z54
  obtain ⟨rfl, N54q, e54⟩ := hQ54
  have N54 := Fr.app N46 N54q
  have K54 : ∀ t, Steps p.tables e below (T54.setTop (mkF m 134 #[.val (.long qa), .second, .val (.long qb), .second, .val (.long qc), .second, .val (.long qd), .second, .val (.long qe), .second, .val (.long qf), .second, .val (.ref b1), .val (.ref b6), .val (.ref b12), .val (.ref b19), .val (.ref b27), .val (.long (qa + (0 : Int64) + (0 : Int64) + (0 : Int64))), .second, .val (.long ((0 : Int64) + qb + (0 : Int64) + (0 : Int64))), .second, .unset, .unset, .unset, .unset, .unset, .unset, .unset, .unset] [(.long ((0 : Int64) + (0 : Int64) + qc + (0 : Int64)))])) t → Steps p.tables e below G0 t := fun t kt => K47 t (st54.trans kt)
  have K55 : ∀ t, Steps p.tables e below (T54.setTop (mkF m 138 #[.val (.long qa), .second, .val (.long qb), .second, .val (.long qc), .second, .val (.long qd), .second, .val (.long qe), .second, .val (.long qf), .second, .val (.ref b1), .val (.ref b6), .val (.ref b12), .val (.ref b19), .val (.ref b27), .val (.long (qa + (0 : Int64) + (0 : Int64) + (0 : Int64))), .second, .val (.long ((0 : Int64) + qb + (0 : Int64) + (0 : Int64))), .second, .val (.long ((0 : Int64) + (0 : Int64) + qc + (0 : Int64))), .second, .unset, .unset, .unset, .unset, .unset, .unset] [(.ref b27)])) t → Steps p.tables e below G0 t := by
    intro t kt
    refine K54 t ?_
    refine XS.lstore X54.here hx rfl (hb hby at_134) rfl (l' := #[.val (.long qa), .second, .val (.long qb), .second, .val (.long qc), .second, .val (.long qd), .second, .val (.long qe), .second, .val (.long qf), .second, .val (.ref b1), .val (.ref b6), .val (.ref b12), .val (.ref b19), .val (.ref b27), .val (.long (qa + (0 : Int64) + (0 : Int64) + (0 : Int64))), .second, .val (.long ((0 : Int64) + qb + (0 : Int64) + (0 : Int64))), .second, .val (.long ((0 : Int64) + (0 : Int64) + qc + (0 : Int64))), .second, .unset, .unset, .unset, .unset, .unset, .unset]) rfl ?_
    show Steps p.tables e below (T54.setTop (mkF m 136 #[.val (.long qa), .second, .val (.long qb), .second, .val (.long qc), .second, .val (.long qd), .second, .val (.long qe), .second, .val (.long qf), .second, .val (.ref b1), .val (.ref b6), .val (.ref b12), .val (.ref b19), .val (.ref b27), .val (.long (qa + (0 : Int64) + (0 : Int64) + (0 : Int64))), .second, .val (.long ((0 : Int64) + qb + (0 : Int64) + (0 : Int64))), .second, .val (.long ((0 : Int64) + (0 : Int64) + qc + (0 : Int64))), .second, .unset, .unset, .unset, .unset, .unset, .unset] [])) _
    refine XS.aload X54.here hx rfl (hb hby at_136) rfl rfl ?_
    show Steps p.tables e below (T54.setTop (mkF m 138 #[.val (.long qa), .second, .val (.long qb), .second, .val (.long qc), .second, .val (.long qd), .second, .val (.long qe), .second, .val (.long qf), .second, .val (.ref b1), .val (.ref b6), .val (.ref b12), .val (.ref b19), .val (.ref b27), .val (.long (qa + (0 : Int64) + (0 : Int64) + (0 : Int64))), .second, .val (.long ((0 : Int64) + qb + (0 : Int64) + (0 : Int64))), .second, .val (.long ((0 : Int64) + (0 : Int64) + qc + (0 : Int64))), .second, .unset, .unset, .unset, .unset, .unset, .unset] [(.ref b27)])) _
    exact kt
  obtain ⟨cq56, kq56, q56a, q56b, q56c⟩ := isOf hZ e54 EE28
  obtain ⟨_, _, ⟨T57, L57, k57, n57⟩, -, X57, ⟨Lc57, hQ57, l57, y57, z57⟩, st57⟩ := X54.virtualBack hx (y := (⟨"com/example/horarium/horarium/engine/Score", "hard", "()J"⟩ : MethodName)) (z := (⟨"com/example/horarium/horarium/engine/Score", "hard", "()J"⟩ : MethodName)) hown (mvT hZ (hw _ (List.mem_of_getElem? (i := 30) rfl))) (mvT hZ (hw _ (List.mem_of_getElem? (i := 31) rfl))) (notFace_of_selects (args := #[]) (mvT hZ (hw _ (List.mem_of_getElem? (i := 33) rfl)))) (mvT hZ (hw _ (List.mem_of_getElem? (i := 33) rfl))) (mvT hZ (hw _ (List.mem_of_getElem? (i := 32) rfl))) (by decide) (backOf (W := 0) (rm4 l Z aa hw [] (b27) ((0 : Int64)) ((0 : Int64)) ((0 : Int64)) (qd) T30.heap n0 ZZ28 Fc0_28 Fc1_28 Fc2_28 Fc3_28) hZ (hw _ (List.mem_of_getElem? (i := 34) rfl)) (hw _ (List.mem_of_getElem? (i := 2) rfl)) (by decide) (by decide)) q56a q56c (g := (mkF m 138 #[.val (.long qa), .second, .val (.long qb), .second, .val (.long qc), .second, .val (.long qd), .second, .val (.long qe), .second, .val (.long qf), .second, .val (.ref b1), .val (.ref b6), .val (.ref b12), .val (.ref b19), .val (.ref b27), .val (.long (qa + (0 : Int64) + (0 : Int64) + (0 : Int64))), .second, .val (.long ((0 : Int64) + qb + (0 : Int64) + (0 : Int64))), .second, .val (.long ((0 : Int64) + (0 : Int64) + qc + (0 : Int64))), .second, .unset, .unset, .unset, .unset, .unset, .unset] [(.ref b27)])) rfl (by rw [hml]; rfl) (Steps.refl _) (argsL := []) (rest := []) (lenOf pd_PQJ rfl) rfl (by show 2 * 0 + _ ≤ _; exact Nat.le_of_eq rfl) (hb hby at_138) (fun _ _ => ⟨rfl, e54, (by decide : 5 + 0 ≤ _), (by decide : 40 + 0 ≤ _)⟩)
  dsimp only [Pt.U, Pt.locs, Pt.cells, Pt.slots] at X57 l57 y57 z57 st57 hQ57
  subst l57 y57 z57
  obtain ⟨rfl, N57q, e57⟩ := hQ57
  have N57 := Fr.app N54 N57q
  have K57 : ∀ t, Steps p.tables e below (T57.setTop (mkF m 141 #[.val (.long qa), .second, .val (.long qb), .second, .val (.long qc), .second, .val (.long qd), .second, .val (.long qe), .second, .val (.long qf), .second, .val (.ref b1), .val (.ref b6), .val (.ref b12), .val (.ref b19), .val (.ref b27), .val (.long (qa + (0 : Int64) + (0 : Int64) + (0 : Int64))), .second, .val (.long ((0 : Int64) + qb + (0 : Int64) + (0 : Int64))), .second, .val (.long ((0 : Int64) + (0 : Int64) + qc + (0 : Int64))), .second, .unset, .unset, .unset, .unset, .unset, .unset] [(.long ((0 : Int64) + (0 : Int64) + (0 : Int64) + qd))])) t → Steps p.tables e below G0 t := fun t kt => K55 t (st57.trans kt)
  have K58 : ∀ t, Steps p.tables e below (T57.setTop (mkF m 145 #[.val (.long qa), .second, .val (.long qb), .second, .val (.long qc), .second, .val (.long qd), .second, .val (.long qe), .second, .val (.long qf), .second, .val (.ref b1), .val (.ref b6), .val (.ref b12), .val (.ref b19), .val (.ref b27), .val (.long (qa + (0 : Int64) + (0 : Int64) + (0 : Int64))), .second, .val (.long ((0 : Int64) + qb + (0 : Int64) + (0 : Int64))), .second, .val (.long ((0 : Int64) + (0 : Int64) + qc + (0 : Int64))), .second, .val (.long ((0 : Int64) + (0 : Int64) + (0 : Int64) + qd)), .second, .unset, .unset, .unset, .unset] [(.ref b1)])) t → Steps p.tables e below G0 t := by
    intro t kt
    refine K57 t ?_
    refine XS.lstore X57.here hx rfl (hb hby at_141) rfl (l' := #[.val (.long qa), .second, .val (.long qb), .second, .val (.long qc), .second, .val (.long qd), .second, .val (.long qe), .second, .val (.long qf), .second, .val (.ref b1), .val (.ref b6), .val (.ref b12), .val (.ref b19), .val (.ref b27), .val (.long (qa + (0 : Int64) + (0 : Int64) + (0 : Int64))), .second, .val (.long ((0 : Int64) + qb + (0 : Int64) + (0 : Int64))), .second, .val (.long ((0 : Int64) + (0 : Int64) + qc + (0 : Int64))), .second, .val (.long ((0 : Int64) + (0 : Int64) + (0 : Int64) + qd)), .second, .unset, .unset, .unset, .unset]) rfl ?_
    show Steps p.tables e below (T57.setTop (mkF m 143 #[.val (.long qa), .second, .val (.long qb), .second, .val (.long qc), .second, .val (.long qd), .second, .val (.long qe), .second, .val (.long qf), .second, .val (.ref b1), .val (.ref b6), .val (.ref b12), .val (.ref b19), .val (.ref b27), .val (.long (qa + (0 : Int64) + (0 : Int64) + (0 : Int64))), .second, .val (.long ((0 : Int64) + qb + (0 : Int64) + (0 : Int64))), .second, .val (.long ((0 : Int64) + (0 : Int64) + qc + (0 : Int64))), .second, .val (.long ((0 : Int64) + (0 : Int64) + (0 : Int64) + qd)), .second, .unset, .unset, .unset, .unset] [])) _
    refine XS.aload X57.here hx rfl (hb hby at_143) rfl rfl ?_
    show Steps p.tables e below (T57.setTop (mkF m 145 #[.val (.long qa), .second, .val (.long qb), .second, .val (.long qc), .second, .val (.long qd), .second, .val (.long qe), .second, .val (.long qf), .second, .val (.ref b1), .val (.ref b6), .val (.ref b12), .val (.ref b19), .val (.ref b27), .val (.long (qa + (0 : Int64) + (0 : Int64) + (0 : Int64))), .second, .val (.long ((0 : Int64) + qb + (0 : Int64) + (0 : Int64))), .second, .val (.long ((0 : Int64) + (0 : Int64) + qc + (0 : Int64))), .second, .val (.long ((0 : Int64) + (0 : Int64) + (0 : Int64) + qd)), .second, .unset, .unset, .unset, .unset] [(.ref b1)])) _
    exact kt
  have f59 := ((((((((Fc0_2.ext E6).keep KK7 (fun q => ne_b1_b6 (List.mem_singleton.mp q))).ext E12).keep KK13 (fun q => ne_b1_b12 (List.mem_singleton.mp q))).ext E19).keep KK20 (fun q => ne_b1_b19 (List.mem_singleton.mp q))).ext E27).keep KK28 (fun q => ne_b1_b27 (List.mem_singleton.mp q)))
  have f60 := ((((((((Fc1_2.ext E6).keep KK7 (fun q => ne_b1_b6 (List.mem_singleton.mp q))).ext E12).keep KK13 (fun q => ne_b1_b12 (List.mem_singleton.mp q))).ext E19).keep KK20 (fun q => ne_b1_b19 (List.mem_singleton.mp q))).ext E27).keep KK28 (fun q => ne_b1_b27 (List.mem_singleton.mp q)))
  have f61 := ((((((((Fc2_2.ext E6).keep KK7 (fun q => ne_b1_b6 (List.mem_singleton.mp q))).ext E12).keep KK13 (fun q => ne_b1_b12 (List.mem_singleton.mp q))).ext E19).keep KK20 (fun q => ne_b1_b19 (List.mem_singleton.mp q))).ext E27).keep KK28 (fun q => ne_b1_b27 (List.mem_singleton.mp q)))
  have f62 := ((((((((Fc3_2.ext E6).keep KK7 (fun q => ne_b1_b6 (List.mem_singleton.mp q))).ext E12).keep KK13 (fun q => ne_b1_b12 (List.mem_singleton.mp q))).ext E19).keep KK20 (fun q => ne_b1_b19 (List.mem_singleton.mp q))).ext E27).keep KK28 (fun q => ne_b1_b27 (List.mem_singleton.mp q)))
  have f63 := ((f24.ext E27).keep KK28)
  obtain ⟨cq64, kq64, q64a, q64b, q64c⟩ := isOf hZ e57 f63
  obtain ⟨_, _, ⟨T65, L65, k65, n65⟩, -, X65, ⟨Lc65, hQ65, l65, y65, z65⟩, st65⟩ := X57.virtualBack hx (y := (⟨"com/example/horarium/horarium/engine/Score", "hard", "()J"⟩ : MethodName)) (z := (⟨"com/example/horarium/horarium/engine/Score", "hard", "()J"⟩ : MethodName)) hown (mvT hZ (hw _ (List.mem_of_getElem? (i := 30) rfl))) (mvT hZ (hw _ (List.mem_of_getElem? (i := 31) rfl))) (notFace_of_selects (args := #[]) (mvT hZ (hw _ (List.mem_of_getElem? (i := 33) rfl)))) (mvT hZ (hw _ (List.mem_of_getElem? (i := 33) rfl))) (mvT hZ (hw _ (List.mem_of_getElem? (i := 32) rfl))) (by decide) (backOf (W := 0) (rm4 l Z aa hw [] (b1) (qa) (qb) (qc) (qd) T30.heap n0 ZZ28 f59 f60 f61 f62) hZ (hw _ (List.mem_of_getElem? (i := 34) rfl)) (hw _ (List.mem_of_getElem? (i := 2) rfl)) (by decide) (by decide)) q64a q64c (g := (mkF m 145 #[.val (.long qa), .second, .val (.long qb), .second, .val (.long qc), .second, .val (.long qd), .second, .val (.long qe), .second, .val (.long qf), .second, .val (.ref b1), .val (.ref b6), .val (.ref b12), .val (.ref b19), .val (.ref b27), .val (.long (qa + (0 : Int64) + (0 : Int64) + (0 : Int64))), .second, .val (.long ((0 : Int64) + qb + (0 : Int64) + (0 : Int64))), .second, .val (.long ((0 : Int64) + (0 : Int64) + qc + (0 : Int64))), .second, .val (.long ((0 : Int64) + (0 : Int64) + (0 : Int64) + qd)), .second, .unset, .unset, .unset, .unset] [(.ref b1)])) rfl (by rw [hml]; rfl) (Steps.refl _) (argsL := []) (rest := []) (lenOf pd_PQJ rfl) rfl (by show 2 * 0 + _ ≤ _; exact Nat.le_of_eq rfl) (hb hby at_145) (fun _ _ => ⟨rfl, e57, (by decide : 5 + 0 ≤ _), (by decide : 40 + 0 ≤ _)⟩)
  dsimp only [Pt.U, Pt.locs, Pt.cells, Pt.slots] at X65 l65 y65 z65 st65 hQ65
  subst l65 y65 z65
  obtain ⟨rfl, N65q, e65⟩ := hQ65
  have N65 := Fr.app N57 N65q
  have K65 : ∀ t, Steps p.tables e below (T65.setTop (mkF m 148 #[.val (.long qa), .second, .val (.long qb), .second, .val (.long qc), .second, .val (.long qd), .second, .val (.long qe), .second, .val (.long qf), .second, .val (.ref b1), .val (.ref b6), .val (.ref b12), .val (.ref b19), .val (.ref b27), .val (.long (qa + (0 : Int64) + (0 : Int64) + (0 : Int64))), .second, .val (.long ((0 : Int64) + qb + (0 : Int64) + (0 : Int64))), .second, .val (.long ((0 : Int64) + (0 : Int64) + qc + (0 : Int64))), .second, .val (.long ((0 : Int64) + (0 : Int64) + (0 : Int64) + qd)), .second, .unset, .unset, .unset, .unset] [(.long (qa + qb + qc + qd))])) t → Steps p.tables e below G0 t := fun t kt => K58 t (st65.trans kt)
  have K66 : ∀ t, Steps p.tables e below (T65.setTop (mkF m 226 #[.val (.long qa), .second, .val (.long qb), .second, .val (.long qc), .second, .val (.long qd), .second, .val (.long qe), .second, .val (.long qf), .second, .val (.ref b1), .val (.ref b6), .val (.ref b12), .val (.ref b19), .val (.ref b27), .val (.long (qa + (0 : Int64) + (0 : Int64) + (0 : Int64))), .second, .val (.long ((0 : Int64) + qb + (0 : Int64) + (0 : Int64))), .second, .val (.long ((0 : Int64) + (0 : Int64) + qc + (0 : Int64))), .second, .val (.long ((0 : Int64) + (0 : Int64) + (0 : Int64) + qd)), .second, .val (.long (qa + qb + qc + qd)), .second, .val (.int (1 : Int32)), .val (.int (1 : Int32))] [(.int (1 : Int32))])) t → Steps p.tables e below G0 t := by
    intro t kt
    refine K65 t ?_
    refine XS.lstore X65.here hx rfl (hb hby at_148) rfl (l' := #[.val (.long qa), .second, .val (.long qb), .second, .val (.long qc), .second, .val (.long qd), .second, .val (.long qe), .second, .val (.long qf), .second, .val (.ref b1), .val (.ref b6), .val (.ref b12), .val (.ref b19), .val (.ref b27), .val (.long (qa + (0 : Int64) + (0 : Int64) + (0 : Int64))), .second, .val (.long ((0 : Int64) + qb + (0 : Int64) + (0 : Int64))), .second, .val (.long ((0 : Int64) + (0 : Int64) + qc + (0 : Int64))), .second, .val (.long ((0 : Int64) + (0 : Int64) + (0 : Int64) + qd)), .second, .val (.long (qa + qb + qc + qd)), .second, .unset, .unset]) rfl ?_
    show Steps p.tables e below (T65.setTop (mkF m 150 #[.val (.long qa), .second, .val (.long qb), .second, .val (.long qc), .second, .val (.long qd), .second, .val (.long qe), .second, .val (.long qf), .second, .val (.ref b1), .val (.ref b6), .val (.ref b12), .val (.ref b19), .val (.ref b27), .val (.long (qa + (0 : Int64) + (0 : Int64) + (0 : Int64))), .second, .val (.long ((0 : Int64) + qb + (0 : Int64) + (0 : Int64))), .second, .val (.long ((0 : Int64) + (0 : Int64) + qc + (0 : Int64))), .second, .val (.long ((0 : Int64) + (0 : Int64) + (0 : Int64) + qd)), .second, .val (.long (qa + qb + qc + qd)), .second, .unset, .unset] [])) _
    refine XS.lload X65.here hx rfl (hb hby at_150) rfl ?_
    show Steps p.tables e below (T65.setTop (mkF m 152 #[.val (.long qa), .second, .val (.long qb), .second, .val (.long qc), .second, .val (.long qd), .second, .val (.long qe), .second, .val (.long qf), .second, .val (.ref b1), .val (.ref b6), .val (.ref b12), .val (.ref b19), .val (.ref b27), .val (.long (qa + (0 : Int64) + (0 : Int64) + (0 : Int64))), .second, .val (.long ((0 : Int64) + qb + (0 : Int64) + (0 : Int64))), .second, .val (.long ((0 : Int64) + (0 : Int64) + qc + (0 : Int64))), .second, .val (.long ((0 : Int64) + (0 : Int64) + (0 : Int64) + qd)), .second, .val (.long (qa + qb + qc + qd)), .second, .unset, .unset] [(.long (qa + (0 : Int64) + (0 : Int64) + (0 : Int64)))])) _
    refine XS.lloadN X65.here hx rfl (hb hby at_152) rfl ?_
    show Steps p.tables e below (T65.setTop (mkF m 153 #[.val (.long qa), .second, .val (.long qb), .second, .val (.long qc), .second, .val (.long qd), .second, .val (.long qe), .second, .val (.long qf), .second, .val (.ref b1), .val (.ref b6), .val (.ref b12), .val (.ref b19), .val (.ref b27), .val (.long (qa + (0 : Int64) + (0 : Int64) + (0 : Int64))), .second, .val (.long ((0 : Int64) + qb + (0 : Int64) + (0 : Int64))), .second, .val (.long ((0 : Int64) + (0 : Int64) + qc + (0 : Int64))), .second, .val (.long ((0 : Int64) + (0 : Int64) + (0 : Int64) + qd)), .second, .val (.long (qa + qb + qc + qd)), .second, .unset, .unset] [(.long qa), (.long (qa + (0 : Int64) + (0 : Int64) + (0 : Int64)))])) _
    refine XS.lcmp X65.here hx rfl (hb hby at_153) rfl ?_
    show Steps p.tables e below (T65.setTop (mkF m 154 #[.val (.long qa), .second, .val (.long qb), .second, .val (.long qc), .second, .val (.long qd), .second, .val (.long qe), .second, .val (.long qf), .second, .val (.ref b1), .val (.ref b6), .val (.ref b12), .val (.ref b19), .val (.ref b27), .val (.long (qa + (0 : Int64) + (0 : Int64) + (0 : Int64))), .second, .val (.long ((0 : Int64) + qb + (0 : Int64) + (0 : Int64))), .second, .val (.long ((0 : Int64) + (0 : Int64) + qc + (0 : Int64))), .second, .val (.long ((0 : Int64) + (0 : Int64) + (0 : Int64) + qd)), .second, .val (.long (qa + qb + qc + qd)), .second, .unset, .unset] [(.int (lcmpW (qa + (0 : Int64) + (0 : Int64) + (0 : Int64)) qa))])) _
    refine XS.ifNo X65.here hx rfl (hb hby at_154) rfl ((if0 _ _).trans (teq ((lw_eq _ _).mpr (by simp))).2) ?_
    show Steps p.tables e below (T65.setTop (mkF m 157 #[.val (.long qa), .second, .val (.long qb), .second, .val (.long qc), .second, .val (.long qd), .second, .val (.long qe), .second, .val (.long qf), .second, .val (.ref b1), .val (.ref b6), .val (.ref b12), .val (.ref b19), .val (.ref b27), .val (.long (qa + (0 : Int64) + (0 : Int64) + (0 : Int64))), .second, .val (.long ((0 : Int64) + qb + (0 : Int64) + (0 : Int64))), .second, .val (.long ((0 : Int64) + (0 : Int64) + qc + (0 : Int64))), .second, .val (.long ((0 : Int64) + (0 : Int64) + (0 : Int64) + qd)), .second, .val (.long (qa + qb + qc + qd)), .second, .unset, .unset] [])) _
    refine XS.lload X65.here hx rfl (hb hby at_157) rfl ?_
    show Steps p.tables e below (T65.setTop (mkF m 159 #[.val (.long qa), .second, .val (.long qb), .second, .val (.long qc), .second, .val (.long qd), .second, .val (.long qe), .second, .val (.long qf), .second, .val (.ref b1), .val (.ref b6), .val (.ref b12), .val (.ref b19), .val (.ref b27), .val (.long (qa + (0 : Int64) + (0 : Int64) + (0 : Int64))), .second, .val (.long ((0 : Int64) + qb + (0 : Int64) + (0 : Int64))), .second, .val (.long ((0 : Int64) + (0 : Int64) + qc + (0 : Int64))), .second, .val (.long ((0 : Int64) + (0 : Int64) + (0 : Int64) + qd)), .second, .val (.long (qa + qb + qc + qd)), .second, .unset, .unset] [(.long ((0 : Int64) + qb + (0 : Int64) + (0 : Int64)))])) _
    refine XS.lloadN X65.here hx rfl (hb hby at_159) rfl ?_
    show Steps p.tables e below (T65.setTop (mkF m 160 #[.val (.long qa), .second, .val (.long qb), .second, .val (.long qc), .second, .val (.long qd), .second, .val (.long qe), .second, .val (.long qf), .second, .val (.ref b1), .val (.ref b6), .val (.ref b12), .val (.ref b19), .val (.ref b27), .val (.long (qa + (0 : Int64) + (0 : Int64) + (0 : Int64))), .second, .val (.long ((0 : Int64) + qb + (0 : Int64) + (0 : Int64))), .second, .val (.long ((0 : Int64) + (0 : Int64) + qc + (0 : Int64))), .second, .val (.long ((0 : Int64) + (0 : Int64) + (0 : Int64) + qd)), .second, .val (.long (qa + qb + qc + qd)), .second, .unset, .unset] [(.long qb), (.long ((0 : Int64) + qb + (0 : Int64) + (0 : Int64)))])) _
    refine XS.lcmp X65.here hx rfl (hb hby at_160) rfl ?_
    show Steps p.tables e below (T65.setTop (mkF m 161 #[.val (.long qa), .second, .val (.long qb), .second, .val (.long qc), .second, .val (.long qd), .second, .val (.long qe), .second, .val (.long qf), .second, .val (.ref b1), .val (.ref b6), .val (.ref b12), .val (.ref b19), .val (.ref b27), .val (.long (qa + (0 : Int64) + (0 : Int64) + (0 : Int64))), .second, .val (.long ((0 : Int64) + qb + (0 : Int64) + (0 : Int64))), .second, .val (.long ((0 : Int64) + (0 : Int64) + qc + (0 : Int64))), .second, .val (.long ((0 : Int64) + (0 : Int64) + (0 : Int64) + qd)), .second, .val (.long (qa + qb + qc + qd)), .second, .unset, .unset] [(.int (lcmpW ((0 : Int64) + qb + (0 : Int64) + (0 : Int64)) qb))])) _
    refine XS.ifNo X65.here hx rfl (hb hby at_161) rfl ((if0 _ _).trans (teq ((lw_eq _ _).mpr (by simp))).2) ?_
    show Steps p.tables e below (T65.setTop (mkF m 164 #[.val (.long qa), .second, .val (.long qb), .second, .val (.long qc), .second, .val (.long qd), .second, .val (.long qe), .second, .val (.long qf), .second, .val (.ref b1), .val (.ref b6), .val (.ref b12), .val (.ref b19), .val (.ref b27), .val (.long (qa + (0 : Int64) + (0 : Int64) + (0 : Int64))), .second, .val (.long ((0 : Int64) + qb + (0 : Int64) + (0 : Int64))), .second, .val (.long ((0 : Int64) + (0 : Int64) + qc + (0 : Int64))), .second, .val (.long ((0 : Int64) + (0 : Int64) + (0 : Int64) + qd)), .second, .val (.long (qa + qb + qc + qd)), .second, .unset, .unset] [])) _
    refine XS.lload X65.here hx rfl (hb hby at_164) rfl ?_
    show Steps p.tables e below (T65.setTop (mkF m 166 #[.val (.long qa), .second, .val (.long qb), .second, .val (.long qc), .second, .val (.long qd), .second, .val (.long qe), .second, .val (.long qf), .second, .val (.ref b1), .val (.ref b6), .val (.ref b12), .val (.ref b19), .val (.ref b27), .val (.long (qa + (0 : Int64) + (0 : Int64) + (0 : Int64))), .second, .val (.long ((0 : Int64) + qb + (0 : Int64) + (0 : Int64))), .second, .val (.long ((0 : Int64) + (0 : Int64) + qc + (0 : Int64))), .second, .val (.long ((0 : Int64) + (0 : Int64) + (0 : Int64) + qd)), .second, .val (.long (qa + qb + qc + qd)), .second, .unset, .unset] [(.long ((0 : Int64) + (0 : Int64) + qc + (0 : Int64)))])) _
    refine XS.lload X65.here hx rfl (hb hby at_166) rfl ?_
    show Steps p.tables e below (T65.setTop (mkF m 168 #[.val (.long qa), .second, .val (.long qb), .second, .val (.long qc), .second, .val (.long qd), .second, .val (.long qe), .second, .val (.long qf), .second, .val (.ref b1), .val (.ref b6), .val (.ref b12), .val (.ref b19), .val (.ref b27), .val (.long (qa + (0 : Int64) + (0 : Int64) + (0 : Int64))), .second, .val (.long ((0 : Int64) + qb + (0 : Int64) + (0 : Int64))), .second, .val (.long ((0 : Int64) + (0 : Int64) + qc + (0 : Int64))), .second, .val (.long ((0 : Int64) + (0 : Int64) + (0 : Int64) + qd)), .second, .val (.long (qa + qb + qc + qd)), .second, .unset, .unset] [(.long qc), (.long ((0 : Int64) + (0 : Int64) + qc + (0 : Int64)))])) _
    refine XS.lcmp X65.here hx rfl (hb hby at_168) rfl ?_
    show Steps p.tables e below (T65.setTop (mkF m 169 #[.val (.long qa), .second, .val (.long qb), .second, .val (.long qc), .second, .val (.long qd), .second, .val (.long qe), .second, .val (.long qf), .second, .val (.ref b1), .val (.ref b6), .val (.ref b12), .val (.ref b19), .val (.ref b27), .val (.long (qa + (0 : Int64) + (0 : Int64) + (0 : Int64))), .second, .val (.long ((0 : Int64) + qb + (0 : Int64) + (0 : Int64))), .second, .val (.long ((0 : Int64) + (0 : Int64) + qc + (0 : Int64))), .second, .val (.long ((0 : Int64) + (0 : Int64) + (0 : Int64) + qd)), .second, .val (.long (qa + qb + qc + qd)), .second, .unset, .unset] [(.int (lcmpW ((0 : Int64) + (0 : Int64) + qc + (0 : Int64)) qc))])) _
    refine XS.ifNo X65.here hx rfl (hb hby at_169) rfl ((if0 _ _).trans (teq ((lw_eq _ _).mpr (by simp))).2) ?_
    show Steps p.tables e below (T65.setTop (mkF m 172 #[.val (.long qa), .second, .val (.long qb), .second, .val (.long qc), .second, .val (.long qd), .second, .val (.long qe), .second, .val (.long qf), .second, .val (.ref b1), .val (.ref b6), .val (.ref b12), .val (.ref b19), .val (.ref b27), .val (.long (qa + (0 : Int64) + (0 : Int64) + (0 : Int64))), .second, .val (.long ((0 : Int64) + qb + (0 : Int64) + (0 : Int64))), .second, .val (.long ((0 : Int64) + (0 : Int64) + qc + (0 : Int64))), .second, .val (.long ((0 : Int64) + (0 : Int64) + (0 : Int64) + qd)), .second, .val (.long (qa + qb + qc + qd)), .second, .unset, .unset] [])) _
    refine XS.lload X65.here hx rfl (hb hby at_172) rfl ?_
    show Steps p.tables e below (T65.setTop (mkF m 174 #[.val (.long qa), .second, .val (.long qb), .second, .val (.long qc), .second, .val (.long qd), .second, .val (.long qe), .second, .val (.long qf), .second, .val (.ref b1), .val (.ref b6), .val (.ref b12), .val (.ref b19), .val (.ref b27), .val (.long (qa + (0 : Int64) + (0 : Int64) + (0 : Int64))), .second, .val (.long ((0 : Int64) + qb + (0 : Int64) + (0 : Int64))), .second, .val (.long ((0 : Int64) + (0 : Int64) + qc + (0 : Int64))), .second, .val (.long ((0 : Int64) + (0 : Int64) + (0 : Int64) + qd)), .second, .val (.long (qa + qb + qc + qd)), .second, .unset, .unset] [(.long ((0 : Int64) + (0 : Int64) + (0 : Int64) + qd))])) _
    refine XS.lload X65.here hx rfl (hb hby at_174) rfl ?_
    show Steps p.tables e below (T65.setTop (mkF m 176 #[.val (.long qa), .second, .val (.long qb), .second, .val (.long qc), .second, .val (.long qd), .second, .val (.long qe), .second, .val (.long qf), .second, .val (.ref b1), .val (.ref b6), .val (.ref b12), .val (.ref b19), .val (.ref b27), .val (.long (qa + (0 : Int64) + (0 : Int64) + (0 : Int64))), .second, .val (.long ((0 : Int64) + qb + (0 : Int64) + (0 : Int64))), .second, .val (.long ((0 : Int64) + (0 : Int64) + qc + (0 : Int64))), .second, .val (.long ((0 : Int64) + (0 : Int64) + (0 : Int64) + qd)), .second, .val (.long (qa + qb + qc + qd)), .second, .unset, .unset] [(.long qd), (.long ((0 : Int64) + (0 : Int64) + (0 : Int64) + qd))])) _
    refine XS.lcmp X65.here hx rfl (hb hby at_176) rfl ?_
    show Steps p.tables e below (T65.setTop (mkF m 177 #[.val (.long qa), .second, .val (.long qb), .second, .val (.long qc), .second, .val (.long qd), .second, .val (.long qe), .second, .val (.long qf), .second, .val (.ref b1), .val (.ref b6), .val (.ref b12), .val (.ref b19), .val (.ref b27), .val (.long (qa + (0 : Int64) + (0 : Int64) + (0 : Int64))), .second, .val (.long ((0 : Int64) + qb + (0 : Int64) + (0 : Int64))), .second, .val (.long ((0 : Int64) + (0 : Int64) + qc + (0 : Int64))), .second, .val (.long ((0 : Int64) + (0 : Int64) + (0 : Int64) + qd)), .second, .val (.long (qa + qb + qc + qd)), .second, .unset, .unset] [(.int (lcmpW ((0 : Int64) + (0 : Int64) + (0 : Int64) + qd) qd))])) _
    refine XS.ifNo X65.here hx rfl (hb hby at_177) rfl ((if0 _ _).trans (teq ((lw_eq _ _).mpr (by simp))).2) ?_
    show Steps p.tables e below (T65.setTop (mkF m 180 #[.val (.long qa), .second, .val (.long qb), .second, .val (.long qc), .second, .val (.long qd), .second, .val (.long qe), .second, .val (.long qf), .second, .val (.ref b1), .val (.ref b6), .val (.ref b12), .val (.ref b19), .val (.ref b27), .val (.long (qa + (0 : Int64) + (0 : Int64) + (0 : Int64))), .second, .val (.long ((0 : Int64) + qb + (0 : Int64) + (0 : Int64))), .second, .val (.long ((0 : Int64) + (0 : Int64) + qc + (0 : Int64))), .second, .val (.long ((0 : Int64) + (0 : Int64) + (0 : Int64) + qd)), .second, .val (.long (qa + qb + qc + qd)), .second, .unset, .unset] [])) _
    refine XS.iconst X65.here hx rfl (hb hby at_180) ?_
    show Steps p.tables e below (T65.setTop (mkF m 181 #[.val (.long qa), .second, .val (.long qb), .second, .val (.long qc), .second, .val (.long qd), .second, .val (.long qe), .second, .val (.long qf), .second, .val (.ref b1), .val (.ref b6), .val (.ref b12), .val (.ref b19), .val (.ref b27), .val (.long (qa + (0 : Int64) + (0 : Int64) + (0 : Int64))), .second, .val (.long ((0 : Int64) + qb + (0 : Int64) + (0 : Int64))), .second, .val (.long ((0 : Int64) + (0 : Int64) + qc + (0 : Int64))), .second, .val (.long ((0 : Int64) + (0 : Int64) + (0 : Int64) + qd)), .second, .val (.long (qa + qb + qc + qd)), .second, .unset, .unset] [(.int (1 : Int32))])) _
    refine XS.goto X65.here hx rfl (pc0 := 181) (pc' := 185) rfl (hb hby at_181) (by decide) (by decide) ?_
    show Steps p.tables e below (T65.setTop (mkF m 185 #[.val (.long qa), .second, .val (.long qb), .second, .val (.long qc), .second, .val (.long qd), .second, .val (.long qe), .second, .val (.long qf), .second, .val (.ref b1), .val (.ref b6), .val (.ref b12), .val (.ref b19), .val (.ref b27), .val (.long (qa + (0 : Int64) + (0 : Int64) + (0 : Int64))), .second, .val (.long ((0 : Int64) + qb + (0 : Int64) + (0 : Int64))), .second, .val (.long ((0 : Int64) + (0 : Int64) + qc + (0 : Int64))), .second, .val (.long ((0 : Int64) + (0 : Int64) + (0 : Int64) + qd)), .second, .val (.long (qa + qb + qc + qd)), .second, .unset, .unset] [(.int (1 : Int32))])) _
    refine XS.istore X65.here hx rfl (hb hby at_185) rfl (l' := #[.val (.long qa), .second, .val (.long qb), .second, .val (.long qc), .second, .val (.long qd), .second, .val (.long qe), .second, .val (.long qf), .second, .val (.ref b1), .val (.ref b6), .val (.ref b12), .val (.ref b19), .val (.ref b27), .val (.long (qa + (0 : Int64) + (0 : Int64) + (0 : Int64))), .second, .val (.long ((0 : Int64) + qb + (0 : Int64) + (0 : Int64))), .second, .val (.long ((0 : Int64) + (0 : Int64) + qc + (0 : Int64))), .second, .val (.long ((0 : Int64) + (0 : Int64) + (0 : Int64) + qd)), .second, .val (.long (qa + qb + qc + qd)), .second, .val (.int (1 : Int32)), .unset]) rfl ?_
    show Steps p.tables e below (T65.setTop (mkF m 187 #[.val (.long qa), .second, .val (.long qb), .second, .val (.long qc), .second, .val (.long qd), .second, .val (.long qe), .second, .val (.long qf), .second, .val (.ref b1), .val (.ref b6), .val (.ref b12), .val (.ref b19), .val (.ref b27), .val (.long (qa + (0 : Int64) + (0 : Int64) + (0 : Int64))), .second, .val (.long ((0 : Int64) + qb + (0 : Int64) + (0 : Int64))), .second, .val (.long ((0 : Int64) + (0 : Int64) + qc + (0 : Int64))), .second, .val (.long ((0 : Int64) + (0 : Int64) + (0 : Int64) + qd)), .second, .val (.long (qa + qb + qc + qd)), .second, .val (.int (1 : Int32)), .unset] [])) _
    refine XS.lload X65.here hx rfl (hb hby at_187) rfl ?_
    show Steps p.tables e below (T65.setTop (mkF m 189 #[.val (.long qa), .second, .val (.long qb), .second, .val (.long qc), .second, .val (.long qd), .second, .val (.long qe), .second, .val (.long qf), .second, .val (.ref b1), .val (.ref b6), .val (.ref b12), .val (.ref b19), .val (.ref b27), .val (.long (qa + (0 : Int64) + (0 : Int64) + (0 : Int64))), .second, .val (.long ((0 : Int64) + qb + (0 : Int64) + (0 : Int64))), .second, .val (.long ((0 : Int64) + (0 : Int64) + qc + (0 : Int64))), .second, .val (.long ((0 : Int64) + (0 : Int64) + (0 : Int64) + qd)), .second, .val (.long (qa + qb + qc + qd)), .second, .val (.int (1 : Int32)), .unset] [(.long (qa + qb + qc + qd))])) _
    refine XS.lload X65.here hx rfl (hb hby at_189) rfl ?_
    show Steps p.tables e below (T65.setTop (mkF m 191 #[.val (.long qa), .second, .val (.long qb), .second, .val (.long qc), .second, .val (.long qd), .second, .val (.long qe), .second, .val (.long qf), .second, .val (.ref b1), .val (.ref b6), .val (.ref b12), .val (.ref b19), .val (.ref b27), .val (.long (qa + (0 : Int64) + (0 : Int64) + (0 : Int64))), .second, .val (.long ((0 : Int64) + qb + (0 : Int64) + (0 : Int64))), .second, .val (.long ((0 : Int64) + (0 : Int64) + qc + (0 : Int64))), .second, .val (.long ((0 : Int64) + (0 : Int64) + (0 : Int64) + qd)), .second, .val (.long (qa + qb + qc + qd)), .second, .val (.int (1 : Int32)), .unset] [(.long (qa + (0 : Int64) + (0 : Int64) + (0 : Int64))), (.long (qa + qb + qc + qd))])) _
    refine XS.lload X65.here hx rfl (hb hby at_191) rfl ?_
    show Steps p.tables e below (T65.setTop (mkF m 193 #[.val (.long qa), .second, .val (.long qb), .second, .val (.long qc), .second, .val (.long qd), .second, .val (.long qe), .second, .val (.long qf), .second, .val (.ref b1), .val (.ref b6), .val (.ref b12), .val (.ref b19), .val (.ref b27), .val (.long (qa + (0 : Int64) + (0 : Int64) + (0 : Int64))), .second, .val (.long ((0 : Int64) + qb + (0 : Int64) + (0 : Int64))), .second, .val (.long ((0 : Int64) + (0 : Int64) + qc + (0 : Int64))), .second, .val (.long ((0 : Int64) + (0 : Int64) + (0 : Int64) + qd)), .second, .val (.long (qa + qb + qc + qd)), .second, .val (.int (1 : Int32)), .unset] [(.long ((0 : Int64) + qb + (0 : Int64) + (0 : Int64))), (.long (qa + (0 : Int64) + (0 : Int64) + (0 : Int64))), (.long (qa + qb + qc + qd))])) _
    refine XS.ladd X65.here hx rfl (hb hby at_193) rfl ?_
    show Steps p.tables e below (T65.setTop (mkF m 194 #[.val (.long qa), .second, .val (.long qb), .second, .val (.long qc), .second, .val (.long qd), .second, .val (.long qe), .second, .val (.long qf), .second, .val (.ref b1), .val (.ref b6), .val (.ref b12), .val (.ref b19), .val (.ref b27), .val (.long (qa + (0 : Int64) + (0 : Int64) + (0 : Int64))), .second, .val (.long ((0 : Int64) + qb + (0 : Int64) + (0 : Int64))), .second, .val (.long ((0 : Int64) + (0 : Int64) + qc + (0 : Int64))), .second, .val (.long ((0 : Int64) + (0 : Int64) + (0 : Int64) + qd)), .second, .val (.long (qa + qb + qc + qd)), .second, .val (.int (1 : Int32)), .unset] [(.long ((qa + (0 : Int64) + (0 : Int64) + (0 : Int64)) + ((0 : Int64) + qb + (0 : Int64) + (0 : Int64)))), (.long (qa + qb + qc + qd))])) _
    refine XS.lload X65.here hx rfl (hb hby at_194) rfl ?_
    show Steps p.tables e below (T65.setTop (mkF m 196 #[.val (.long qa), .second, .val (.long qb), .second, .val (.long qc), .second, .val (.long qd), .second, .val (.long qe), .second, .val (.long qf), .second, .val (.ref b1), .val (.ref b6), .val (.ref b12), .val (.ref b19), .val (.ref b27), .val (.long (qa + (0 : Int64) + (0 : Int64) + (0 : Int64))), .second, .val (.long ((0 : Int64) + qb + (0 : Int64) + (0 : Int64))), .second, .val (.long ((0 : Int64) + (0 : Int64) + qc + (0 : Int64))), .second, .val (.long ((0 : Int64) + (0 : Int64) + (0 : Int64) + qd)), .second, .val (.long (qa + qb + qc + qd)), .second, .val (.int (1 : Int32)), .unset] [(.long ((0 : Int64) + (0 : Int64) + qc + (0 : Int64))), (.long ((qa + (0 : Int64) + (0 : Int64) + (0 : Int64)) + ((0 : Int64) + qb + (0 : Int64) + (0 : Int64)))), (.long (qa + qb + qc + qd))])) _
    refine XS.ladd X65.here hx rfl (hb hby at_196) rfl ?_
    show Steps p.tables e below (T65.setTop (mkF m 197 #[.val (.long qa), .second, .val (.long qb), .second, .val (.long qc), .second, .val (.long qd), .second, .val (.long qe), .second, .val (.long qf), .second, .val (.ref b1), .val (.ref b6), .val (.ref b12), .val (.ref b19), .val (.ref b27), .val (.long (qa + (0 : Int64) + (0 : Int64) + (0 : Int64))), .second, .val (.long ((0 : Int64) + qb + (0 : Int64) + (0 : Int64))), .second, .val (.long ((0 : Int64) + (0 : Int64) + qc + (0 : Int64))), .second, .val (.long ((0 : Int64) + (0 : Int64) + (0 : Int64) + qd)), .second, .val (.long (qa + qb + qc + qd)), .second, .val (.int (1 : Int32)), .unset] [(.long (((qa + (0 : Int64) + (0 : Int64) + (0 : Int64)) + ((0 : Int64) + qb + (0 : Int64) + (0 : Int64))) + ((0 : Int64) + (0 : Int64) + qc + (0 : Int64)))), (.long (qa + qb + qc + qd))])) _
    refine XS.lload X65.here hx rfl (hb hby at_197) rfl ?_
    show Steps p.tables e below (T65.setTop (mkF m 199 #[.val (.long qa), .second, .val (.long qb), .second, .val (.long qc), .second, .val (.long qd), .second, .val (.long qe), .second, .val (.long qf), .second, .val (.ref b1), .val (.ref b6), .val (.ref b12), .val (.ref b19), .val (.ref b27), .val (.long (qa + (0 : Int64) + (0 : Int64) + (0 : Int64))), .second, .val (.long ((0 : Int64) + qb + (0 : Int64) + (0 : Int64))), .second, .val (.long ((0 : Int64) + (0 : Int64) + qc + (0 : Int64))), .second, .val (.long ((0 : Int64) + (0 : Int64) + (0 : Int64) + qd)), .second, .val (.long (qa + qb + qc + qd)), .second, .val (.int (1 : Int32)), .unset] [(.long ((0 : Int64) + (0 : Int64) + (0 : Int64) + qd)), (.long (((qa + (0 : Int64) + (0 : Int64) + (0 : Int64)) + ((0 : Int64) + qb + (0 : Int64) + (0 : Int64))) + ((0 : Int64) + (0 : Int64) + qc + (0 : Int64)))), (.long (qa + qb + qc + qd))])) _
    refine XS.ladd X65.here hx rfl (hb hby at_199) rfl ?_
    show Steps p.tables e below (T65.setTop (mkF m 200 #[.val (.long qa), .second, .val (.long qb), .second, .val (.long qc), .second, .val (.long qd), .second, .val (.long qe), .second, .val (.long qf), .second, .val (.ref b1), .val (.ref b6), .val (.ref b12), .val (.ref b19), .val (.ref b27), .val (.long (qa + (0 : Int64) + (0 : Int64) + (0 : Int64))), .second, .val (.long ((0 : Int64) + qb + (0 : Int64) + (0 : Int64))), .second, .val (.long ((0 : Int64) + (0 : Int64) + qc + (0 : Int64))), .second, .val (.long ((0 : Int64) + (0 : Int64) + (0 : Int64) + qd)), .second, .val (.long (qa + qb + qc + qd)), .second, .val (.int (1 : Int32)), .unset] [(.long ((((qa + (0 : Int64) + (0 : Int64) + (0 : Int64)) + ((0 : Int64) + qb + (0 : Int64) + (0 : Int64))) + ((0 : Int64) + (0 : Int64) + qc + (0 : Int64))) + ((0 : Int64) + (0 : Int64) + (0 : Int64) + qd))), (.long (qa + qb + qc + qd))])) _
    refine XS.lcmp X65.here hx rfl (hb hby at_200) rfl ?_
    show Steps p.tables e below (T65.setTop (mkF m 201 #[.val (.long qa), .second, .val (.long qb), .second, .val (.long qc), .second, .val (.long qd), .second, .val (.long qe), .second, .val (.long qf), .second, .val (.ref b1), .val (.ref b6), .val (.ref b12), .val (.ref b19), .val (.ref b27), .val (.long (qa + (0 : Int64) + (0 : Int64) + (0 : Int64))), .second, .val (.long ((0 : Int64) + qb + (0 : Int64) + (0 : Int64))), .second, .val (.long ((0 : Int64) + (0 : Int64) + qc + (0 : Int64))), .second, .val (.long ((0 : Int64) + (0 : Int64) + (0 : Int64) + qd)), .second, .val (.long (qa + qb + qc + qd)), .second, .val (.int (1 : Int32)), .unset] [(.int (lcmpW (qa + qb + qc + qd) ((((qa + (0 : Int64) + (0 : Int64) + (0 : Int64)) + ((0 : Int64) + qb + (0 : Int64) + (0 : Int64))) + ((0 : Int64) + (0 : Int64) + qc + (0 : Int64))) + ((0 : Int64) + (0 : Int64) + (0 : Int64) + qd))))])) _
    refine XS.ifNo X65.here hx rfl (hb hby at_201) rfl ((if0 _ _).trans (teq ((lw_eq _ _).mpr (by simp))).2) ?_
    show Steps p.tables e below (T65.setTop (mkF m 204 #[.val (.long qa), .second, .val (.long qb), .second, .val (.long qc), .second, .val (.long qd), .second, .val (.long qe), .second, .val (.long qf), .second, .val (.ref b1), .val (.ref b6), .val (.ref b12), .val (.ref b19), .val (.ref b27), .val (.long (qa + (0 : Int64) + (0 : Int64) + (0 : Int64))), .second, .val (.long ((0 : Int64) + qb + (0 : Int64) + (0 : Int64))), .second, .val (.long ((0 : Int64) + (0 : Int64) + qc + (0 : Int64))), .second, .val (.long ((0 : Int64) + (0 : Int64) + (0 : Int64) + qd)), .second, .val (.long (qa + qb + qc + qd)), .second, .val (.int (1 : Int32)), .unset] [])) _
    refine XS.iconst X65.here hx rfl (hb hby at_204) ?_
    show Steps p.tables e below (T65.setTop (mkF m 205 #[.val (.long qa), .second, .val (.long qb), .second, .val (.long qc), .second, .val (.long qd), .second, .val (.long qe), .second, .val (.long qf), .second, .val (.ref b1), .val (.ref b6), .val (.ref b12), .val (.ref b19), .val (.ref b27), .val (.long (qa + (0 : Int64) + (0 : Int64) + (0 : Int64))), .second, .val (.long ((0 : Int64) + qb + (0 : Int64) + (0 : Int64))), .second, .val (.long ((0 : Int64) + (0 : Int64) + qc + (0 : Int64))), .second, .val (.long ((0 : Int64) + (0 : Int64) + (0 : Int64) + qd)), .second, .val (.long (qa + qb + qc + qd)), .second, .val (.int (1 : Int32)), .unset] [(.int (1 : Int32))])) _
    refine XS.goto X65.here hx rfl (pc0 := 205) (pc' := 209) rfl (hb hby at_205) (by decide) (by decide) ?_
    show Steps p.tables e below (T65.setTop (mkF m 209 #[.val (.long qa), .second, .val (.long qb), .second, .val (.long qc), .second, .val (.long qd), .second, .val (.long qe), .second, .val (.long qf), .second, .val (.ref b1), .val (.ref b6), .val (.ref b12), .val (.ref b19), .val (.ref b27), .val (.long (qa + (0 : Int64) + (0 : Int64) + (0 : Int64))), .second, .val (.long ((0 : Int64) + qb + (0 : Int64) + (0 : Int64))), .second, .val (.long ((0 : Int64) + (0 : Int64) + qc + (0 : Int64))), .second, .val (.long ((0 : Int64) + (0 : Int64) + (0 : Int64) + qd)), .second, .val (.long (qa + qb + qc + qd)), .second, .val (.int (1 : Int32)), .unset] [(.int (1 : Int32))])) _
    refine XS.istore X65.here hx rfl (hb hby at_209) rfl (l' := #[.val (.long qa), .second, .val (.long qb), .second, .val (.long qc), .second, .val (.long qd), .second, .val (.long qe), .second, .val (.long qf), .second, .val (.ref b1), .val (.ref b6), .val (.ref b12), .val (.ref b19), .val (.ref b27), .val (.long (qa + (0 : Int64) + (0 : Int64) + (0 : Int64))), .second, .val (.long ((0 : Int64) + qb + (0 : Int64) + (0 : Int64))), .second, .val (.long ((0 : Int64) + (0 : Int64) + qc + (0 : Int64))), .second, .val (.long ((0 : Int64) + (0 : Int64) + (0 : Int64) + qd)), .second, .val (.long (qa + qb + qc + qd)), .second, .val (.int (1 : Int32)), .val (.int (1 : Int32))]) rfl ?_
    show Steps p.tables e below (T65.setTop (mkF m 211 #[.val (.long qa), .second, .val (.long qb), .second, .val (.long qc), .second, .val (.long qd), .second, .val (.long qe), .second, .val (.long qf), .second, .val (.ref b1), .val (.ref b6), .val (.ref b12), .val (.ref b19), .val (.ref b27), .val (.long (qa + (0 : Int64) + (0 : Int64) + (0 : Int64))), .second, .val (.long ((0 : Int64) + qb + (0 : Int64) + (0 : Int64))), .second, .val (.long ((0 : Int64) + (0 : Int64) + qc + (0 : Int64))), .second, .val (.long ((0 : Int64) + (0 : Int64) + (0 : Int64) + qd)), .second, .val (.long (qa + qb + qc + qd)), .second, .val (.int (1 : Int32)), .val (.int (1 : Int32))] [])) _
    refine XS.iload X65.here hx rfl (hb hby at_211) rfl ?_
    show Steps p.tables e below (T65.setTop (mkF m 213 #[.val (.long qa), .second, .val (.long qb), .second, .val (.long qc), .second, .val (.long qd), .second, .val (.long qe), .second, .val (.long qf), .second, .val (.ref b1), .val (.ref b6), .val (.ref b12), .val (.ref b19), .val (.ref b27), .val (.long (qa + (0 : Int64) + (0 : Int64) + (0 : Int64))), .second, .val (.long ((0 : Int64) + qb + (0 : Int64) + (0 : Int64))), .second, .val (.long ((0 : Int64) + (0 : Int64) + qc + (0 : Int64))), .second, .val (.long ((0 : Int64) + (0 : Int64) + (0 : Int64) + qd)), .second, .val (.long (qa + qb + qc + qd)), .second, .val (.int (1 : Int32)), .val (.int (1 : Int32))] [(.int (1 : Int32))])) _
    refine XS.ifNo X65.here hx rfl (hb hby at_213) rfl ((if0 _ _).trans (feq (by decide)).1) ?_
    show Steps p.tables e below (T65.setTop (mkF m 216 #[.val (.long qa), .second, .val (.long qb), .second, .val (.long qc), .second, .val (.long qd), .second, .val (.long qe), .second, .val (.long qf), .second, .val (.ref b1), .val (.ref b6), .val (.ref b12), .val (.ref b19), .val (.ref b27), .val (.long (qa + (0 : Int64) + (0 : Int64) + (0 : Int64))), .second, .val (.long ((0 : Int64) + qb + (0 : Int64) + (0 : Int64))), .second, .val (.long ((0 : Int64) + (0 : Int64) + qc + (0 : Int64))), .second, .val (.long ((0 : Int64) + (0 : Int64) + (0 : Int64) + qd)), .second, .val (.long (qa + qb + qc + qd)), .second, .val (.int (1 : Int32)), .val (.int (1 : Int32))] [])) _
    refine XS.iload X65.here hx rfl (hb hby at_216) rfl ?_
    show Steps p.tables e below (T65.setTop (mkF m 218 #[.val (.long qa), .second, .val (.long qb), .second, .val (.long qc), .second, .val (.long qd), .second, .val (.long qe), .second, .val (.long qf), .second, .val (.ref b1), .val (.ref b6), .val (.ref b12), .val (.ref b19), .val (.ref b27), .val (.long (qa + (0 : Int64) + (0 : Int64) + (0 : Int64))), .second, .val (.long ((0 : Int64) + qb + (0 : Int64) + (0 : Int64))), .second, .val (.long ((0 : Int64) + (0 : Int64) + qc + (0 : Int64))), .second, .val (.long ((0 : Int64) + (0 : Int64) + (0 : Int64) + qd)), .second, .val (.long (qa + qb + qc + qd)), .second, .val (.int (1 : Int32)), .val (.int (1 : Int32))] [(.int (1 : Int32))])) _
    refine XS.ifNo X65.here hx rfl (hb hby at_218) rfl ((if0 _ _).trans (feq (by decide)).1) ?_
    show Steps p.tables e below (T65.setTop (mkF m 221 #[.val (.long qa), .second, .val (.long qb), .second, .val (.long qc), .second, .val (.long qd), .second, .val (.long qe), .second, .val (.long qf), .second, .val (.ref b1), .val (.ref b6), .val (.ref b12), .val (.ref b19), .val (.ref b27), .val (.long (qa + (0 : Int64) + (0 : Int64) + (0 : Int64))), .second, .val (.long ((0 : Int64) + qb + (0 : Int64) + (0 : Int64))), .second, .val (.long ((0 : Int64) + (0 : Int64) + qc + (0 : Int64))), .second, .val (.long ((0 : Int64) + (0 : Int64) + (0 : Int64) + qd)), .second, .val (.long (qa + qb + qc + qd)), .second, .val (.int (1 : Int32)), .val (.int (1 : Int32))] [])) _
    refine XS.iconst X65.here hx rfl (hb hby at_221) ?_
    show Steps p.tables e below (T65.setTop (mkF m 222 #[.val (.long qa), .second, .val (.long qb), .second, .val (.long qc), .second, .val (.long qd), .second, .val (.long qe), .second, .val (.long qf), .second, .val (.ref b1), .val (.ref b6), .val (.ref b12), .val (.ref b19), .val (.ref b27), .val (.long (qa + (0 : Int64) + (0 : Int64) + (0 : Int64))), .second, .val (.long ((0 : Int64) + qb + (0 : Int64) + (0 : Int64))), .second, .val (.long ((0 : Int64) + (0 : Int64) + qc + (0 : Int64))), .second, .val (.long ((0 : Int64) + (0 : Int64) + (0 : Int64) + qd)), .second, .val (.long (qa + qb + qc + qd)), .second, .val (.int (1 : Int32)), .val (.int (1 : Int32))] [(.int (1 : Int32))])) _
    refine XS.goto X65.here hx rfl (pc0 := 222) (pc' := 226) rfl (hb hby at_222) (by decide) (by decide) ?_
    show Steps p.tables e below (T65.setTop (mkF m 226 #[.val (.long qa), .second, .val (.long qb), .second, .val (.long qc), .second, .val (.long qd), .second, .val (.long qe), .second, .val (.long qf), .second, .val (.ref b1), .val (.ref b6), .val (.ref b12), .val (.ref b19), .val (.ref b27), .val (.long (qa + (0 : Int64) + (0 : Int64) + (0 : Int64))), .second, .val (.long ((0 : Int64) + qb + (0 : Int64) + (0 : Int64))), .second, .val (.long ((0 : Int64) + (0 : Int64) + qc + (0 : Int64))), .second, .val (.long ((0 : Int64) + (0 : Int64) + (0 : Int64) + qd)), .second, .val (.long (qa + qb + qc + qd)), .second, .val (.int (1 : Int32)), .val (.int (1 : Int32))] [(.int (1 : Int32))])) _
    exact kt
  obtain ⟨fs, hr, hrun, hended, hW, hsame⟩ := X65.leave (v := some (.int (1 : Int32))) (fun h => by rw [Bd.returns] at h; cases h)
  refine ⟨_, _, ?_, hrun, hended, _, _, rfl, ?_, ⟨_, rfl⟩, hW, hsame.mono (by decide) (by decide)⟩
  · rw [← hG0]
    refine K66 _ ?_
    exact retN X65 hx (t := .boolean) Bd.returns (by simp) (hb hby at_226) hr
  · show Q0 Z qa qb qc qd qe qf h0 n0 _ T65.heap _
    rw [e65]
    exact ⟨rfl, N65⟩
set_option maxRecDepth 65536 in
set_option maxHeartbeats 40000000 in
theorem comes_1 {Post : Tables → Env → Array Value → State → Outcome → State → Prop} (hpost : ∀ tb e args s v u, (limb_1_1.after args s (.returned v) u = true ∧ limb_1_2.after args s (.returned v) u = true ∧ True) → FrameEnd s (.returned v) u (Jvm.fieldLocs frame_1_writes args s ++ Jvm.arrayLocs frame_1_arrays args s ++ Jvm.staticLocs frame_1_statics s) 24 192 → Post tb e args s (.returned v) u) :
    ArmFor flags0 classFile x code maxLocals ret World_1 tables_1 room_1 Calls_1 rest_1 Pre_1 Post := by
  intro l hfl _ _ p e ha hc hk s m args below hf hA hF happ hP
  obtain ⟨hcalls, hrest, hpre⟩ := hP
  obtain ⟨-, -, -, hnamed, -, -, -, hat⟩ := (Spec.applies_iff hf).mp happ
  obtain ⟨hg, hn⟩ := and_e (Cond.before_iff.mp (show (Jvm.Cond.and given_1 narrow_1).before args s = true from hpre))
  obtain ⟨g1, g2⟩ := and_e hg
  obtain ⟨g3, g4⟩ := and_e g2
  obtain ⟨g5, g6⟩ := and_e g4
  obtain ⟨g7, g8⟩ := and_e g6
  obtain ⟨g9, g10⟩ := and_e g8
  obtain ⟨g11, g12⟩ := and_e g10
  obtain ⟨w0, w1, w2, w3, w4, w5, rfl⟩ : ∃ w0 w1 w2 w3 w4 w5 : Value, args = #[w0, w1, w2, w3, w4, w5] := by
    have hs : args.size = 6 := by simpa [Cond.value, given_1] using g1
    obtain ⟨L⟩ := args
    match L, hs with
    | [w0, w1, w2, w3, w4, w5], _ => exact ⟨w0, w1, w2, w3, w4, w5, rfl⟩
  have hw := fun d (hd : d ∈ tables_1) => atoms_spec (ws := Jvm.Cond.code x code maxLocals ret :: tables_1) hat d (List.mem_cons_of_mem _ hd)
  have hfit : Fit s := fun {y c} hc i hi => by
    obtain ⟨ha, rfl⟩ := Array.getElem?_eq_some_iff.mp hc
    have q := List.all_eq_true.mp ((Array.all_eq_true_iff_forall_mem.mp hF) _ (Array.getElem_mem ha)) i (List.mem_range.mpr hi)
    simpa [Array.getElem?_eq_getElem hi] using q
  obtain ⟨i0, ei0⟩ := isL_v g3
  obtain rfl : w0 = (.long i0) := Option.some.inj ei0
  obtain ⟨i1, ei1⟩ := isL_v g5
  obtain rfl : w1 = (.long i1) := Option.some.inj ei1
  obtain ⟨i2, ei2⟩ := isL_v g7
  obtain rfl : w2 = (.long i2) := Option.some.inj ei2
  obtain ⟨i3, ei3⟩ := isL_v g9
  obtain rfl : w3 = (.long i3) := Option.some.inj ei3
  obtain ⟨i4, ei4⟩ := isL_v g11
  obtain rfl : w4 = (.long i4) := Option.some.inj ei4
  obtain ⟨i5, ei5⟩ := isL_v g12
  obtain rfl : w5 = (.long i5) := Option.some.inj ei5
  obtain ⟨n, o, h1, h2, h3, _, L, rfl, ⟨rfl, N⟩, hq⟩ := rm0 l s _ hw tables_1 i0 i1 i2 i3 i4 i5  s.heap s.heap.size (Nat.le_refl _)  p e ha hc hk s m _ below hf ((Spec.applies_iff_loose hf).mp happ).1 ⟨rfl, State.Warmed39.refl s, rfl⟩ trivial
  refine ⟨n, _, h1, h2, h3, hpost _ _ _ _ _ _ ⟨Cond.after_iff.mpr rfl, Cond.after_iff.mpr (eq_i res_at (Term.int_eval (1)) rfl), trivial⟩ ⟨hq.1, hq.2.1, (hq.2.2.sift fun y hy => Or.inr (N y hy)).mono (by decide) (by decide)⟩⟩
theorem main_1_1 : Claimed_1_1 := comes_1 fun _ _ _ _ _ _ h hF => ⟨h.1, hF⟩
theorem main_1_2 : Claimed_1_2 := comes_1 fun _ _ _ _ _ _ h hF => ⟨h.2.1, hF⟩
end Jvm.Pilot.@@N@@
namespace Jvm.Pilot.@@N@@
open Jvm Jvm.ClassFile Sem Op Lib Jvm.Free Jvm.Stand Jvm.Pilot.@@N@@.Jvm.D
/-! MADE BY PROGRAM (witnessworld.py) out of the Statement's table words and the real class files: 10 classes; the members and pool entries that the words name. The judged class is class 1, her method 1. -/
namespace start1
open Jvm.ClassFile
def u (s : String) : CpInfo := .utf8 (stringToUtf16 s)
/-- a pool by its gaps: so many unusable entries, then the entry; so many at the end -/
def gap : Nat → List CpInfo → List CpInfo
  | 0, r => r
  | n + 1, r => .unusable :: gap n r
def poolList (es : List (Nat × CpInfo)) (last : Nat) : List CpInfo := es.foldr (fun e r => gap e.1 (e.2 :: r)) (gap last [])
def pool (es : List (Nat × CpInfo)) (last : Nat) : Array CpInfo := ⟨poolList es last⟩
def fileOf (pool : Array CpInfo) (this : Nat) (attrs : Array Attribute := #[]) (ms : Array MethodInfo := #[]) (fl : Nat := 33) (sup : Nat := 0) (ifs : Array Nat := #[]) (fds : Array FieldInfo := #[]) : ClassFile where
  minorVersion := 0
  majorVersion := 65
  constantPool := pool
  accessFlags := fl
  thisClass := this
  superClass := sup
  interfaces := ifs
  fields := fds
  methods := ms
  attributes := attrs
def plain (name : String) (sup : Option ClassId) : Class where
  name := name
  kind := .ordinary
  loader := none
  accessFlags := 33
  super := sup
  interfaces := #[]
  cf := none
  fields := #[]
  methods := #[]
  instanceTypes := #[]
  staticTypes := #[]
  resolved := #[]
  callSites := []
  init := .initialized
  statics := none
  mirror := none

def pool0 : Array CpInfo := pool [(5, u "<init>"), (0, u "()V"), (1, .class_ 10), (1, u "java/lang/Object")] 113

def k0c0 : Code := { maxStack := 0, maxLocals := 1, code := object_method_1_code, exceptionTable := #[], attributes := #[] }
def k0m0 : Method := { name := "<init>", desc := "()V", sig := { parameters := [], returnType := none }, accessFlags := 1, code := some k0c0 }
/-- java/lang/Object -/
def k0 : Class := { plain "java/lang/Object" none with
  accessFlags := 33
  interfaces := #[]
  cf := some (fileOf pool0 8 #[] #[{ accessFlags := 1, nameIndex := 5, descriptorIndex := 6, attributes := #[] }] 33 0 #[] #[])
  fields := #[]
  methods := #[k0m0]
  instanceTypes := #[]
  staticTypes := #[]
  resolved := Array.replicate 124 none
  statics := none }

def pool1 : Array CpInfo := pool [(2, .class_ 4), (1, u "java/lang/Object"), (0, u "<init>"), (0, u "()V"), (0, .class_ 8), (0, u "com/example/horarium/horarium/engine/Score"), (0, .methodref 7 10), (0, .nameAndType 5 11), (0, u "(JJJJJJJJ)V"), (0, .methodref 7 13), (0, .nameAndType 14 15), (0, u "hard"), (0, u "()J"), (0, .class_ 17), (0, u "com/example/horarium/horarium/engine/ScoreHardPinLaw"), (2, u "law"), (0, u "(JJJJJJ)Z")] 3

def k1m0 : Method := { name := "<init>", desc := "()V", sig := { parameters := [], returnType := none }, accessFlags := 2, code := none }
def k1c1 : Code := { maxStack := 20, maxLocals := 29, code := code, exceptionTable := #[], attributes := #[] }
def k1m1 : Method := { name := "law", desc := "(JJJJJJ)Z", sig := { parameters := [.long, .long, .long, .long, .long, .long], returnType := some .boolean }, accessFlags := 9, code := some k1c1 }
/-- com/example/horarium/horarium/engine/ScoreHardPinLaw -/
def k1 : Class := { plain "com/example/horarium/horarium/engine/ScoreHardPinLaw" (some 0) with
  accessFlags := 49
  interfaces := #[]
  cf := some (fileOf pool1 16 #[] #[{ accessFlags := 2, nameIndex := 5, descriptorIndex := 6, attributes := #[] }, { accessFlags := 9, nameIndex := 20, descriptorIndex := 21, attributes := #[] }] 49 2 #[] #[])
  fields := #[]
  methods := #[k1m0, k1m1]
  instanceTypes := #[]
  staticTypes := #[]
  resolved := Array.replicate 25 none
  statics := none }

def pool2 : Array CpInfo := pool [(1, .methodref 2 3), (0, .class_ 4), (0, .nameAndType 5 6), (0, u "java/lang/Object"), (0, u "<init>"), (0, u "()V"), (0, .class_ 8), (0, u "java/lang/Record")] 13

def k2c0 : Code := { maxStack := 1, maxLocals := 1, code := jdk_30_method_1_code, exceptionTable := #[], attributes := #[] }
def k2m0 : Method := { name := "<init>", desc := "()V", sig := { parameters := [], returnType := none }, accessFlags := 4, code := some k2c0 }
/-- java/lang/Record -/
def k2 : Class := { plain "java/lang/Record" (some 0) with
  accessFlags := 1057
  interfaces := #[]
  cf := some (fileOf pool2 7 #[] #[{ accessFlags := 4, nameIndex := 5, descriptorIndex := 6, attributes := #[] }] 1057 2 #[] #[])
  fields := #[]
  methods := #[k2m0]
  instanceTypes := #[]
  staticTypes := #[]
  resolved := Array.replicate 22 none
  statics := none }

def pool3 : Array CpInfo := pool [(1, .methodref 2 3), (0, .class_ 4), (0, .nameAndType 5 6), (0, u "java/lang/Record"), (0, u "<init>"), (0, u "()V"), (0, .fieldref 8 9), (0, .class_ 10), (0, .nameAndType 11 12), (0, u "com/example/horarium/horarium/engine/Score"), (0, u "lectures"), (0, u "J"), (0, .fieldref 8 14), (0, .nameAndType 15 12), (0, u "conflicts"), (0, .fieldref 8 17), (0, .nameAndType 18 12), (0, u "availability"), (0, .fieldref 8 20), (0, .nameAndType 21 12), (0, u "roomOccupation"), (0, .fieldref 8 23), (0, .nameAndType 24 12), (0, u "roomCapacity"), (0, .fieldref 8 26), (0, .nameAndType 27 12), (0, u "minWorkingDays"), (0, .fieldref 8 29), (0, .nameAndType 30 12), (0, u "curriculumCompactness"), (0, .fieldref 8 32), (0, .nameAndType 33 12), (0, u "roomStability"), (102, u "()J"), (8, u "(JJJJJJJJ)V"), (57, u "hard")] 38

def k3c0 : Code := { maxStack := 3, maxLocals := 17, code := prog_70_method_1_code, exceptionTable := #[], attributes := #[] }
def k3m0 : Method := { name := "<init>", desc := "(JJJJJJJJ)V", sig := { parameters := [.long, .long, .long, .long, .long, .long, .long, .long], returnType := none }, accessFlags := 1, code := some k3c0 }
def k3c1 : Code := { maxStack := 4, maxLocals := 1, code := prog_70_method_2_code, exceptionTable := #[], attributes := #[] }
def k3m1 : Method := { name := "hard", desc := "()J", sig := { parameters := [], returnType := some .long }, accessFlags := 1, code := some k3c1 }
/-- com/example/horarium/horarium/engine/Score -/
def k3 : Class := { plain "com/example/horarium/horarium/engine/Score" (some 2) with
  accessFlags := 49
  interfaces := #[]
  cf := some (fileOf pool3 8 #[] #[{ accessFlags := 1, nameIndex := 5, descriptorIndex := 145, attributes := #[] }, { accessFlags := 1, nameIndex := 203, descriptorIndex := 136, attributes := #[] }] 49 2 #[] #[{ accessFlags := 18, nameIndex := 11, descriptorIndex := 12, attributes := #[] }, { accessFlags := 18, nameIndex := 15, descriptorIndex := 12, attributes := #[] }, { accessFlags := 18, nameIndex := 18, descriptorIndex := 12, attributes := #[] }, { accessFlags := 18, nameIndex := 21, descriptorIndex := 12, attributes := #[] }, { accessFlags := 18, nameIndex := 24, descriptorIndex := 12, attributes := #[] }, { accessFlags := 18, nameIndex := 27, descriptorIndex := 12, attributes := #[] }, { accessFlags := 18, nameIndex := 30, descriptorIndex := 12, attributes := #[] }, { accessFlags := 18, nameIndex := 33, descriptorIndex := 12, attributes := #[] }])
  fields := #[{ name := "lectures", type := .long, accessFlags := 18, slot := 0, constantValue := 0 }, { name := "conflicts", type := .long, accessFlags := 18, slot := 1, constantValue := 0 }, { name := "availability", type := .long, accessFlags := 18, slot := 2, constantValue := 0 }, { name := "roomOccupation", type := .long, accessFlags := 18, slot := 3, constantValue := 0 }, { name := "roomCapacity", type := .long, accessFlags := 18, slot := 4, constantValue := 0 }, { name := "minWorkingDays", type := .long, accessFlags := 18, slot := 5, constantValue := 0 }, { name := "curriculumCompactness", type := .long, accessFlags := 18, slot := 6, constantValue := 0 }, { name := "roomStability", type := .long, accessFlags := 18, slot := 7, constantValue := 0 }]
  methods := #[k3m0, k3m1]
  instanceTypes := #[.long, .long, .long, .long, .long, .long, .long, .long]
  staticTypes := #[]
  resolved := Array.replicate 242 none
  statics := none }

def pool4 : Array CpInfo := pool [(1, u "java/lang/Cloneable"), (0, .class_ 1), (0, u "java/lang/Object"), (0, .class_ 3)] 3

/-- java/lang/Cloneable -/
def k4 : Class := { plain "java/lang/Cloneable" (some 0) with
  accessFlags := 1537
  interfaces := #[]
  cf := some (fileOf pool4 2 #[] #[] 1537 4 #[] #[])
  fields := #[]
  methods := #[]
  instanceTypes := #[]
  staticTypes := #[]
  resolved := Array.replicate 8 none
  statics := none }

def pool5 : Array CpInfo := pool [(1, u "java/io/Serializable"), (0, .class_ 1), (0, u "java/lang/Object"), (0, .class_ 3)] 3

/-- java/io/Serializable -/
def k5 : Class := { plain "java/io/Serializable" (some 0) with
  accessFlags := 1537
  interfaces := #[]
  cf := some (fileOf pool5 2 #[] #[] 1537 4 #[] #[])
  fields := #[]
  methods := #[]
  instanceTypes := #[]
  staticTypes := #[]
  resolved := Array.replicate 8 none
  statics := none }

/-- the primitive byte -/
def k6 : Class := { plain "byte" none with kind := .primitive 'B', accessFlags := 0x411 }
/-- [B -/
def k7 : Class := { plain "[B" (some 0) with kind := .array 6 .byte, interfaces := #[4, 5], accessFlags := 1041 }

/-- the primitive int -/
def k8 : Class := { plain "int" none with kind := .primitive 'I', accessFlags := 0x411 }
/-- [I -/
def k9 : Class := { plain "[I" (some 0) with kind := .array 8 .int, interfaces := #[4, 5], accessFlags := 1041 }

def heap : Heap := #[]
def classes : Array Class := #[k0, k1, k2, k3, k4, k5, k6, k7, k8, k9]
def interned : List (Array UInt16 × Addr) := []
def slotsUsed : Nat := 0
def theMethod : MethodId := ⟨1, 1⟩
def args0 : Array Value := #[.long 9, .long 7, .long 7, .long 7, .long 7, .long 7]
def aboutOver (below : List Frame) : State where
  vm := { classes := classes, interned := interned.toArray }
  heap := heap
  slotsUsed := slotsUsed
  threads := #[{ frames := .invoking theMethod args0 :: below }]
def below0 : List Frame := [.native { method := ⟨0, 0⟩, args := #[] }]
def about1 : State := aboutOver below0
def p0 : Program := .bare "" "" ""
def e0 : Env := launch0.env 0 0 0
theorem w_frames : about1.frames = Frame.invoking theMethod args0 :: below0 := rfl
set_option maxRecDepth 65536 in
theorem w_args : argsFit about1.vm theMethod args0 = true := by decide +kernel
set_option maxRecDepth 65536 in
theorem w_heap : heapFits about1 = true := by decide +kernel
set_option maxRecDepth 65536 in
theorem w_runnable : about1.curStatus? = some .runnable := by decide +kernel
set_option maxRecDepth 65536 in
theorem w_alone : about1.alone = true := by decide +kernel
set_option maxRecDepth 65536 in
theorem w_named : about1.methodNamed? x = some theMethod := by decide +kernel
set_option maxRecDepth 65536 in
theorem w_hears : about1.hears theMethod below0 = true := by decide +kernel
set_option maxRecDepth 65536 in
theorem w_ripe : about1.ripe theMethod args0 below0 = true := by decide +kernel
theorem w_running : about1.status = .running := rfl
set_option maxRecDepth 65536 in
theorem w_room : about1.hasRoom e0.platform room_1 = true :=
  launch0.hasRoom_least _ room_1 (by decide +kernel) (by decide +kernel) (by decide +kernel) (by decide +kernel) (by decide +kernel) (by decide +kernel)
theorem allAtoms_all (ts : List Jvm.Cond) (a : Array Jvm.Value) (st : Jvm.State) : (allAtoms ts).before a st = ts.all (fun c => c.before a st) := by
  induction ts with
  | nil => rfl
  | cons c t ih =>
    show (Jvm.Cond.and c (allAtoms t)).before a st = _
    rw [Jvm.Cond.before_and, ih, List.all_cons]
def words1 : List Jvm.Cond := Jvm.Cond.code x code maxLocals ret :: tables_1
/-- a 'code' word, met by the world's own term for the bytes: nothing is compared byte by byte -/
theorem code_word {y : MethodName} {bytes : ByteArray} {mx : Nat} {rt : Option FieldType} {a : Array Value} {s : State} {m : MethodId} {meth : Method} {c : Code} (h1 : s.methodNamed? y = some m) (h2 : s.vm.method? m = some meth) (h3 : meth.code = some c) (h4 : c.code = bytes)
    (h5 : (c.maxLocals == mx && c.exceptionTable.isEmpty && decide (c.maxStack ≤ mostOperands) && decide (meth.sig.returnType = rt) && !meth.locks && decide (parseMethodDescriptor y.desc = some meth.sig)) = true) : (Jvm.Cond.code y bytes mx rt).before a s = true := by
  simp only [Bool.and_eq_true, beq_iff_eq, Bool.not_eq_true', decide_eq_true_eq] at h5
  obtain ⟨⟨⟨⟨⟨g1, g2⟩, g3⟩, g4⟩, g5⟩, g6⟩ := h5
  simp [Cond.before, Cond.holds, Cond.value, h1, h2, h3, h4, g1, g2, g3, g4, g5, g6]
def isCode : Jvm.Cond → Bool
  | .code _ _ _ _ => true
  | _ => false
theorem all_split {L : List Jvm.Cond} {P : Jvm.Cond → Bool} (h1 : L.all (fun c => isCode c || P c) = true) (h2 : ∀ c ∈ L.filter isCode, P c = true) : L.all P = true := by
  refine List.all_eq_true.mpr fun c hc => ?_
  have h := List.all_eq_true.mp h1 c hc
  rcases Bool.eq_false_or_eq_true (isCode c) with hi | hi
  · exact h2 c (List.mem_filter.mpr ⟨hc, hi⟩)
  · simpa [hi] using h
set_option maxRecDepth 65536 in
theorem w_c0 : (Jvm.Cond.code x code maxLocals ret).before args0 about1 = true := code_word (m := ⟨1, 1⟩) (meth := k1m1) (c := k1c1) (by decide +kernel) rfl rfl rfl (by decide +kernel)
set_option maxRecDepth 65536 in
theorem w_c1 : (Jvm.Cond.code ({ cls := "com/example/horarium/horarium/engine/Score", name := "<init>", desc := "(JJJJJJJJ)V" } : Jvm.MethodName) prog_70_method_1_code (17 : Nat) (Option.none : Option Jvm.ClassFile.FieldType)).before args0 about1 = true := code_word (m := ⟨3, 0⟩) (meth := k3m0) (c := k3c0) (by decide +kernel) rfl rfl rfl (by decide +kernel)
set_option maxRecDepth 65536 in
theorem w_c2 : (Jvm.Cond.code ({ cls := "java/lang/Record", name := "<init>", desc := "()V" } : Jvm.MethodName) jdk_30_method_1_code (1 : Nat) (Option.none : Option Jvm.ClassFile.FieldType)).before args0 about1 = true := code_word (m := ⟨2, 0⟩) (meth := k2m0) (c := k2c0) (by decide +kernel) rfl rfl rfl (by decide +kernel)
set_option maxRecDepth 65536 in
theorem w_c3 : (Jvm.Cond.code ({ cls := "java/lang/Object", name := "<init>", desc := "()V" } : Jvm.MethodName) object_method_1_code (1 : Nat) (Option.none : Option Jvm.ClassFile.FieldType)).before args0 about1 = true := code_word (m := ⟨0, 0⟩) (meth := k0m0) (c := k0c0) (by decide +kernel) rfl rfl rfl (by decide +kernel)
set_option maxRecDepth 65536 in
theorem w_c4 : (Jvm.Cond.code ({ cls := "com/example/horarium/horarium/engine/Score", name := "hard", desc := "()J" } : Jvm.MethodName) prog_70_method_2_code (1 : Nat) (Option.some Jvm.ClassFile.FieldType.long)).before args0 about1 = true := code_word (m := ⟨3, 1⟩) (meth := k3m1) (c := k3c1) (by decide +kernel) rfl rfl rfl (by decide +kernel)
def codes1 : List Jvm.Cond := [Jvm.Cond.code x code maxLocals ret, Jvm.Cond.code ({ cls := "com/example/horarium/horarium/engine/Score", name := "<init>", desc := "(JJJJJJJJ)V" } : Jvm.MethodName) prog_70_method_1_code (17 : Nat) (Option.none : Option Jvm.ClassFile.FieldType), Jvm.Cond.code ({ cls := "java/lang/Record", name := "<init>", desc := "()V" } : Jvm.MethodName) jdk_30_method_1_code (1 : Nat) (Option.none : Option Jvm.ClassFile.FieldType), Jvm.Cond.code ({ cls := "java/lang/Object", name := "<init>", desc := "()V" } : Jvm.MethodName) object_method_1_code (1 : Nat) (Option.none : Option Jvm.ClassFile.FieldType), Jvm.Cond.code ({ cls := "com/example/horarium/horarium/engine/Score", name := "hard", desc := "()J" } : Jvm.MethodName) prog_70_method_2_code (1 : Nat) (Option.some Jvm.ClassFile.FieldType.long)]
set_option maxRecDepth 65536 in
theorem codes_eq : words1.filter isCode = codes1 := rfl
theorem w_codes : ∀ c ∈ words1.filter isCode, c.before args0 about1 = true := by
  rw [codes_eq]
  intro c hc
  simp only [codes1, List.mem_cons, List.not_mem_nil, or_false] at hc
  rcases hc with rfl | rfl | rfl | rfl | rfl
  · exact w_c0
  · exact w_c1
  · exact w_c2
  · exact w_c3
  · exact w_c4
set_option maxRecDepth 65536 in
theorem w_t1 : (words1.take 24).all (fun c => isCode c || c.before args0 about1) = true := by decide +kernel
set_option maxRecDepth 65536 in
theorem w_t2 : (words1.drop 24).all (fun c => isCode c || c.before args0 about1) = true := by decide +kernel
theorem w_tables : (allAtoms (Jvm.Cond.code x code maxLocals ret :: tables_1)).before args0 about1 = true := by
  rw [allAtoms_all]
  show words1.all (fun c => c.before args0 about1) = true
  refine all_split ?_ w_codes
  rw [← List.take_append_drop 24 words1, List.all_append, w_t1, w_t2]
  rfl
set_option maxRecDepth 65536 in
theorem w_case : (Jvm.Cond.and given_1 narrow_1).before args0 about1 = true := by decide +kernel
theorem w_applies : (headSpec (Jvm.Cond.code x code maxLocals ret :: tables_1) room_1).applies x e0.platform about1 = true :=
  (Spec.applies_iff w_frames).mpr ⟨w_running, w_runnable, w_alone, w_named, w_hears, w_ripe, w_room, w_tables⟩
theorem atStart : AtStart classFile x code maxLocals ret World_1 tables_1 room_1 Calls_1 rest_1 Pre_1 launch0 p0 e0 about1 theMethod args0 below0 :=
  ⟨lists_1, trivial, launch0.admits_env _ _ _, launch0.least_env, fairChoices_fair.cas, fairChoices_fair.clock, w_frames, w_args, w_heap, w_applies, trivial, trivial, w_case⟩
end start1
theorem witness_1 : WitnessClaimed_1 := ⟨start1.p0, start1.e0, start1.about1, start1.theMethod, start1.args0, start1.below0, start1.atStart⟩
end Jvm.Pilot.@@N@@
