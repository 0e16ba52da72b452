import JvmDerived
import JvmDerived.Pilot.@@N@@Statement
import JvmDerived.Pilot.@@N@@Code
set_option linter.unusedVariables false
set_option linter.unusedSimpArgs false
namespace Jvm.Pilot.@@N@@
open Jvm Jvm.ClassFile Sem Op Lib Jvm.Free Jvm.Stand Jvm.LawKit Jvm.RoadKit Bundle Jvm.Pilot.@@N@@.Jvm.D
theorem d1_0 : decode prog_121_method_2_code 0 = .ok (.getstatic 27, 3) := by decide +kernel
theorem d1_3 : decode prog_121_method_2_code 3 = .ok (.astore_n 1, 1) := by decide +kernel
theorem d1_4 : decode prog_121_method_2_code 4 = .ok (.iload_n 0, 1) := by decide +kernel
theorem d1_5 : decode prog_121_method_2_code 5 = .ok (.ifCond .eq 7, 3) := by decide +kernel
theorem d1_8 : decode prog_121_method_2_code 8 = .ok (.getstatic 31, 3) := by decide +kernel
theorem d1_11 : decode prog_121_method_2_code 11 = .ok (.astore_n 1, 1) := by decide +kernel
theorem d1_12 : decode prog_121_method_2_code 12 = .ok (.aload_n 1, 1) := by decide +kernel
theorem d1_13 : decode prog_121_method_2_code 13 = .ok (.areturn, 1) := by decide +kernel
theorem pn_com_example_lichen_lichen_engine_Value : plainName "com/example/lichen/lichen/engine/Value" = true := by first | (simp [plainName, overriddenIn]; done) | decide +kernel
theorem ef_rm1 (m : MethodId) (p0 : Int32) : entryFrame m #[(.int p0)] 2 = (mkF m 0 #[.val (.int p0), .unset] []) := by first | (simp [entryFrame, mkF, argsToLocals, Value.category]; done) | rfl
def Q1 (Z : State) (p0 : Int32) (wF : Addr) (wT : Addr) (h0 : Heap) (n0 : Nat) (v : Option Value) (h : Heap) (L : List Loc) : Prop := v = some (.ref (if p0 = 0 then wF else wT)) ∧ Fr n0 L ∧ h = h0
set_option maxRecDepth 65536 in
set_option maxHeartbeats 40000000 in
theorem rm1 (l : Launch) (Z : State) (aa : Array Value) (hw : ∀ d ∈ tables_1, d.before aa Z = true) (ws : List Jvm.Cond) (p0 : Int32) (wF : Addr) (wT : Addr) (h0 : Heap) (n0 : Nat) (Z0 : n0 ≤ h0.size) (SF : Sta Z h0 "com/example/lichen/lichen/engine/Value" "FALSE" "Lcom/example/lichen/lichen/engine/Value;" (.ref wF)) (ST : Sta Z h0 "com/example/lichen/lichen/engine/Value" "TRUE" "Lcom/example/lichen/lichen/engine/Value;" (.ref wT)) :
    MetFree l (⟨"com/example/lichen/lichen/engine/Value", "of", "(Z)Lcom/example/lichen/lichen/engine/Value;"⟩ : MethodName) (head1 (Jvm.Cond.code (⟨"com/example/lichen/lichen/engine/Value", "of", "(Z)Lcom/example/lichen/lichen/engine/Value;"⟩ : MethodName) prog_121_method_2_code 2 (some (.object "com/example/lichen/lichen/engine/Value")) :: ws) ({ frames := 0, cells := 0, slots := 0, locals := 0 } : Room)) (fun a U => a = #[(.int p0)] ∧ Z.Warmed39 U.vm ∧ U.heap = h0) (fun _ _ _ _ _ => True) (fun _ U o U' => ∃ v L, o = .returned v ∧ Q1 Z p0 wF wT h0 n0 v U'.heap L ∧ FrameEnd U o U' L ({ frames := 0, cells := 0, slots := 0, locals := 0 } : Room).cells ({ frames := 0, cells := 0, slots := 0, locals := 0 } : Room).slots) := by
  refine MetFree.of_bodySF (plainFor_of_name pn_com_example_lichen_lichen_engine_Value) hisR ?_
  intro p e s m args below meth c s₁ Bd hml0 hP hK
  obtain ⟨rfl, hZ, hh⟩ := hP
  have hx := Bd.exec
  have hby := Bd.bytes
  have hml : c.maxLocals = 2 := hml0
  have hown : s.vm.findClass "com/example/lichen/lichen/engine/Value" = some m.cls := findClass_of_methodNamed Bd.named
  have hnm := (name_of_methodNamed Bd.named Bd.method).1
  have X0 : Stand p l e ({ frames := 0, cells := 0, slots := 0, locals := 0 } : Room) s m #[(.int p0)] below meth c s₁ [] 0 0 := Stand.of_body Bd
  have e0 : s₁.heap = h0 := by rw [← hh, Bd.state]; rfl
  have N0 := Fr.nil n0
  obtain ⟨G0, hG0⟩ : ∃ G, G = s₁.setTop (entryFrame m #[(.int p0)] 2) := ⟨_, rfl⟩
  have K0 : ∀ t, Steps p.tables e below (s₁.setTop (mkF m 0 #[.val (.int p0), .unset] [])) t → Steps p.tables e below G0 t := fun t k => by rw [hG0]; exact castTop (ef_rm1 m p0) k
  obtain ⟨T1, X1, e1, st1⟩ := getS2 X0 hx hZ hown (host := "") (Or.inl (hw _ (List.mem_of_getElem? (i := 4) rfl))) Via.refl e0 SF (g := (mkF m 0 #[.val (.int p0), .unset] [])) rfl (hb hby d1_0)
  have K1 : ∀ t, Steps p.tables e below (T1.setTop (mkF m 3 #[.val (.int p0), .unset] [(.ref wF)])) t → Steps p.tables e below G0 t := fun t kt => K0 t (st1 _ kt)
  have K2 : ∀ t, Steps p.tables e below (T1.setTop (mkF m 5 #[.val (.int p0), .val (.ref wF)] [(.int p0)])) t → Steps p.tables e below G0 t := by
    intro t kt
    refine K1 t ?_
    refine XS.astoreN X1.here hx rfl (hb hby d1_3) rfl rfl (l' := #[.val (.int p0), .val (.ref wF)]) rfl ?_
    show Steps p.tables e below (T1.setTop (mkF m 4 #[.val (.int p0), .val (.ref wF)] [])) _
    refine XS.iloadN X1.here hx rfl (hb hby d1_4) rfl ?_
    show Steps p.tables e below (T1.setTop (mkF m 5 #[.val (.int p0), .val (.ref wF)] [(.int p0)])) _
    exact kt
  by_cases hc3 : p0 = (0 : Int32)
  ·
    have K4 : ∀ t, Steps p.tables e below (T1.setTop (mkF m 13 #[.val (.int p0), .val (.ref wF)] [(.ref wF)])) t → Steps p.tables e below G0 t := by
      intro t kt
      refine K2 t ?_
      refine XS.ifYes X1.here hx rfl (pc0 := 5) (pc' := 12) rfl (hb hby d1_5) rfl ((if0 _ _).trans (teq hc3).1) (by decide) (by decide) ?_
      show Steps p.tables e below (T1.setTop (mkF m 12 #[.val (.int p0), .val (.ref wF)] [])) _
      refine XS.aloadN X1.here hx rfl (hb hby d1_12) rfl rfl ?_
      show Steps p.tables e below (T1.setTop (mkF m 13 #[.val (.int p0), .val (.ref wF)] [(.ref wF)])) _
      exact kt
    obtain ⟨fs, hr, hrun, hended, hW, hsame⟩ := X1.leave (v := some (.ref wF)) (fun h => by rw [Bd.returns] at h; cases h)
    refine ⟨_, _, ?_, hrun, hended, _, _, rfl, ?_, ⟨_, rfl⟩, hW, hsame.mono (by decide) (by decide)⟩
    · rw [← hG0]
      refine K4 _ ?_
      exact retOut X1 hx (t := (.object "com/example/lichen/lichen/engine/Value")) Bd.returns rfl (Or.inr (Or.inr (Or.inr (Or.inr ⟨rfl, rfl, rfl⟩)))) (hb hby d1_13) hr
    · show Q1 Z p0 wF wT h0 n0 _ T1.heap _
      rw [e1]
      exact ⟨by rw [if_pos hc3], N0, rfl⟩
  ·
    have K5 : ∀ t, Steps p.tables e below (T1.setTop (mkF m 8 #[.val (.int p0), .val (.ref wF)] [])) t → Steps p.tables e below G0 t := by
      intro t kt
      refine K2 t ?_
      refine XS.ifNo X1.here hx rfl (hb hby d1_5) rfl ((if0 _ _).trans (feq hc3).1) ?_
      show Steps p.tables e below (T1.setTop (mkF m 8 #[.val (.int p0), .val (.ref wF)] [])) _
      exact kt
    obtain ⟨T6, X6, e6, st6⟩ := getS2 X1 hx hZ hown (host := "") (Or.inl (hw _ (List.mem_of_getElem? (i := 33) rfl))) Via.refl e1 ST (g := (mkF m 8 #[.val (.int p0), .val (.ref wF)] [])) rfl (hb hby d1_8)
    have K6 : ∀ t, Steps p.tables e below (T6.setTop (mkF m 11 #[.val (.int p0), .val (.ref wF)] [(.ref wT)])) t → Steps p.tables e below G0 t := fun t kt => K5 t (st6 _ kt)
    have K7 : ∀ t, Steps p.tables e below (T6.setTop (mkF m 13 #[.val (.int p0), .val (.ref wT)] [(.ref wT)])) t → Steps p.tables e below G0 t := by
      intro t kt
      refine K6 t ?_
      refine XS.astoreN X6.here hx rfl (hb hby d1_11) rfl rfl (l' := #[.val (.int p0), .val (.ref wT)]) rfl ?_
      show Steps p.tables e below (T6.setTop (mkF m 12 #[.val (.int p0), .val (.ref wT)] [])) _
      refine XS.aloadN X6.here hx rfl (hb hby d1_12) rfl rfl ?_
      show Steps p.tables e below (T6.setTop (mkF m 13 #[.val (.int p0), .val (.ref wT)] [(.ref wT)])) _
      exact kt
    obtain ⟨fs, hr, hrun, hended, hW, hsame⟩ := X6.leave (v := some (.ref wT)) (fun h => by rw [Bd.returns] at h; cases h)
    refine ⟨_, _, ?_, hrun, hended, _, _, rfl, ?_, ⟨_, rfl⟩, hW, hsame.mono (by decide) (by decide)⟩
    · rw [← hG0]
      refine K7 _ ?_
      exact retOut X6 hx (t := (.object "com/example/lichen/lichen/engine/Value")) Bd.returns rfl (Or.inr (Or.inr (Or.inr (Or.inr ⟨rfl, rfl, rfl⟩)))) (hb hby d1_13) hr
    · show Q1 Z p0 wF wT h0 n0 _ T6.heap _
      rw [e6]
      exact ⟨by rw [if_neg hc3], N0, rfl⟩
theorem d2_0 : decode prog_121_method_3_code 0 = .ok (.aload_n 0, 1) := by decide +kernel
theorem d2_1 : decode prog_121_method_3_code 1 = .ok (.getfield 17, 3) := by decide +kernel
theorem d2_4 : decode prog_121_method_3_code 4 = .ok (.areturn, 1) := by decide +kernel
theorem ef_rm2 (m : MethodId) (a0 : Addr) : entryFrame m #[(.ref a0)] 1 = (mkF m 0 #[.val (.ref a0)] []) := by first | (simp [entryFrame, mkF, argsToLocals, Value.category]; done) | rfl
def Q2 (Z : State) (a0 : Addr) (tt : Addr) (h0 : Heap) (n0 : Nat) (v : Option Value) (h : Heap) (L : List Loc) : Prop := v = some (.ref tt) ∧ Fr n0 L ∧ h = h0
set_option maxRecDepth 65536 in
set_option maxHeartbeats 40000000 in
theorem rm2 (l : Launch) (Z : State) (aa : Array Value) (hw : ∀ d ∈ tables_1, d.before aa Z = true) (ws : List Jvm.Cond) (a0 : Addr) (tt : Addr) (h0 : Heap) (n0 : Nat) (Z0 : n0 ≤ h0.size) (F : Fld Z h0 a0 "com/example/lichen/lichen/engine/Value" "type" "Lcom/example/lichen/lichen/engine/DataType;" (.ref tt)) :
    MetFree l (⟨"com/example/lichen/lichen/engine/Value", "getType", "()Lcom/example/lichen/lichen/engine/DataType;"⟩ : MethodName) (head1 (Jvm.Cond.code (⟨"com/example/lichen/lichen/engine/Value", "getType", "()Lcom/example/lichen/lichen/engine/DataType;"⟩ : MethodName) prog_121_method_3_code 1 (some (.object "com/example/lichen/lichen/engine/DataType")) :: ws) ({ frames := 0, cells := 0, slots := 0, locals := 0 } : Room)) (fun a U => a = #[(.ref a0)] ∧ Z.Warmed39 U.vm ∧ U.heap = h0) (fun _ _ _ _ _ => True) (fun _ U o U' => ∃ v L, o = .returned v ∧ Q2 Z a0 tt h0 n0 v U'.heap L ∧ FrameEnd U o U' L ({ frames := 0, cells := 0, slots := 0, locals := 0 } : Room).cells ({ frames := 0, cells := 0, slots := 0, locals := 0 } : Room).slots) := by
  refine MetFree.of_bodySF (plainFor_of_name pn_com_example_lichen_lichen_engine_Value) hisR ?_
  intro p e s m args below meth c s₁ Bd hml0 hP hK
  obtain ⟨rfl, hZ, hh⟩ := hP
  have hx := Bd.exec
  have hby := Bd.bytes
  have hml : c.maxLocals = 1 := hml0
  have hown : s.vm.findClass "com/example/lichen/lichen/engine/Value" = some m.cls := findClass_of_methodNamed Bd.named
  have hnm := (name_of_methodNamed Bd.named Bd.method).1
  have X0 : Stand p l e ({ frames := 0, cells := 0, slots := 0, locals := 0 } : Room) s m #[(.ref a0)] below meth c s₁ [] 0 0 := Stand.of_body Bd
  have e0 : s₁.heap = h0 := by rw [← hh, Bd.state]; rfl
  have N0 := Fr.nil n0
  obtain ⟨G0, hG0⟩ : ∃ G, G = s₁.setTop (entryFrame m #[(.ref a0)] 1) := ⟨_, rfl⟩
  have K0 : ∀ t, Steps p.tables e below (s₁.setTop (mkF m 0 #[.val (.ref a0)] [])) t → Steps p.tables e below G0 t := fun t k => by rw [hG0]; exact castTop (ef_rm2 m a0) k
  have K1 : ∀ t, Steps p.tables e below (s₁.setTop (mkF m 1 #[.val (.ref a0)] [(.ref a0)])) t → Steps p.tables e below G0 t := by
    intro t kt
    refine K0 t ?_
    refine XS.aloadN X0.here hx rfl (hb hby d2_0) rfl rfl ?_
    show Steps p.tables e below (s₁.setTop (mkF m 1 #[.val (.ref a0)] [(.ref a0)])) _
    exact kt
  obtain ⟨T2, X2, e2, st2⟩ := getF X0 hx hZ hown (host := "") (Or.inl (hw _ (List.mem_of_getElem? (i := 11) rfl))) Via.refl e0 F (g := (mkF m 1 #[.val (.ref a0)] [(.ref a0)])) rfl rfl (hb hby d2_1)
  have K2 : ∀ t, Steps p.tables e below (T2.setTop (mkF m 4 #[.val (.ref a0)] [(.ref tt)])) t → Steps p.tables e below G0 t := fun t kt => K1 t (st2 _ kt)
  obtain ⟨fs, hr, hrun, hended, hW, hsame⟩ := X2.leave (v := some (.ref tt)) (fun h => by rw [Bd.returns] at h; cases h)
  refine ⟨_, _, ?_, hrun, hended, _, _, rfl, ?_, ⟨_, rfl⟩, hW, hsame.mono (by decide) (by decide)⟩
  · rw [← hG0]
    refine K2 _ ?_
    exact retOut X2 hx (t := (.object "com/example/lichen/lichen/engine/DataType")) Bd.returns rfl (Or.inr (Or.inr (Or.inr (Or.inr ⟨rfl, rfl, rfl⟩)))) (hb hby d2_4) hr
  · show Q2 Z a0 tt h0 n0 _ T2.heap _
    rw [e2]
    exact ⟨rfl, N0, rfl⟩
theorem d4_0 : decode jdk_2055_method_4_code 0 = .ok (.aload_n 0, 1) := by decide +kernel
theorem d4_1 : decode jdk_2055_method_4_code 1 = .ok (.getfield 7, 3) := by decide +kernel
theorem d4_4 : decode jdk_2055_method_4_code 4 = .ok (.ireturn, 1) := by decide +kernel
theorem pn_java_lang_Boolean : plainName "java/lang/Boolean" = true := by first | (simp [plainName, overriddenIn]; done) | decide +kernel
theorem ef_rm4 (m : MethodId) (a0 : Addr) : entryFrame m #[(.ref a0)] 1 = (mkF m 0 #[.val (.ref a0)] []) := by first | (simp [entryFrame, mkF, argsToLocals, Value.category]; done) | rfl
def Q4 (Z : State) (a0 : Addr) (b : Int32) (h0 : Heap) (n0 : Nat) (v : Option Value) (h : Heap) (L : List Loc) : Prop := v = some (.int b) ∧ Fr n0 L ∧ h = h0
set_option maxRecDepth 65536 in
set_option maxHeartbeats 40000000 in
theorem rm4 (l : Launch) (Z : State) (aa : Array Value) (hw : ∀ d ∈ tables_1, d.before aa Z = true) (ws : List Jvm.Cond) (a0 : Addr) (b : Int32) (h0 : Heap) (n0 : Nat) (Z0 : n0 ≤ h0.size) (F : Fld Z h0 a0 "java/lang/Boolean" "value" "Z" (.int b)) (hb1 : nar .boolean b = b) :
    MetFree l (⟨"java/lang/Boolean", "booleanValue", "()Z"⟩ : MethodName) (head1 (Jvm.Cond.code (⟨"java/lang/Boolean", "booleanValue", "()Z"⟩ : MethodName) jdk_2055_method_4_code 1 (some .boolean) :: ws) ({ frames := 0, cells := 0, slots := 0, locals := 0 } : Room)) (fun a U => a = #[(.ref a0)] ∧ Z.Warmed39 U.vm ∧ U.heap = h0) (fun _ _ _ _ _ => True) (fun _ U o U' => ∃ v L, o = .returned v ∧ Q4 Z a0 b h0 n0 v U'.heap L ∧ FrameEnd U o U' L ({ frames := 0, cells := 0, slots := 0, locals := 0 } : Room).cells ({ frames := 0, cells := 0, slots := 0, locals := 0 } : Room).slots) := by
  refine MetFree.of_bodySF (plainFor_of_name pn_java_lang_Boolean) hisR ?_
  intro p e s m args below meth c s₁ Bd hml0 hP hK
  obtain ⟨rfl, hZ, hh⟩ := hP
  have hx := Bd.exec
  have hby := Bd.bytes
  have hml : c.maxLocals = 1 := hml0
  have hown : s.vm.findClass "java/lang/Boolean" = some m.cls := findClass_of_methodNamed Bd.named
  have hnm := (name_of_methodNamed Bd.named Bd.method).1
  have X0 : Stand p l e ({ frames := 0, cells := 0, slots := 0, locals := 0 } : Room) s m #[(.ref a0)] below meth c s₁ [] 0 0 := Stand.of_body Bd
  have e0 : s₁.heap = h0 := by rw [← hh, Bd.state]; rfl
  have N0 := Fr.nil n0
  obtain ⟨G0, hG0⟩ : ∃ G, G = s₁.setTop (entryFrame m #[(.ref a0)] 1) := ⟨_, rfl⟩
  have K0 : ∀ t, Steps p.tables e below (s₁.setTop (mkF m 0 #[.val (.ref a0)] [])) t → Steps p.tables e below G0 t := fun t k => by rw [hG0]; exact castTop (ef_rm4 m a0) k
  have K1 : ∀ t, Steps p.tables e below (s₁.setTop (mkF m 1 #[.val (.ref a0)] [(.ref a0)])) t → Steps p.tables e below G0 t := by
    intro t kt
    refine K0 t ?_
    refine XS.aloadN X0.here hx rfl (hb hby d4_0) rfl rfl ?_
    show Steps p.tables e below (s₁.setTop (mkF m 1 #[.val (.ref a0)] [(.ref a0)])) _
    exact kt
  obtain ⟨T2, X2, e2, st2⟩ := getF X0 hx hZ hown (host := "") (Or.inl (hw _ (List.mem_of_getElem? (i := 31) rfl))) Via.refl e0 F (g := (mkF m 1 #[.val (.ref a0)] [(.ref a0)])) rfl rfl (hb hby d4_1)
  have K2 : ∀ t, Steps p.tables e below (T2.setTop (mkF m 4 #[.val (.ref a0)] [(.int b)])) t → Steps p.tables e below G0 t := fun t kt => K1 t (st2 _ kt)
  obtain ⟨fs, hr, hrun, hended, hW, hsame⟩ := X2.leave (v := some (.int (nar .boolean b))) (fun h => by rw [Bd.returns] at h; cases h)
  refine ⟨_, _, ?_, hrun, hended, _, _, rfl, ?_, ⟨_, rfl⟩, hW, hsame.mono (by decide) (by decide)⟩
  · rw [← hG0]
    refine K2 _ ?_
    exact retN X2 hx (t := .boolean) Bd.returns (by simp) (hb hby d4_4) hr
  · show Q4 Z a0 b h0 n0 _ T2.heap _
    rw [e2]
    exact ⟨by rw [hb1], N0, rfl⟩
theorem d3_0 : decode prog_121_method_5_code 0 = .ok (.aload_n 0, 1) := by decide +kernel
theorem d3_1 : decode prog_121_method_5_code 1 = .ok (.getfield 24, 3) := by decide +kernel
theorem d3_4 : decode prog_121_method_5_code 4 = .ok (.checkcast 34, 3) := by decide +kernel
theorem d3_7 : decode prog_121_method_5_code 7 = .ok (.invokevirtual 36, 3) := by decide +kernel
theorem d3_10 : decode prog_121_method_5_code 10 = .ok (.ireturn, 1) := by decide +kernel
theorem pd_PQZ : parseMethodDescriptor "()Z" = some ⟨[], some .boolean⟩ := by decide +kernel
theorem ef_rm3 (m : MethodId) (a0 : Addr) : entryFrame m #[(.ref a0)] 1 = (mkF m 0 #[.val (.ref a0)] []) := by first | (simp [entryFrame, mkF, argsToLocals, Value.category]; done) | rfl
def Q3 (Z : State) (a0 : Addr) (ct : Addr) (b : Int32) (h0 : Heap) (n0 : Nat) (v : Option Value) (h : Heap) (L : List Loc) : Prop := v = some (.int b) ∧ Fr n0 L ∧ h = h0
set_option maxRecDepth 65536 in
set_option maxHeartbeats 40000000 in
theorem rm3 (l : Launch) (Z : State) (aa : Array Value) (hw : ∀ d ∈ tables_1, d.before aa Z = true) (ws : List Jvm.Cond) (a0 : Addr) (ct : Addr) (b : Int32) (h0 : Heap) (n0 : Nat) (Z0 : n0 ≤ h0.size) (F : Fld Z h0 a0 "com/example/lichen/lichen/engine/Value" "content" "Ljava/lang/Object;" (.ref ct)) (Ec : Exa Z h0 ct "java/lang/Boolean") (Fc : Fld Z h0 ct "java/lang/Boolean" "value" "Z" (.int b)) (hb1 : nar .boolean b = b) :
    MetFree l (⟨"com/example/lichen/lichen/engine/Value", "asBoolean", "()Z"⟩ : MethodName) (head1 (Jvm.Cond.code (⟨"com/example/lichen/lichen/engine/Value", "asBoolean", "()Z"⟩ : MethodName) prog_121_method_5_code 1 (some .boolean) :: ws) ({ frames := 1, cells := 0, slots := 0, locals := 12 } : Room)) (fun a U => a = #[(.ref a0)] ∧ Z.Warmed39 U.vm ∧ U.heap = h0) (fun _ _ _ _ _ => True) (fun _ U o U' => ∃ v L, o = .returned v ∧ Q3 Z a0 ct b h0 n0 v U'.heap L ∧ FrameEnd U o U' L ({ frames := 1, cells := 0, slots := 0, locals := 12 } : Room).cells ({ frames := 1, cells := 0, slots := 0, locals := 12 } : Room).slots) := by
  refine MetFree.of_bodySF (plainFor_of_name pn_com_example_lichen_lichen_engine_Value) hisR ?_
  intro p e s m args below meth c s₁ Bd hml0 hP hK
  obtain ⟨rfl, hZ, hh⟩ := hP
  have hx := Bd.exec
  have hby := Bd.bytes
  have hml : c.maxLocals = 1 := hml0
  have hown : s.vm.findClass "com/example/lichen/lichen/engine/Value" = some m.cls := findClass_of_methodNamed Bd.named
  have hnm := (name_of_methodNamed Bd.named Bd.method).1
  have X0 : Stand p l e ({ frames := 1, cells := 0, slots := 0, locals := 12 } : Room) s m #[(.ref a0)] below meth c s₁ [] 0 0 := Stand.of_body Bd
  have e0 : s₁.heap = h0 := by rw [← hh, Bd.state]; rfl
  have N0 := Fr.nil n0
  obtain ⟨G0, hG0⟩ : ∃ G, G = s₁.setTop (entryFrame m #[(.ref a0)] 1) := ⟨_, rfl⟩
  have K0 : ∀ t, Steps p.tables e below (s₁.setTop (mkF m 0 #[.val (.ref a0)] [])) t → Steps p.tables e below G0 t := fun t k => by rw [hG0]; exact castTop (ef_rm3 m a0) k
  have K1 : ∀ t, Steps p.tables e below (s₁.setTop (mkF m 1 #[.val (.ref a0)] [(.ref a0)])) t → Steps p.tables e below G0 t := by
    intro t kt
    refine K0 t ?_
    refine XS.aloadN X0.here hx rfl (hb hby d3_0) rfl rfl ?_
    show Steps p.tables e below (s₁.setTop (mkF m 1 #[.val (.ref a0)] [(.ref a0)])) _
    exact kt
  obtain ⟨T2, X2, e2, st2⟩ := getF X0 hx hZ hown (host := "") (Or.inl (hw _ (List.mem_of_getElem? (i := 21) rfl))) Via.refl e0 F (g := (mkF m 1 #[.val (.ref a0)] [(.ref a0)])) rfl rfl (hb hby d3_1)
  have K2 : ∀ t, Steps p.tables e below (T2.setTop (mkF m 4 #[.val (.ref a0)] [(.ref ct)])) t → Steps p.tables e below G0 t := fun t kt => K1 t (st2 _ kt)
  obtain ⟨T3, X3, e3, st3⟩ := castY X2 hx hZ hown (hw _ (List.mem_of_getElem? (i := 23) rfl)) e2 (Ins.self Ec) (g := (mkF m 4 #[.val (.ref a0)] [(.ref ct)])) rfl rfl (hb hby d3_4)
  have K3 : ∀ t, Steps p.tables e below (T3.setTop (mkF m 7 #[.val (.ref a0)] [(.ref ct)])) t → Steps p.tables e below G0 t := fun t kt => K2 t (st3 _ kt)
  obtain ⟨cq4, kq4, q4a, q4b, q4c⟩ := isOf hZ e3 Ec
  obtain ⟨_, _, ⟨T5, L5, k5, n5⟩, -, X5, ⟨Lc5, hQ5, l5, y5, z5⟩, st5⟩ := X3.virtualBack hx (y := (⟨"java/lang/Boolean", "booleanValue", "()Z"⟩ : MethodName)) (z := (⟨"java/lang/Boolean", "booleanValue", "()Z"⟩ : MethodName)) hown (mvT hZ (hw _ (List.mem_of_getElem? (i := 25) rfl))) (mvT hZ (hw _ (List.mem_of_getElem? (i := 26) rfl))) (notFace_of_selects (args := #[]) (mvT hZ (hw _ (List.mem_of_getElem? (i := 28) rfl)))) (mvT hZ (hw _ (List.mem_of_getElem? (i := 28) rfl))) (mvT hZ (hw _ (List.mem_of_getElem? (i := 27) rfl))) (by decide) (backOf (W := 0) (rm4 l Z aa hw [] (ct) b h0 n0 Z0 Fc hb1) hZ (hw _ (List.mem_of_getElem? (i := 30) rfl)) (hw _ (List.mem_of_getElem? (i := 29) rfl)) (by decide) (by decide)) q4a q4c (g := (mkF m 7 #[.val (.ref a0)] [(.ref ct)])) rfl (by rw [hml]; rfl) (Steps.refl _) (argsL := []) (rest := []) (lenOf pd_PQZ rfl) rfl (by show 2 * 0 + _ ≤ _; exact Nat.le_of_eq rfl) (hb hby d3_7) (fun _ _ => ⟨rfl, e3, (by decide : 0 + 0 ≤ _), (by decide : 0 + 0 ≤ _)⟩)
  dsimp only [Pt.U, Pt.locs, Pt.cells, Pt.slots] at X5 l5 y5 z5 st5 hQ5
  subst l5 y5 z5
  obtain ⟨rfl, N5q, e5⟩ := hQ5
  have N5 := Fr.app N0 N5q
  have K5 : ∀ t, Steps p.tables e below (T5.setTop (mkF m 10 #[.val (.ref a0)] [(.int b)])) t → Steps p.tables e below G0 t := fun t kt => K3 t (st5.trans kt)
  obtain ⟨fs, hr, hrun, hended, hW, hsame⟩ := X5.leave (v := some (.int (nar .boolean b))) (fun h => by rw [Bd.returns] at h; cases h)
  refine ⟨_, _, ?_, hrun, hended, _, _, rfl, ?_, ⟨_, rfl⟩, hW, hsame.mono (by decide) (by decide)⟩
  · rw [← hG0]
    refine K5 _ ?_
    exact retN X5 hx (t := .boolean) Bd.returns (by simp) (hb hby d3_10) hr
  · show Q3 Z a0 ct b h0 n0 _ T5.heap _
    rw [e5]
    exact ⟨by rw [hb1], N5, rfl⟩
theorem pn_com_example_lichen_lichen_engine_ValueOfPinLaw : plainName "com/example/lichen/lichen/engine/ValueOfPinLaw" = true := by first | (simp [plainName, overriddenIn]; done) | decide +kernel
theorem pd_PZQLcom_example_lichen_lichen_engine_Value_ : parseMethodDescriptor "(Z)Lcom/example/lichen/lichen/engine/Value;" = some ⟨[.boolean], some (.object "com/example/lichen/lichen/engine/Value")⟩ := by decide +kernel
theorem pd_PQLcom_example_lichen_lichen_engine_DataType_ : parseMethodDescriptor "()Lcom/example/lichen/lichen/engine/DataType;" = some ⟨[], some (.object "com/example/lichen/lichen/engine/DataType")⟩ := by decide +kernel
theorem ef_rm0 (m : MethodId) (p0 : Int32) : entryFrame m #[(.int p0)] maxLocals = (mkF m 0 #[.val (.int p0), .unset, .unset] []) := by first | (simp [entryFrame, mkF, argsToLocals, Value.category, maxLocals]; done) | rfl
def Q0 (Z : State) (p0 : Int32) (wF : Addr) (wT : Addr) (wB : Addr) (cF : Addr) (cT : Addr) (h0 : Heap) (n0 : Nat) (v : Option Value) (h : Heap) (L : List Loc) : Prop := v = some (.int 1) ∧ Fr n0 L
set_option maxRecDepth 65536 in
set_option maxHeartbeats 40000000 in
theorem rm0 (l : Launch) (Z : State) (aa : Array Value) (hw : ∀ d ∈ tables_1, d.before aa Z = true) (ws : List Jvm.Cond) (p0 : Int32) (wF : Addr) (wT : Addr) (wB : Addr) (cF : Addr) (cT : Addr) (h0 : Heap) (n0 : Nat) (Z0 : n0 ≤ h0.size) (SF : Sta Z h0 "com/example/lichen/lichen/engine/Value" "FALSE" "Lcom/example/lichen/lichen/engine/Value;" (.ref wF)) (ST : Sta Z h0 "com/example/lichen/lichen/engine/Value" "TRUE" "Lcom/example/lichen/lichen/engine/Value;" (.ref wT)) (SB : Sta Z h0 "com/example/lichen/lichen/engine/DataType" "BOOLEAN" "Lcom/example/lichen/lichen/engine/DataType;" (.ref wB)) (EF : Exa Z h0 wF "com/example/lichen/lichen/engine/Value") (FtF : Fld Z h0 wF "com/example/lichen/lichen/engine/Value" "type" "Lcom/example/lichen/lichen/engine/DataType;" (.ref wB)) (FcF : Fld Z h0 wF "com/example/lichen/lichen/engine/Value" "content" "Ljava/lang/Object;" (.ref cF)) (EcF : Exa Z h0 cF "java/lang/Boolean") (FvF : Fld Z h0 cF "java/lang/Boolean" "value" "Z" (.int 0)) (ET : Exa Z h0 wT "com/example/lichen/lichen/engine/Value") (FtT : Fld Z h0 wT "com/example/lichen/lichen/engine/Value" "type" "Lcom/example/lichen/lichen/engine/DataType;" (.ref wB)) (FcT : Fld Z h0 wT "com/example/lichen/lichen/engine/Value" "content" "Ljava/lang/Object;" (.ref cT)) (EcT : Exa Z h0 cT "java/lang/Boolean") (FvT : Fld Z h0 cT "java/lang/Boolean" "value" "Z" (.int 1)) :
    MetFree l x (head1 (Jvm.Cond.code x code maxLocals ret :: ws) room_1) (fun a U => a = #[(.int p0)] ∧ Z.Warmed39 U.vm ∧ U.heap = h0) (fun _ _ _ _ _ => True) (fun _ U o U' => ∃ v L, o = .returned v ∧ Q0 Z p0 wF wT wB cF cT h0 n0 v U'.heap L ∧ FrameEnd U o U' L room_1.cells room_1.slots) := by
  refine MetFree.of_bodySF (plainFor_of_name pn_com_example_lichen_lichen_engine_ValueOfPinLaw) hisR ?_
  intro p e s m args below meth c s₁ Bd hml0 hP hK
  obtain ⟨rfl, hZ, hh⟩ := hP
  have hx := Bd.exec
  have hby := Bd.bytes
  have hml : c.maxLocals = 3 := hml0
  have hown : s.vm.findClass "com/example/lichen/lichen/engine/ValueOfPinLaw" = some m.cls := findClass_of_methodNamed Bd.named
  have hnm := (name_of_methodNamed Bd.named Bd.method).1
  have X0 : Stand p l e room_1 s m #[(.int p0)] below meth c s₁ [] 0 0 := Stand.of_body Bd
  have e0 : s₁.heap = h0 := by rw [← hh, Bd.state]; rfl
  have N0 := Fr.nil n0
  obtain ⟨G0, hG0⟩ : ∃ G, G = s₁.setTop (entryFrame m #[(.int p0)] maxLocals) := ⟨_, rfl⟩
  have K0 : ∀ t, Steps p.tables e below (s₁.setTop (mkF m 0 #[.val (.int p0), .unset, .unset] [])) t → Steps p.tables e below G0 t := fun t k => by rw [hG0]; exact castTop (ef_rm0 m p0) k
  have K1 : ∀ t, Steps p.tables e below (s₁.setTop (mkF m 3 #[.val (.int p0), .unset, .unset] [(.int (p0 &&& (1 : Int32)))])) t → Steps p.tables e below G0 t := by
    intro t kt
    refine K0 t ?_
    refine XS.iloadN X0.here hx rfl (hb hby at_0) rfl ?_
    show Steps p.tables e below (s₁.setTop (mkF m 1 #[.val (.int p0), .unset, .unset] [(.int p0)])) _
    refine XS.iconst X0.here hx rfl (hb hby at_1) ?_
    show Steps p.tables e below (s₁.setTop (mkF m 2 #[.val (.int p0), .unset, .unset] [(.int (1 : Int32)), (.int p0)])) _
    refine XS.iand X0.here hx rfl (hb hby at_2) rfl ?_
    show Steps p.tables e below (s₁.setTop (mkF m 3 #[.val (.int p0), .unset, .unset] [(.int (p0 &&& (1 : Int32)))])) _
    exact kt
  by_cases hc2 : (p0 &&& (1 : Int32)) = (0 : Int32)
  ·
    have K3 : ∀ t, Steps p.tables e below (s₁.setTop (mkF m 13 #[.val (.int p0), .val (.int (0 : Int32)), .unset] [(.int (0 : Int32))])) t → Steps p.tables e below G0 t := by
      intro t kt
      refine K1 t ?_
      refine XS.ifYes X0.here hx rfl (pc0 := 3) (pc' := 10) rfl (hb hby at_3) rfl ((if0 _ _).trans (teq hc2).1) (by decide) (by decide) ?_
      show Steps p.tables e below (s₁.setTop (mkF m 10 #[.val (.int p0), .unset, .unset] [])) _
      refine XS.iconst X0.here hx rfl (hb hby at_10) ?_
      show Steps p.tables e below (s₁.setTop (mkF m 11 #[.val (.int p0), .unset, .unset] [(.int (0 : Int32))])) _
      refine XS.istoreN X0.here hx rfl (hb hby at_11) rfl (l' := #[.val (.int p0), .val (.int (0 : Int32)), .unset]) rfl ?_
      show Steps p.tables e below (s₁.setTop (mkF m 12 #[.val (.int p0), .val (.int (0 : Int32)), .unset] [])) _
      refine XS.iloadN X0.here hx rfl (hb hby at_12) rfl ?_
      show Steps p.tables e below (s₁.setTop (mkF m 13 #[.val (.int p0), .val (.int (0 : Int32)), .unset] [(.int (0 : Int32))])) _
      exact kt
    obtain ⟨_, _, ⟨T4, L4, k4, n4⟩, -, X4, ⟨Lc4, hQ4, l4, y4, z4⟩, st4⟩ := Jvm.LawKit.callS X0 hx (y := (⟨"com/example/lichen/lichen/engine/Value", "of", "(Z)Lcom/example/lichen/lichen/engine/Value;"⟩ : MethodName)) hown (mvT hZ (hw _ (List.mem_of_getElem? (i := 0) rfl))) (mvT hZ (hw _ (List.mem_of_getElem? (i := 1) rfl))) (mvT hZ (hw _ (List.mem_of_getElem? (i := 2) rfl))) (mvT hZ (hw _ (List.mem_of_getElem? (i := 3) rfl))) (by decide) (backOf (W := 0) (rm1 l Z aa hw [] ((0 : Int32)) wF wT h0 n0 Z0 SF ST) hZ (hw _ (List.mem_of_getElem? (i := 3) rfl)) (hw _ (List.mem_of_getElem? (i := 2) rfl)) (by decide) (by decide)) (g := (mkF m 13 #[.val (.int p0), .val (.int (0 : Int32)), .unset] [(.int (0 : Int32))])) rfl (by rw [hml]; rfl) (argsL := [(.int (0 : Int32))]) (rest := []) (lenOf pd_PZQLcom_example_lichen_lichen_engine_Value_ rfl) rfl (by show 2 * 0 + _ ≤ _; exact Nat.le_of_eq rfl) (hb hby at_13) (fun _ _ => ⟨rfl, e0, (by decide : 0 + 0 ≤ _), (by decide : 0 + 0 ≤ _)⟩)
    dsimp only [Pt.U, Pt.locs, Pt.cells, Pt.slots] at X4 l4 y4 z4 st4 hQ4
    subst l4 y4 z4
    obtain ⟨rfl, N4q, e4⟩ := hQ4
    have N4 := Fr.app N0 N4q
    have K4 : ∀ t, Steps p.tables e below (T4.setTop (mkF m 16 #[.val (.int p0), .val (.int (0 : Int32)), .unset] [(.ref wF)])) t → Steps p.tables e below G0 t := fun t kt => K3 t (st4 _ kt)
    have K5 : ∀ t, Steps p.tables e below (T4.setTop (mkF m 24 #[.val (.int p0), .val (.int (0 : Int32)), .val (.ref wF)] [(.ref wF)])) t → Steps p.tables e below G0 t := by
      intro t kt
      refine K4 t ?_
      refine XS.astoreN X4.here hx rfl (hb hby at_16) rfl rfl (l' := #[.val (.int p0), .val (.int (0 : Int32)), .val (.ref wF)]) rfl ?_
      show Steps p.tables e below (T4.setTop (mkF m 17 #[.val (.int p0), .val (.int (0 : Int32)), .val (.ref wF)] [])) _
      refine XS.aloadN X4.here hx rfl (hb hby at_17) rfl rfl ?_
      show Steps p.tables e below (T4.setTop (mkF m 18 #[.val (.int p0), .val (.int (0 : Int32)), .val (.ref wF)] [(.ref wF)])) _
      refine XS.ifnonnullYes X4.here hx rfl (pc0 := 18) (pc' := 23) rfl (hb hby at_18) rfl (by decide) (by decide) ?_
      show Steps p.tables e below (T4.setTop (mkF m 23 #[.val (.int p0), .val (.int (0 : Int32)), .val (.ref wF)] [])) _
      refine XS.aloadN X4.here hx rfl (hb hby at_23) rfl rfl ?_
      show Steps p.tables e below (T4.setTop (mkF m 24 #[.val (.int p0), .val (.int (0 : Int32)), .val (.ref wF)] [(.ref wF)])) _
      exact kt
    obtain ⟨cq6, kq6, q6a, q6b, q6c⟩ := isOf hZ e4 EF
    obtain ⟨_, _, ⟨T7, L7, k7, n7⟩, -, X7, ⟨Lc7, hQ7, l7, y7, z7⟩, st7⟩ := X4.virtualBack hx (y := (⟨"com/example/lichen/lichen/engine/Value", "getType", "()Lcom/example/lichen/lichen/engine/DataType;"⟩ : MethodName)) (z := (⟨"com/example/lichen/lichen/engine/Value", "getType", "()Lcom/example/lichen/lichen/engine/DataType;"⟩ : MethodName)) hown (mvT hZ (hw _ (List.mem_of_getElem? (i := 6) rfl))) (mvT hZ (hw _ (List.mem_of_getElem? (i := 7) rfl))) (notFace_of_selects (args := #[]) (mvT hZ (hw _ (List.mem_of_getElem? (i := 9) rfl)))) (mvT hZ (hw _ (List.mem_of_getElem? (i := 9) rfl))) (mvT hZ (hw _ (List.mem_of_getElem? (i := 8) rfl))) (by decide) (backOf (W := 0) (rm2 l Z aa hw [] (wF) wB h0 n0 Z0 FtF) hZ (hw _ (List.mem_of_getElem? (i := 10) rfl)) (hw _ (List.mem_of_getElem? (i := 2) rfl)) (by decide) (by decide)) q6a q6c (g := (mkF m 24 #[.val (.int p0), .val (.int (0 : Int32)), .val (.ref wF)] [(.ref wF)])) rfl (by rw [hml]; rfl) (Steps.refl _) (argsL := []) (rest := []) (lenOf pd_PQLcom_example_lichen_lichen_engine_DataType_ rfl) rfl (by show 2 * 0 + _ ≤ _; exact Nat.le_of_eq rfl) (hb hby at_24) (fun _ _ => ⟨rfl, e4, (by decide : 0 + 0 ≤ _), (by decide : 0 + 0 ≤ _)⟩)
    dsimp only [Pt.U, Pt.locs, Pt.cells, Pt.slots] at X7 l7 y7 z7 st7 hQ7
    subst l7 y7 z7
    obtain ⟨rfl, N7q, e7⟩ := hQ7
    have N7 := Fr.app N4 N7q
    have K7 : ∀ t, Steps p.tables e below (T7.setTop (mkF m 27 #[.val (.int p0), .val (.int (0 : Int32)), .val (.ref wF)] [(.ref wB)])) t → Steps p.tables e below G0 t := fun t kt => K5 t (st7.trans kt)
    obtain ⟨T8, X8, e8, st8⟩ := getS2 X7 hx hZ hown (host := "") (Or.inl (hw _ (List.mem_of_getElem? (i := 13) rfl))) Via.refl e7 SB (g := (mkF m 27 #[.val (.int p0), .val (.int (0 : Int32)), .val (.ref wF)] [(.ref wB)])) rfl (hb hby at_27)
    have K8 : ∀ t, Steps p.tables e below (T8.setTop (mkF m 30 #[.val (.int p0), .val (.int (0 : Int32)), .val (.ref wF)] [(.ref wB), (.ref wB)])) t → Steps p.tables e below G0 t := fun t kt => K7 t (st8 _ kt)
    have K9 : ∀ t, Steps p.tables e below (T8.setTop (mkF m 34 #[.val (.int p0), .val (.int (0 : Int32)), .val (.ref wF)] [(.ref wF)])) t → Steps p.tables e below G0 t := by
      intro t kt
      refine K8 t ?_
      refine Jvm.RoadKit.acmp (g := (mkF m 30 #[.val (.int p0), .val (.int (0 : Int32)), .val (.ref wF)] [(.ref wB), (.ref wB)])) X8 hx rfl rfl rfl (pc0 := 30) (pc' := 33) (same := true) rfl (hb hby at_30) rfl (decide_eq_true rfl) (by decide) (by decide) ?_
      show Steps p.tables e below (T8.setTop (mkF m 33 #[.val (.int p0), .val (.int (0 : Int32)), .val (.ref wF)] [])) _
      refine XS.aloadN X8.here hx rfl (hb hby at_33) rfl rfl ?_
      show Steps p.tables e below (T8.setTop (mkF m 34 #[.val (.int p0), .val (.int (0 : Int32)), .val (.ref wF)] [(.ref wF)])) _
      exact kt
    obtain ⟨cq10, kq10, q10a, q10b, q10c⟩ := isOf hZ e8 EF
    obtain ⟨_, _, ⟨T11, L11, k11, n11⟩, -, X11, ⟨Lc11, hQ11, l11, y11, z11⟩, st11⟩ := X8.virtualBack hx (y := (⟨"com/example/lichen/lichen/engine/Value", "asBoolean", "()Z"⟩ : MethodName)) (z := (⟨"com/example/lichen/lichen/engine/Value", "asBoolean", "()Z"⟩ : MethodName)) hown (mvT hZ (hw _ (List.mem_of_getElem? (i := 16) rfl))) (mvT hZ (hw _ (List.mem_of_getElem? (i := 17) rfl))) (notFace_of_selects (args := #[]) (mvT hZ (hw _ (List.mem_of_getElem? (i := 19) rfl)))) (mvT hZ (hw _ (List.mem_of_getElem? (i := 19) rfl))) (mvT hZ (hw _ (List.mem_of_getElem? (i := 18) rfl))) (by decide) (backOf (W := 0) (rm3 l Z aa hw [] (wF) cF (0 : Int32) h0 n0 Z0 FcF EcF FvF rfl) hZ (hw _ (List.mem_of_getElem? (i := 20) rfl)) (hw _ (List.mem_of_getElem? (i := 2) rfl)) (by decide) (by decide)) q10a q10c (g := (mkF m 34 #[.val (.int p0), .val (.int (0 : Int32)), .val (.ref wF)] [(.ref wF)])) rfl (by rw [hml]; rfl) (Steps.refl _) (argsL := []) (rest := []) (lenOf pd_PQZ rfl) rfl (by show 2 * 0 + _ ≤ _; exact Nat.le_of_eq rfl) (hb hby at_34) (fun _ _ => ⟨rfl, e8, (by decide : 0 + 0 ≤ _), (by decide : 0 + 0 ≤ _)⟩)
    dsimp only [Pt.U, Pt.locs, Pt.cells, Pt.slots] at X11 l11 y11 z11 st11 hQ11
    subst l11 y11 z11
    obtain ⟨rfl, N11q, e11⟩ := hQ11
    have N11 := Fr.app N7 N11q
    have K11 : ∀ t, Steps p.tables e below (T11.setTop (mkF m 37 #[.val (.int p0), .val (.int (0 : Int32)), .val (.ref wF)] [(.int (0 : Int32))])) t → Steps p.tables e below G0 t := fun t kt => K9 t (st11.trans kt)
    have K12 : ∀ t, Steps p.tables e below (T11.setTop (mkF m 46 #[.val (.int p0), .val (.int (0 : Int32)), .val (.ref wF)] [(.int (1 : Int32))])) t → Steps p.tables e below G0 t := by
      intro t kt
      refine K11 t ?_
      refine XS.iloadN X11.here hx rfl (hb hby at_37) rfl ?_
      show Steps p.tables e below (T11.setTop (mkF m 38 #[.val (.int p0), .val (.int (0 : Int32)), .val (.ref wF)] [(.int (0 : Int32)), (.int (0 : Int32))])) _
      refine XS.icmpNo X11.here hx rfl (hb hby at_38) rfl (teq rfl).2 ?_
      show Steps p.tables e below (T11.setTop (mkF m 41 #[.val (.int p0), .val (.int (0 : Int32)), .val (.ref wF)] [])) _
      refine XS.iconst X11.here hx rfl (hb hby at_41) ?_
      show Steps p.tables e below (T11.setTop (mkF m 42 #[.val (.int p0), .val (.int (0 : Int32)), .val (.ref wF)] [(.int (1 : Int32))])) _
      refine XS.goto X11.here hx rfl (pc0 := 42) (pc' := 46) rfl (hb hby at_42) (by decide) (by decide) ?_
      show Steps p.tables e below (T11.setTop (mkF m 46 #[.val (.int p0), .val (.int (0 : Int32)), .val (.ref wF)] [(.int (1 : Int32))])) _
      exact kt
    obtain ⟨fs, hr, hrun, hended, hW, hsame⟩ := X11.leave (v := some (.int (1 : Int32))) (fun h => by rw [Bd.returns] at h; cases h)
    refine ⟨_, _, ?_, hrun, hended, _, _, rfl, ?_, ⟨_, rfl⟩, hW, hsame.mono (by decide) (by decide)⟩
    · rw [← hG0]
      refine K12 _ ?_
      exact retN X11 hx (t := .boolean) Bd.returns (by simp) (hb hby at_46) hr
    · show Q0 Z p0 wF wT wB cF cT h0 n0 _ T11.heap _
      rw [e11]
      exact ⟨rfl, N11⟩
  ·
    have K13 : ∀ t, Steps p.tables e below (s₁.setTop (mkF m 13 #[.val (.int p0), .val (.int (1 : Int32)), .unset] [(.int (1 : Int32))])) t → Steps p.tables e below G0 t := by
      intro t kt
      refine K1 t ?_
      refine XS.ifNo X0.here hx rfl (hb hby at_3) rfl ((if0 _ _).trans (feq hc2).1) ?_
      show Steps p.tables e below (s₁.setTop (mkF m 6 #[.val (.int p0), .unset, .unset] [])) _
      refine XS.iconst X0.here hx rfl (hb hby at_6) ?_
      show Steps p.tables e below (s₁.setTop (mkF m 7 #[.val (.int p0), .unset, .unset] [(.int (1 : Int32))])) _
      refine XS.goto X0.here hx rfl (pc0 := 7) (pc' := 11) rfl (hb hby at_7) (by decide) (by decide) ?_
      show Steps p.tables e below (s₁.setTop (mkF m 11 #[.val (.int p0), .unset, .unset] [(.int (1 : Int32))])) _
      refine XS.istoreN X0.here hx rfl (hb hby at_11) rfl (l' := #[.val (.int p0), .val (.int (1 : Int32)), .unset]) rfl ?_
      show Steps p.tables e below (s₁.setTop (mkF m 12 #[.val (.int p0), .val (.int (1 : Int32)), .unset] [])) _
      refine XS.iloadN X0.here hx rfl (hb hby at_12) rfl ?_
      show Steps p.tables e below (s₁.setTop (mkF m 13 #[.val (.int p0), .val (.int (1 : Int32)), .unset] [(.int (1 : Int32))])) _
      exact kt
    obtain ⟨_, _, ⟨T14, L14, k14, n14⟩, -, X14, ⟨Lc14, hQ14, l14, y14, z14⟩, st14⟩ := Jvm.LawKit.callS X0 hx (y := (⟨"com/example/lichen/lichen/engine/Value", "of", "(Z)Lcom/example/lichen/lichen/engine/Value;"⟩ : MethodName)) hown (mvT hZ (hw _ (List.mem_of_getElem? (i := 0) rfl))) (mvT hZ (hw _ (List.mem_of_getElem? (i := 1) rfl))) (mvT hZ (hw _ (List.mem_of_getElem? (i := 2) rfl))) (mvT hZ (hw _ (List.mem_of_getElem? (i := 3) rfl))) (by decide) (backOf (W := 0) (rm1 l Z aa hw [] ((1 : Int32)) wF wT h0 n0 Z0 SF ST) hZ (hw _ (List.mem_of_getElem? (i := 3) rfl)) (hw _ (List.mem_of_getElem? (i := 2) rfl)) (by decide) (by decide)) (g := (mkF m 13 #[.val (.int p0), .val (.int (1 : Int32)), .unset] [(.int (1 : Int32))])) rfl (by rw [hml]; rfl) (argsL := [(.int (1 : Int32))]) (rest := []) (lenOf pd_PZQLcom_example_lichen_lichen_engine_Value_ rfl) rfl (by show 2 * 0 + _ ≤ _; exact Nat.le_of_eq rfl) (hb hby at_13) (fun _ _ => ⟨rfl, e0, (by decide : 0 + 0 ≤ _), (by decide : 0 + 0 ≤ _)⟩)
    dsimp only [Pt.U, Pt.locs, Pt.cells, Pt.slots] at X14 l14 y14 z14 st14 hQ14
    subst l14 y14 z14
    obtain ⟨rfl, N14q, e14⟩ := hQ14
    have N14 := Fr.app N0 N14q
    have K14 : ∀ t, Steps p.tables e below (T14.setTop (mkF m 16 #[.val (.int p0), .val (.int (1 : Int32)), .unset] [(.ref wT)])) t → Steps p.tables e below G0 t := fun t kt => K13 t (st14 _ kt)
    have K15 : ∀ t, Steps p.tables e below (T14.setTop (mkF m 24 #[.val (.int p0), .val (.int (1 : Int32)), .val (.ref wT)] [(.ref wT)])) t → Steps p.tables e below G0 t := by
      intro t kt
      refine K14 t ?_
      refine XS.astoreN X14.here hx rfl (hb hby at_16) rfl rfl (l' := #[.val (.int p0), .val (.int (1 : Int32)), .val (.ref wT)]) rfl ?_
      show Steps p.tables e below (T14.setTop (mkF m 17 #[.val (.int p0), .val (.int (1 : Int32)), .val (.ref wT)] [])) _
      refine XS.aloadN X14.here hx rfl (hb hby at_17) rfl rfl ?_
      show Steps p.tables e below (T14.setTop (mkF m 18 #[.val (.int p0), .val (.int (1 : Int32)), .val (.ref wT)] [(.ref wT)])) _
      refine XS.ifnonnullYes X14.here hx rfl (pc0 := 18) (pc' := 23) rfl (hb hby at_18) rfl (by decide) (by decide) ?_
      show Steps p.tables e below (T14.setTop (mkF m 23 #[.val (.int p0), .val (.int (1 : Int32)), .val (.ref wT)] [])) _
      refine XS.aloadN X14.here hx rfl (hb hby at_23) rfl rfl ?_
      show Steps p.tables e below (T14.setTop (mkF m 24 #[.val (.int p0), .val (.int (1 : Int32)), .val (.ref wT)] [(.ref wT)])) _
      exact kt
    obtain ⟨cq16, kq16, q16a, q16b, q16c⟩ := isOf hZ e14 ET
    obtain ⟨_, _, ⟨T17, L17, k17, n17⟩, -, X17, ⟨Lc17, hQ17, l17, y17, z17⟩, st17⟩ := X14.virtualBack hx (y := (⟨"com/example/lichen/lichen/engine/Value", "getType", "()Lcom/example/lichen/lichen/engine/DataType;"⟩ : MethodName)) (z := (⟨"com/example/lichen/lichen/engine/Value", "getType", "()Lcom/example/lichen/lichen/engine/DataType;"⟩ : MethodName)) hown (mvT hZ (hw _ (List.mem_of_getElem? (i := 6) rfl))) (mvT hZ (hw _ (List.mem_of_getElem? (i := 7) rfl))) (notFace_of_selects (args := #[]) (mvT hZ (hw _ (List.mem_of_getElem? (i := 9) rfl)))) (mvT hZ (hw _ (List.mem_of_getElem? (i := 9) rfl))) (mvT hZ (hw _ (List.mem_of_getElem? (i := 8) rfl))) (by decide) (backOf (W := 0) (rm2 l Z aa hw [] (wT) wB h0 n0 Z0 FtT) hZ (hw _ (List.mem_of_getElem? (i := 10) rfl)) (hw _ (List.mem_of_getElem? (i := 2) rfl)) (by decide) (by decide)) q16a q16c (g := (mkF m 24 #[.val (.int p0), .val (.int (1 : Int32)), .val (.ref wT)] [(.ref wT)])) rfl (by rw [hml]; rfl) (Steps.refl _) (argsL := []) (rest := []) (lenOf pd_PQLcom_example_lichen_lichen_engine_DataType_ rfl) rfl (by show 2 * 0 + _ ≤ _; exact Nat.le_of_eq rfl) (hb hby at_24) (fun _ _ => ⟨rfl, e14, (by decide : 0 + 0 ≤ _), (by decide : 0 + 0 ≤ _)⟩)
    dsimp only [Pt.U, Pt.locs, Pt.cells, Pt.slots] at X17 l17 y17 z17 st17 hQ17
    subst l17 y17 z17
    obtain ⟨rfl, N17q, e17⟩ := hQ17
    have N17 := Fr.app N14 N17q
    have K17 : ∀ t, Steps p.tables e below (T17.setTop (mkF m 27 #[.val (.int p0), .val (.int (1 : Int32)), .val (.ref wT)] [(.ref wB)])) t → Steps p.tables e below G0 t := fun t kt => K15 t (st17.trans kt)
    obtain ⟨T18, X18, e18, st18⟩ := getS2 X17 hx hZ hown (host := "") (Or.inl (hw _ (List.mem_of_getElem? (i := 13) rfl))) Via.refl e17 SB (g := (mkF m 27 #[.val (.int p0), .val (.int (1 : Int32)), .val (.ref wT)] [(.ref wB)])) rfl (hb hby at_27)
    have K18 : ∀ t, Steps p.tables e below (T18.setTop (mkF m 30 #[.val (.int p0), .val (.int (1 : Int32)), .val (.ref wT)] [(.ref wB), (.ref wB)])) t → Steps p.tables e below G0 t := fun t kt => K17 t (st18 _ kt)
    have K19 : ∀ t, Steps p.tables e below (T18.setTop (mkF m 34 #[.val (.int p0), .val (.int (1 : Int32)), .val (.ref wT)] [(.ref wT)])) t → Steps p.tables e below G0 t := by
      intro t kt
      refine K18 t ?_
      refine Jvm.RoadKit.acmp (g := (mkF m 30 #[.val (.int p0), .val (.int (1 : Int32)), .val (.ref wT)] [(.ref wB), (.ref wB)])) X18 hx rfl rfl rfl (pc0 := 30) (pc' := 33) (same := true) rfl (hb hby at_30) rfl (decide_eq_true rfl) (by decide) (by decide) ?_
      show Steps p.tables e below (T18.setTop (mkF m 33 #[.val (.int p0), .val (.int (1 : Int32)), .val (.ref wT)] [])) _
      refine XS.aloadN X18.here hx rfl (hb hby at_33) rfl rfl ?_
      show Steps p.tables e below (T18.setTop (mkF m 34 #[.val (.int p0), .val (.int (1 : Int32)), .val (.ref wT)] [(.ref wT)])) _
      exact kt
    obtain ⟨cq20, kq20, q20a, q20b, q20c⟩ := isOf hZ e18 ET
    obtain ⟨_, _, ⟨T21, L21, k21, n21⟩, -, X21, ⟨Lc21, hQ21, l21, y21, z21⟩, st21⟩ := X18.virtualBack hx (y := (⟨"com/example/lichen/lichen/engine/Value", "asBoolean", "()Z"⟩ : MethodName)) (z := (⟨"com/example/lichen/lichen/engine/Value", "asBoolean", "()Z"⟩ : MethodName)) hown (mvT hZ (hw _ (List.mem_of_getElem? (i := 16) rfl))) (mvT hZ (hw _ (List.mem_of_getElem? (i := 17) rfl))) (notFace_of_selects (args := #[]) (mvT hZ (hw _ (List.mem_of_getElem? (i := 19) rfl)))) (mvT hZ (hw _ (List.mem_of_getElem? (i := 19) rfl))) (mvT hZ (hw _ (List.mem_of_getElem? (i := 18) rfl))) (by decide) (backOf (W := 0) (rm3 l Z aa hw [] (wT) cT (1 : Int32) h0 n0 Z0 FcT EcT FvT rfl) hZ (hw _ (List.mem_of_getElem? (i := 20) rfl)) (hw _ (List.mem_of_getElem? (i := 2) rfl)) (by decide) (by decide)) q20a q20c (g := (mkF m 34 #[.val (.int p0), .val (.int (1 : Int32)), .val (.ref wT)] [(.ref wT)])) rfl (by rw [hml]; rfl) (Steps.refl _) (argsL := []) (rest := []) (lenOf pd_PQZ rfl) rfl (by show 2 * 0 + _ ≤ _; exact Nat.le_of_eq rfl) (hb hby at_34) (fun _ _ => ⟨rfl, e18, (by decide : 0 + 0 ≤ _), (by decide : 0 + 0 ≤ _)⟩)
    dsimp only [Pt.U, Pt.locs, Pt.cells, Pt.slots] at X21 l21 y21 z21 st21 hQ21
    subst l21 y21 z21
    obtain ⟨rfl, N21q, e21⟩ := hQ21
    have N21 := Fr.app N17 N21q
    have K21 : ∀ t, Steps p.tables e below (T21.setTop (mkF m 37 #[.val (.int p0), .val (.int (1 : Int32)), .val (.ref wT)] [(.int (1 : Int32))])) t → Steps p.tables e below G0 t := fun t kt => K19 t (st21.trans kt)
    have K22 : ∀ t, Steps p.tables e below (T21.setTop (mkF m 46 #[.val (.int p0), .val (.int (1 : Int32)), .val (.ref wT)] [(.int (1 : Int32))])) t → Steps p.tables e below G0 t := by
      intro t kt
      refine K21 t ?_
      refine XS.iloadN X21.here hx rfl (hb hby at_37) rfl ?_
      show Steps p.tables e below (T21.setTop (mkF m 38 #[.val (.int p0), .val (.int (1 : Int32)), .val (.ref wT)] [(.int (1 : Int32)), (.int (1 : Int32))])) _
      refine XS.icmpNo X21.here hx rfl (hb hby at_38) rfl (teq rfl).2 ?_
      show Steps p.tables e below (T21.setTop (mkF m 41 #[.val (.int p0), .val (.int (1 : Int32)), .val (.ref wT)] [])) _
      refine XS.iconst X21.here hx rfl (hb hby at_41) ?_
      show Steps p.tables e below (T21.setTop (mkF m 42 #[.val (.int p0), .val (.int (1 : Int32)), .val (.ref wT)] [(.int (1 : Int32))])) _
      refine XS.goto X21.here hx rfl (pc0 := 42) (pc' := 46) rfl (hb hby at_42) (by decide) (by decide) ?_
      show Steps p.tables e below (T21.setTop (mkF m 46 #[.val (.int p0), .val (.int (1 : Int32)), .val (.ref wT)] [(.int (1 : Int32))])) _
      exact kt
    obtain ⟨fs, hr, hrun, hended, hW, hsame⟩ := X21.leave (v := some (.int (1 : Int32))) (fun h => by rw [Bd.returns] at h; cases h)
    refine ⟨_, _, ?_, hrun, hended, _, _, rfl, ?_, ⟨_, rfl⟩, hW, hsame.mono (by decide) (by decide)⟩
    · rw [← hG0]
      refine K22 _ ?_
      exact retN X21 hx (t := .boolean) Bd.returns (by simp) (hb hby at_46) hr
    · show Q0 Z p0 wF wT wB cF cT h0 n0 _ T21.heap _
      rw [e21]
      exact ⟨rfl, N21⟩
set_option maxRecDepth 65536 in
set_option maxHeartbeats 40000000 in
theorem comes_1 {Post : Tables → Env → Array Value → State → Outcome → State → Prop} (hpost : ∀ tb e args s v u, (limb_1_1.after args s (.returned v) u = true ∧ limb_1_2.after args s (.returned v) u = true ∧ True) → FrameEnd s (.returned v) u (Jvm.fieldLocs frame_1_writes args s ++ Jvm.arrayLocs frame_1_arrays args s ++ Jvm.staticLocs frame_1_statics s) 0 0 → Post tb e args s (.returned v) u) :
    ArmFor flags0 classFile x code maxLocals ret World_1 tables_1 room_1 Calls_1 rest_1 Pre_1 Post := by
  intro l hfl _ _ p e ha hc hk s m args below hf hA hF happ hP
  obtain ⟨hcalls, hrest, hpre⟩ := hP
  obtain ⟨-, -, -, hnamed, -, -, -, hat⟩ := (Spec.applies_iff hf).mp happ
  obtain ⟨hg, hn⟩ := and_e (Cond.before_iff.mp (show (Jvm.Cond.and given_1 narrow_1).before args s = true from hpre))
  obtain ⟨g1, g2⟩ := and_e hg
  obtain ⟨w0, rfl⟩ : ∃ w0 : Value, args = #[w0] := by
    have hs : args.size = 1 := by simpa [Cond.value, given_1] using g1
    obtain ⟨L⟩ := args
    match L, hs with
    | [w0], _ => exact ⟨w0, rfl⟩
  have hw := fun d (hd : d ∈ tables_1) => atoms_spec (ws := Jvm.Cond.code x code maxLocals ret :: tables_1) hat d (List.mem_cons_of_mem _ hd)
  have hfit : Fit s := fun {y c} hc i hi => by
    obtain ⟨ha, rfl⟩ := Array.getElem?_eq_some_iff.mp hc
    have q := List.all_eq_true.mp ((Array.all_eq_true_iff_forall_mem.mp hF) _ (Array.getElem_mem ha)) i (List.mem_range.mpr hi)
    simpa [Array.getElem?_eq_getElem hi] using q
  obtain ⟨i0, ei0⟩ := is_v g2
  obtain rfl : w0 = (.int i0) := Option.some.inj ei0
  obtain ⟨n1, hn⟩ := and_e hn
  obtain ⟨n2, hn⟩ := and_e hn
  obtain ⟨n3, hn⟩ := and_e hn
  obtain ⟨n4, hn⟩ := and_e hn
  obtain ⟨n5, hn⟩ := and_e hn
  obtain ⟨n6, hn⟩ := and_e hn
  obtain ⟨n7, hn⟩ := and_e hn
  obtain ⟨n8, n9⟩ := and_e hn
  obtain ⟨wF, evF⟩ := exa_v n1
  have EF := Exa.start evF n1
  have SF := Sta.start evF (Or.inr ⟨(hw _ (List.mem_of_getElem? (i := 2) rfl)), (hw _ (List.mem_of_getElem? (i := 5) rfl))⟩)
  obtain ⟨wB, evt⟩ := exa_v n2
  have FtF := Fld.start ((fld_at evF).symm.trans evt)
  obtain ⟨vB, evB, fB⟩ := static_fit hfit (hw _ (List.mem_of_getElem? (i := 15) rfl)) (by decide : parseFieldDescriptor "Lcom/example/lichen/lichen/engine/DataType;" = some (.object "com/example/lichen/lichen/engine/DataType"))
  obtain rfl := gotT (eq_R evB evt (fit_R fB rfl) rfl) n3
  have SB := Sta.start evB (Or.inr ⟨(hw _ (List.mem_of_getElem? (i := 14) rfl)), (hw _ (List.mem_of_getElem? (i := 15) rfl))⟩)
  obtain ⟨cF, evc⟩ := exa_v n4
  have EcF := Exa.start evc n4
  have FcF := Fld.start ((fld_at evF).symm.trans evc)
  obtain ⟨x5, y5, e5, f5, -, k5⟩ := cmp_v (Or.inl n5)
  obtain rfl : y5 = .int 0 := Option.some.inj (f5.symm.trans (Term.int_eval (0)))
  obtain ⟨z5, rfl⟩ := k5
  obtain rfl := gotT (Cond.eq_ints e5 f5) n5
  have FvF := Fld.start ((fld_at evc).symm.trans e5)
  obtain ⟨wT, evT⟩ := exa_v n6
  have ET := Exa.start evT n6
  have ST := Sta.start evT (Or.inr ⟨(hw _ (List.mem_of_getElem? (i := 2) rfl)), (hw _ (List.mem_of_getElem? (i := 34) rfl))⟩)
  obtain ⟨x7, y7, e7, f7, k7, k7'⟩ := cmp_v (Or.inl n7)
  obtain rfl : y7 = .ref wB := Option.some.inj (f7.symm.trans evt)
  obtain rfl := gotT (eq_R e7 f7 k7'.2 rfl) n7
  have FtT := Fld.start ((fld_at evT).symm.trans e7)
  obtain ⟨cT, evd⟩ := exa_v n8
  have EcT := Exa.start evd n8
  have FcT := Fld.start ((fld_at evT).symm.trans evd)
  obtain ⟨x9, y9, e9, f9, -, k9⟩ := cmp_v (Or.inl n9)
  obtain rfl : y9 = .int 1 := Option.some.inj (f9.symm.trans (Term.int_eval (1)))
  obtain ⟨z9, rfl⟩ := k9
  obtain rfl := gotT (Cond.eq_ints e9 f9) n9
  have FvT := Fld.start ((fld_at evd).symm.trans e9)
  obtain ⟨n, o, h1, h2, h3, _, L, rfl, ⟨rfl, N⟩, hq⟩ := rm0 l s _ hw tables_1 i0 wF wT wB cF cT s.heap s.heap.size (Nat.le_refl _) SF ST SB EF FtF FcF EcF FvF ET FtT FcT EcT FvT p e ha hc hk s m _ below hf ((Spec.applies_iff_loose hf).mp happ).1 ⟨rfl, State.Warmed39.refl s, rfl⟩ trivial
  refine ⟨n, _, h1, h2, h3, hpost _ _ _ _ _ _ ⟨Cond.after_iff.mpr rfl, Cond.after_iff.mpr (eq_i res_at (Term.int_eval (1)) rfl), trivial⟩ ⟨hq.1, hq.2.1, (hq.2.2.sift fun y hy => Or.inr (N y hy)).mono (by decide) (by decide)⟩⟩
theorem main_1_1 : Claimed_1_1 := comes_1 fun _ _ _ _ _ _ h hF => ⟨h.1, hF⟩
theorem main_1_2 : Claimed_1_2 := comes_1 fun _ _ _ _ _ _ h hF => ⟨h.2.1, hF⟩
end Jvm.Pilot.@@N@@
namespace Jvm.Pilot.@@N@@
open Jvm Jvm.ClassFile Sem Op Lib Jvm.Free Jvm.Stand Jvm.Pilot.@@N@@.Jvm.D
/-! MADE BY PROGRAM (witnessworld.py) out of the Statement's table words and the real class files: 16 classes; the members and pool entries that the words name. The judged class is class 1, her method 1. -/
namespace start1
open Jvm.ClassFile
def u (s : String) : CpInfo := .utf8 (stringToUtf16 s)
/-- a pool by its gaps: so many unusable entries, then the entry; so many at the end -/
def gap : Nat → List CpInfo → List CpInfo
  | 0, r => r
  | n + 1, r => .unusable :: gap n r
def poolList (es : List (Nat × CpInfo)) (last : Nat) : List CpInfo := es.foldr (fun e r => gap e.1 (e.2 :: r)) (gap last [])
def pool (es : List (Nat × CpInfo)) (last : Nat) : Array CpInfo := ⟨poolList es last⟩
def fileOf (pool : Array CpInfo) (this : Nat) (attrs : Array Attribute := #[]) (ms : Array MethodInfo := #[]) (fl : Nat := 33) (sup : Nat := 0) (ifs : Array Nat := #[]) (fds : Array FieldInfo := #[]) : ClassFile where
  minorVersion := 0
  majorVersion := 65
  constantPool := pool
  accessFlags := fl
  thisClass := this
  superClass := sup
  interfaces := ifs
  fields := fds
  methods := ms
  attributes := attrs
def plain (name : String) (sup : Option ClassId) : Class where
  name := name
  kind := .ordinary
  loader := none
  accessFlags := 33
  super := sup
  interfaces := #[]
  cf := none
  fields := #[]
  methods := #[]
  instanceTypes := #[]
  staticTypes := #[]
  resolved := #[]
  callSites := []
  init := .initialized
  statics := none
  mirror := none

def pool0 : Array CpInfo := pool [(5, u "<init>"), (0, u "()V"), (1, .class_ 10), (1, u "java/lang/Object")] 113

def k0m0 : Method := { name := "<init>", desc := "()V", sig := { parameters := [], returnType := none }, accessFlags := 1, code := none }
/-- java/lang/Object -/
def k0 : Class := { plain "java/lang/Object" none with
  accessFlags := 33
  interfaces := #[]
  cf := some (fileOf pool0 8 #[] #[{ accessFlags := 1, nameIndex := 5, descriptorIndex := 6, attributes := #[] }] 33 0 #[] #[])
  fields := #[]
  methods := #[k0m0]
  instanceTypes := #[]
  staticTypes := #[]
  resolved := Array.replicate 124 none
  statics := none }

def pool1 : Array CpInfo := pool [(2, .class_ 4), (1, u "java/lang/Object"), (0, u "<init>"), (0, u "()V"), (0, .methodref 8 9), (0, .class_ 10), (0, .nameAndType 11 12), (0, u "com/example/lichen/lichen/engine/Value"), (0, u "of"), (0, u "(Z)Lcom/example/lichen/lichen/engine/Value;"), (0, .methodref 8 14), (0, .nameAndType 15 16), (0, u "getType"), (0, u "()Lcom/example/lichen/lichen/engine/DataType;"), (0, .fieldref 18 19), (0, .class_ 20), (0, .nameAndType 21 22), (0, u "com/example/lichen/lichen/engine/DataType"), (0, u "BOOLEAN"), (0, u "Lcom/example/lichen/lichen/engine/DataType;"), (0, .methodref 8 24), (0, .nameAndType 25 26), (0, u "asBoolean"), (0, u "()Z"), (0, .class_ 28), (0, u "com/example/lichen/lichen/engine/ValueOfPinLaw"), (2, u "law"), (0, u "(I)Z")] 3

def k1m0 : Method := { name := "<init>", desc := "()V", sig := { parameters := [], returnType := none }, accessFlags := 2, code := none }
def k1c1 : Code := { maxStack := 2, maxLocals := 3, code := code, exceptionTable := #[], attributes := #[] }
def k1m1 : Method := { name := "law", desc := "(I)Z", sig := { parameters := [.int], returnType := some .boolean }, accessFlags := 9, code := some k1c1 }
/-- com/example/lichen/lichen/engine/ValueOfPinLaw -/
def k1 : Class := { plain "com/example/lichen/lichen/engine/ValueOfPinLaw" (some 0) with
  accessFlags := 49
  interfaces := #[]
  cf := some (fileOf pool1 27 #[] #[{ accessFlags := 2, nameIndex := 5, descriptorIndex := 6, attributes := #[] }, { accessFlags := 9, nameIndex := 31, descriptorIndex := 32, attributes := #[] }] 49 2 #[] #[])
  fields := #[]
  methods := #[k1m0, k1m1]
  instanceTypes := #[]
  staticTypes := #[]
  resolved := Array.replicate 36 none
  statics := none }

def pool2 : Array CpInfo := pool [(1, .class_ 2), (0, u "com/example/lichen/lichen/engine/ExpressionValue"), (0, .class_ 4), (0, u "java/lang/Object")] 7

/-- com/example/lichen/lichen/engine/ExpressionValue -/
def k2 : Class := { plain "com/example/lichen/lichen/engine/ExpressionValue" (some 0) with
  accessFlags := 1536
  interfaces := #[]
  cf := some (fileOf pool2 1 #[] #[] 1536 3 #[] #[])
  fields := #[]
  methods := #[]
  instanceTypes := #[]
  staticTypes := #[]
  resolved := Array.replicate 12 none
  statics := none }

def pool3 : Array CpInfo := pool [(2, .class_ 4), (1, u "java/lang/Object"), (3, u "type"), (8, .fieldref 18 19), (0, .class_ 20), (0, .nameAndType 8 21), (0, u "com/example/lichen/lichen/engine/Value"), (0, u "Lcom/example/lichen/lichen/engine/DataType;"), (1, u "content"), (0, .fieldref 18 25), (0, .nameAndType 23 26), (0, u "Ljava/lang/Object;"), (0, .fieldref 18 28), (0, .nameAndType 29 30), (0, u "FALSE"), (0, u "Lcom/example/lichen/lichen/engine/Value;"), (0, .fieldref 18 32), (0, .nameAndType 33 30), (0, u "TRUE"), (0, .class_ 35), (0, u "java/lang/Boolean"), (0, .methodref 34 37), (0, .nameAndType 38 39), (0, u "booleanValue"), (0, u "()Z"), (35, .class_ 76), (0, u "com/example/lichen/lichen/engine/ExpressionValue"), (2, u "of"), (0, u "(Z)Lcom/example/lichen/lichen/engine/Value;"), (1, u "getType"), (0, u "()Lcom/example/lichen/lichen/engine/DataType;"), (2, u "asBoolean")] 23

def k3c0 : Code := { maxStack := 1, maxLocals := 2, code := prog_121_method_2_code, exceptionTable := #[], attributes := #[] }
def k3m0 : Method := { name := "of", desc := "(Z)Lcom/example/lichen/lichen/engine/Value;", sig := { parameters := [.boolean], returnType := some (.object "com/example/lichen/lichen/engine/Value") }, accessFlags := 8, code := some k3c0 }
def k3c1 : Code := { maxStack := 1, maxLocals := 1, code := prog_121_method_3_code, exceptionTable := #[], attributes := #[] }
def k3m1 : Method := { name := "getType", desc := "()Lcom/example/lichen/lichen/engine/DataType;", sig := { parameters := [], returnType := some (.object "com/example/lichen/lichen/engine/DataType") }, accessFlags := 0, code := some k3c1 }
def k3c2 : Code := { maxStack := 1, maxLocals := 1, code := prog_121_method_5_code, exceptionTable := #[], attributes := #[] }
def k3m2 : Method := { name := "asBoolean", desc := "()Z", sig := { parameters := [], returnType := some .boolean }, accessFlags := 0, code := some k3c2 }
/-- com/example/lichen/lichen/engine/Value -/
def k3 : Class := { plain "com/example/lichen/lichen/engine/Value" (some 0) with
  accessFlags := 48
  interfaces := #[2]
  cf := some (fileOf pool3 18 #[] #[{ accessFlags := 8, nameIndex := 79, descriptorIndex := 80, attributes := #[] }, { accessFlags := 0, nameIndex := 82, descriptorIndex := 83, attributes := #[] }, { accessFlags := 0, nameIndex := 86, descriptorIndex := 39, attributes := #[] }] 48 2 #[75] #[{ accessFlags := 24, nameIndex := 33, descriptorIndex := 30, attributes := #[] }, { accessFlags := 24, nameIndex := 29, descriptorIndex := 30, attributes := #[] }, { accessFlags := 18, nameIndex := 8, descriptorIndex := 21, attributes := #[] }, { accessFlags := 18, nameIndex := 23, descriptorIndex := 26, attributes := #[] }])
  fields := #[{ name := "TRUE", type := (.object "com/example/lichen/lichen/engine/Value"), accessFlags := 24, slot := 0, constantValue := 0 }, { name := "FALSE", type := (.object "com/example/lichen/lichen/engine/Value"), accessFlags := 24, slot := 1, constantValue := 0 }, { name := "type", type := (.object "com/example/lichen/lichen/engine/DataType"), accessFlags := 18, slot := 0, constantValue := 0 }, { name := "content", type := (.object "java/lang/Object"), accessFlags := 18, slot := 1, constantValue := 0 }]
  methods := #[k3m0, k3m1, k3m2]
  instanceTypes := #[(.object "com/example/lichen/lichen/engine/DataType"), (.object "java/lang/Object")]
  staticTypes := #[(.object "com/example/lichen/lichen/engine/Value"), (.object "com/example/lichen/lichen/engine/Value")]
  resolved := Array.replicate 110 none
  statics := some 0 }

def pool4 : Array CpInfo := pool [(1, .class_ 2), (0, u "java/lang/constant/Constable"), (0, .class_ 4), (0, u "java/lang/Object")] 6

/-- java/lang/constant/Constable -/
def k4 : Class := { plain "java/lang/constant/Constable" (some 0) with
  accessFlags := 1537
  interfaces := #[]
  cf := some (fileOf pool4 1 #[] #[] 1537 3 #[] #[])
  fields := #[]
  methods := #[]
  instanceTypes := #[]
  staticTypes := #[]
  resolved := Array.replicate 11 none
  statics := none }

def pool5 : Array CpInfo := pool [(1, .class_ 2), (0, u "java/lang/Comparable"), (0, .class_ 4), (0, u "java/lang/Object")] 7

/-- java/lang/Comparable -/
def k5 : Class := { plain "java/lang/Comparable" (some 0) with
  accessFlags := 1537
  interfaces := #[]
  cf := some (fileOf pool5 1 #[] #[] 1537 3 #[] #[])
  fields := #[]
  methods := #[]
  instanceTypes := #[]
  staticTypes := #[]
  resolved := Array.replicate 12 none
  statics := none }

def pool6 : Array CpInfo := pool [(1, .class_ 2), (0, u "java/io/Serializable"), (0, .class_ 4), (0, u "java/lang/Object")] 2

/-- java/io/Serializable -/
def k6 : Class := { plain "java/io/Serializable" (some 0) with
  accessFlags := 1537
  interfaces := #[]
  cf := some (fileOf pool6 1 #[] #[] 1537 3 #[] #[])
  fields := #[]
  methods := #[]
  instanceTypes := #[]
  staticTypes := #[]
  resolved := Array.replicate 7 none
  statics := none }

def pool7 : Array CpInfo := pool [(2, .class_ 4), (1, u "java/lang/Enum"), (0, u "name"), (0, u "Ljava/lang/String;"), (2, u "ordinal"), (0, u "I"), (1, .class_ 14), (1, u "java/lang/Object"), (4, u "hash"), (86, .class_ 108), (1, u "java/lang/Enum$EnumDesc"), (2, .class_ 112), (0, u "java/lang/constant/Constable"), (0, .class_ 114), (0, u "java/lang/Comparable"), (0, .class_ 116), (0, u "java/io/Serializable")] 87

/-- java/lang/Enum -/
def k7 : Class := { plain "java/lang/Enum" (some 0) with
  accessFlags := 1057
  interfaces := #[4, 5, 6]
  cf := some (fileOf pool7 2 #[.nestMembers #[106]] #[] 1057 12 #[111, 113, 115] #[{ accessFlags := 18, nameIndex := 5, descriptorIndex := 6, attributes := #[] }, { accessFlags := 18, nameIndex := 9, descriptorIndex := 10, attributes := #[] }, { accessFlags := 2, nameIndex := 19, descriptorIndex := 10, attributes := #[] }])
  fields := #[{ name := "name", type := (.object "java/lang/String"), accessFlags := 18, slot := 0, constantValue := 0 }, { name := "ordinal", type := .int, accessFlags := 18, slot := 1, constantValue := 0 }, { name := "hash", type := .int, accessFlags := 2, slot := 2, constantValue := 0 }]
  methods := #[]
  instanceTypes := #[(.object "java/lang/String"), .int, .int]
  staticTypes := #[]
  resolved := Array.replicate 204 none
  statics := none }

def pool8 : Array CpInfo := pool [(1, .class_ 2), (0, u "com/example/lichen/lichen/engine/DataType"), (2, u "STRING"), (0, u "Lcom/example/lichen/lichen/engine/DataType;"), (2, u "BOOLEAN"), (2, u "INTEGER"), (2, u "DOUBLE"), (2, u "TIME"), (2, u "DATE"), (2, u "DATE_TIME"), (2, u "ANY_URI"), (2, u "HEX_BINARY"), (2, u "BASE64_BINARY"), (2, u "DAY_TIME_DURATION"), (2, u "YEAR_MONTH_DURATION"), (2, u "X500_NAME"), (2, u "RFC822_NAME"), (2, u "IP_ADDRESS"), (2, u "DNS_NAME"), (2, u "$VALUES"), (0, u "[Lcom/example/lichen/lichen/engine/DataType;"), (6, .class_ 64), (1, u "java/lang/Enum"), (8, u "uri"), (0, u "Ljava/lang/String;"), (2, u "shortName"), (2, u "BY_URI"), (0, u "Ljava/util/Map;"), (75, .class_ 158), (0, u "com/example/lichen/lichen/engine/DataType$1"), (8, .class_ 168), (0, u "com/example/lichen/lichen/engine/DataType$2"), (6, .class_ 176), (0, u "com/example/lichen/lichen/engine/DataType$3"), (6, .class_ 184), (0, u "com/example/lichen/lichen/engine/DataType$4"), (6, .class_ 192), (0, u "com/example/lichen/lichen/engine/DataType$5"), (6, .class_ 200), (0, u "com/example/lichen/lichen/engine/DataType$6"), (6, .class_ 208), (0, u "com/example/lichen/lichen/engine/DataType$7"), (6, .class_ 216), (0, u "com/example/lichen/lichen/engine/DataType$8"), (6, .class_ 224), (0, u "com/example/lichen/lichen/engine/DataType$9"), (6, .class_ 232), (0, u "com/example/lichen/lichen/engine/DataType$10"), (6, .class_ 240), (0, u "com/example/lichen/lichen/engine/DataType$11"), (6, .class_ 248), (0, u "com/example/lichen/lichen/engine/DataType$12"), (6, .class_ 256), (0, u "com/example/lichen/lichen/engine/DataType$13"), (6, .class_ 264), (0, u "com/example/lichen/lichen/engine/DataType$14"), (6, .class_ 272), (0, u "com/example/lichen/lichen/engine/DataType$15"), (6, .class_ 280), (0, u "com/example/lichen/lichen/engine/DataType$16"), (20, u "INTEGER_FORM"), (0, u "Ljava/util/regex/Pattern;"), (4, u "DECIMAL_FORM"), (4, u "DAY_TIME_DURATION_FORM"), (13, u "DAY_TIME_UNITS"), (0, u "[Ljava/math/BigInteger;"), (4, u "YEAR_MONTH_DURATION_FORM"), (4, u "MONTHS_PER_YEAR"), (0, u "Ljava/math/BigInteger;"), (12, u "MAX_INTEGER_DIGITS"), (0, u "I"), (2, u "MAX_X500_NAME_LENGTH")] 50

/-- com/example/lichen/lichen/engine/DataType -/
def k8 : Class := { plain "com/example/lichen/lichen/engine/DataType" (some 7) with
  accessFlags := 17440
  interfaces := #[]
  cf := some (fileOf pool8 1 #[.nestMembers #[279, 271, 263, 255, 247, 239, 231, 223, 215, 207, 199, 191, 183, 175, 167, 157]] #[] 17440 62 #[] #[{ accessFlags := 16409, nameIndex := 5, descriptorIndex := 6, attributes := #[] }, { accessFlags := 16409, nameIndex := 9, descriptorIndex := 6, attributes := #[] }, { accessFlags := 16409, nameIndex := 12, descriptorIndex := 6, attributes := #[] }, { accessFlags := 16409, nameIndex := 15, descriptorIndex := 6, attributes := #[] }, { accessFlags := 16409, nameIndex := 18, descriptorIndex := 6, attributes := #[] }, { accessFlags := 16409, nameIndex := 21, descriptorIndex := 6, attributes := #[] }, { accessFlags := 16409, nameIndex := 24, descriptorIndex := 6, attributes := #[] }, { accessFlags := 16409, nameIndex := 27, descriptorIndex := 6, attributes := #[] }, { accessFlags := 16409, nameIndex := 30, descriptorIndex := 6, attributes := #[] }, { accessFlags := 16409, nameIndex := 33, descriptorIndex := 6, attributes := #[] }, { accessFlags := 16409, nameIndex := 36, descriptorIndex := 6, attributes := #[] }, { accessFlags := 16409, nameIndex := 39, descriptorIndex := 6, attributes := #[] }, { accessFlags := 16409, nameIndex := 42, descriptorIndex := 6, attributes := #[] }, { accessFlags := 16409, nameIndex := 45, descriptorIndex := 6, attributes := #[] }, { accessFlags := 16409, nameIndex := 48, descriptorIndex := 6, attributes := #[] }, { accessFlags := 16409, nameIndex := 51, descriptorIndex := 6, attributes := #[] }, { accessFlags := 26, nameIndex := 351, descriptorIndex := 352, attributes := #[] }, { accessFlags := 26, nameIndex := 355, descriptorIndex := 352, attributes := #[] }, { accessFlags := 26, nameIndex := 301, descriptorIndex := 302, attributes := #[] }, { accessFlags := 26, nameIndex := 307, descriptorIndex := 302, attributes := #[] }, { accessFlags := 26, nameIndex := 312, descriptorIndex := 302, attributes := #[] }, { accessFlags := 26, nameIndex := 326, descriptorIndex := 327, attributes := #[] }, { accessFlags := 26, nameIndex := 332, descriptorIndex := 302, attributes := #[] }, { accessFlags := 26, nameIndex := 337, descriptorIndex := 338, attributes := #[] }, { accessFlags := 26, nameIndex := 80, descriptorIndex := 81, attributes := #[] }, { accessFlags := 18, nameIndex := 73, descriptorIndex := 74, attributes := #[] }, { accessFlags := 18, nameIndex := 77, descriptorIndex := 74, attributes := #[] }, { accessFlags := 4122, nameIndex := 54, descriptorIndex := 55, attributes := #[] }])
  fields := #[{ name := "STRING", type := (.object "com/example/lichen/lichen/engine/DataType"), accessFlags := 16409, slot := 0, constantValue := 0 }, { name := "BOOLEAN", type := (.object "com/example/lichen/lichen/engine/DataType"), accessFlags := 16409, slot := 1, constantValue := 0 }, { name := "INTEGER", type := (.object "com/example/lichen/lichen/engine/DataType"), accessFlags := 16409, slot := 2, constantValue := 0 }, { name := "DOUBLE", type := (.object "com/example/lichen/lichen/engine/DataType"), accessFlags := 16409, slot := 3, constantValue := 0 }, { name := "TIME", type := (.object "com/example/lichen/lichen/engine/DataType"), accessFlags := 16409, slot := 4, constantValue := 0 }, { name := "DATE", type := (.object "com/example/lichen/lichen/engine/DataType"), accessFlags := 16409, slot := 5, constantValue := 0 }, { name := "DATE_TIME", type := (.object "com/example/lichen/lichen/engine/DataType"), accessFlags := 16409, slot := 6, constantValue := 0 }, { name := "ANY_URI", type := (.object "com/example/lichen/lichen/engine/DataType"), accessFlags := 16409, slot := 7, constantValue := 0 }, { name := "HEX_BINARY", type := (.object "com/example/lichen/lichen/engine/DataType"), accessFlags := 16409, slot := 8, constantValue := 0 }, { name := "BASE64_BINARY", type := (.object "com/example/lichen/lichen/engine/DataType"), accessFlags := 16409, slot := 9, constantValue := 0 }, { name := "DAY_TIME_DURATION", type := (.object "com/example/lichen/lichen/engine/DataType"), accessFlags := 16409, slot := 10, constantValue := 0 }, { name := "YEAR_MONTH_DURATION", type := (.object "com/example/lichen/lichen/engine/DataType"), accessFlags := 16409, slot := 11, constantValue := 0 }, { name := "X500_NAME", type := (.object "com/example/lichen/lichen/engine/DataType"), accessFlags := 16409, slot := 12, constantValue := 0 }, { name := "RFC822_NAME", type := (.object "com/example/lichen/lichen/engine/DataType"), accessFlags := 16409, slot := 13, constantValue := 0 }, { name := "IP_ADDRESS", type := (.object "com/example/lichen/lichen/engine/DataType"), accessFlags := 16409, slot := 14, constantValue := 0 }, { name := "DNS_NAME", type := (.object "com/example/lichen/lichen/engine/DataType"), accessFlags := 16409, slot := 15, constantValue := 0 }, { name := "MAX_INTEGER_DIGITS", type := .int, accessFlags := 26, slot := 16, constantValue := 0 }, { name := "MAX_X500_NAME_LENGTH", type := .int, accessFlags := 26, slot := 17, constantValue := 0 }, { name := "INTEGER_FORM", type := (.object "java/util/regex/Pattern"), accessFlags := 26, slot := 18, constantValue := 0 }, { name := "DECIMAL_FORM", type := (.object "java/util/regex/Pattern"), accessFlags := 26, slot := 19, constantValue := 0 }, { name := "DAY_TIME_DURATION_FORM", type := (.object "java/util/regex/Pattern"), accessFlags := 26, slot := 20, constantValue := 0 }, { name := "DAY_TIME_UNITS", type := (.array (.object "java/math/BigInteger")), accessFlags := 26, slot := 21, constantValue := 0 }, { name := "YEAR_MONTH_DURATION_FORM", type := (.object "java/util/regex/Pattern"), accessFlags := 26, slot := 22, constantValue := 0 }, { name := "MONTHS_PER_YEAR", type := (.object "java/math/BigInteger"), accessFlags := 26, slot := 23, constantValue := 0 }, { name := "BY_URI", type := (.object "java/util/Map"), accessFlags := 26, slot := 24, constantValue := 0 }, { name := "uri", type := (.object "java/lang/String"), accessFlags := 18, slot := 3, constantValue := 0 }, { name := "shortName", type := (.object "java/lang/String"), accessFlags := 18, slot := 4, constantValue := 0 }, { name := "$VALUES", type := (.array (.object "com/example/lichen/lichen/engine/DataType")), accessFlags := 4122, slot := 25, constantValue := 0 }]
  methods := #[]
  instanceTypes := #[(.object "java/lang/String"), .int, .int, (.object "java/lang/String"), (.object "java/lang/String")]
  staticTypes := #[(.object "com/example/lichen/lichen/engine/DataType"), (.object "com/example/lichen/lichen/engine/DataType"), (.object "com/example/lichen/lichen/engine/DataType"), (.object "com/example/lichen/lichen/engine/DataType"), (.object "com/example/lichen/lichen/engine/DataType"), (.object "com/example/lichen/lichen/engine/DataType"), (.object "com/example/lichen/lichen/engine/DataType"), (.object "com/example/lichen/lichen/engine/DataType"), (.object "com/example/lichen/lichen/engine/DataType"), (.object "com/example/lichen/lichen/engine/DataType"), (.object "com/example/lichen/lichen/engine/DataType"), (.object "com/example/lichen/lichen/engine/DataType"), (.object "com/example/lichen/lichen/engine/DataType"), (.object "com/example/lichen/lichen/engine/DataType"), (.object "com/example/lichen/lichen/engine/DataType"), (.object "com/example/lichen/lichen/engine/DataType"), .int, .int, (.object "java/util/regex/Pattern"), (.object "java/util/regex/Pattern"), (.object "java/util/regex/Pattern"), (.array (.object "java/math/BigInteger")), (.object "java/util/regex/Pattern"), (.object "java/math/BigInteger"), (.object "java/util/Map"), (.array (.object "com/example/lichen/lichen/engine/DataType"))]
  resolved := Array.replicate 406 none
  statics := some 1 }

def pool9 : Array CpInfo := pool [(2, .class_ 4), (1, u "java/lang/Object"), (2, .fieldref 8 9), (0, .class_ 10), (0, .nameAndType 11 12), (0, u "java/lang/Boolean"), (0, u "value"), (0, u "Z"), (16, u "TRUE"), (0, u "Ljava/lang/Boolean;"), (2, u "FALSE"), (10, u "booleanValue"), (0, u "()Z"), (41, u "TYPE"), (0, u "Ljava/lang/Class;"), (0, .class_ 90), (0, u "java/io/Serializable"), (0, .class_ 92), (0, u "java/lang/Comparable"), (0, .class_ 94), (0, u "java/lang/constant/Constable"), (2, u "serialVersionUID"), (0, u "J")] 53

def k9c0 : Code := { maxStack := 1, maxLocals := 1, code := jdk_2055_method_4_code, exceptionTable := #[], attributes := #[] }
def k9m0 : Method := { name := "booleanValue", desc := "()Z", sig := { parameters := [], returnType := some .boolean }, accessFlags := 1, code := some k9c0 }
/-- java/lang/Boolean -/
def k9 : Class := { plain "java/lang/Boolean" (some 0) with
  accessFlags := 49
  interfaces := #[6, 5, 4]
  cf := some (fileOf pool9 8 #[] #[{ accessFlags := 1, nameIndex := 44, descriptorIndex := 45, attributes := #[] }] 49 2 #[89, 91, 93] #[{ accessFlags := 25, nameIndex := 29, descriptorIndex := 30, attributes := #[] }, { accessFlags := 25, nameIndex := 33, descriptorIndex := 30, attributes := #[] }, { accessFlags := 25, nameIndex := 87, descriptorIndex := 88, attributes := #[] }, { accessFlags := 18, nameIndex := 11, descriptorIndex := 12, attributes := #[] }, { accessFlags := 26, nameIndex := 97, descriptorIndex := 98, attributes := #[] }])
  fields := #[{ name := "TRUE", type := (.object "java/lang/Boolean"), accessFlags := 25, slot := 0, constantValue := 0 }, { name := "FALSE", type := (.object "java/lang/Boolean"), accessFlags := 25, slot := 1, constantValue := 0 }, { name := "TYPE", type := (.object "java/lang/Class"), accessFlags := 25, slot := 2, constantValue := 0 }, { name := "value", type := .boolean, accessFlags := 18, slot := 0, constantValue := 0 }, { name := "serialVersionUID", type := .long, accessFlags := 26, slot := 3, constantValue := 0 }]
  methods := #[k9m0]
  instanceTypes := #[.boolean]
  staticTypes := #[(.object "java/lang/Boolean"), (.object "java/lang/Boolean"), (.object "java/lang/Class"), .long]
  resolved := Array.replicate 152 none
  statics := none }

def pool10 : Array CpInfo := pool [(2, .class_ 4), (1, u "com/example/lichen/lichen/engine/DataType"), (14, .class_ 20), (0, u "com/example/lichen/lichen/engine/DataType$2")] 10

/-- com/example/lichen/lichen/engine/DataType$2 -/
def k10 : Class := { plain "com/example/lichen/lichen/engine/DataType$2" (some 8) with
  accessFlags := 16432
  interfaces := #[]
  cf := some (fileOf pool10 19 #[.nestHost 2] #[] 16432 2 #[] #[])
  fields := #[]
  methods := #[]
  instanceTypes := #[(.object "java/lang/String"), .int, .int, (.object "java/lang/String"), (.object "java/lang/String")]
  staticTypes := #[]
  resolved := Array.replicate 31 none
  statics := none }

def pool11 : Array CpInfo := pool [(1, u "java/lang/Cloneable"), (0, .class_ 1), (0, u "java/lang/Object"), (0, .class_ 3)] 3

/-- java/lang/Cloneable -/
def k11 : Class := { plain "java/lang/Cloneable" (some 0) with
  accessFlags := 1537
  interfaces := #[]
  cf := some (fileOf pool11 2 #[] #[] 1537 4 #[] #[])
  fields := #[]
  methods := #[]
  instanceTypes := #[]
  staticTypes := #[]
  resolved := Array.replicate 8 none
  statics := none }

/-- the primitive byte -/
def k12 : Class := { plain "byte" none with kind := .primitive 'B', accessFlags := 0x411 }
/-- [B -/
def k13 : Class := { plain "[B" (some 0) with kind := .array 12 .byte, interfaces := #[11, 6], accessFlags := 1041 }

/-- the primitive int -/
def k14 : Class := { plain "int" none with kind := .primitive 'I', accessFlags := 0x411 }
/-- [I -/
def k15 : Class := { plain "[I" (some 0) with kind := .array 14 .int, interfaces := #[11, 6], accessFlags := 1041 }

def heap : Heap := #[{ cls := 3, slots := #[.ref 6, .ref 5], vm := .statics 3 },
  { cls := 8, slots := #[.null, .ref 2, .null, .null, .null, .null, .null, .null, .null, .null, .null, .null, .null, .null, .null, .null, .int 0, .int 0, .null, .null, .null, .null, .null, .null, .null, .null], vm := .statics 8 },
  { cls := 10, slots := #[.null, .int 0, .int 0, .null, .null], vm := .none },
  { cls := 9, slots := #[.int 0], vm := .none },
  { cls := 9, slots := #[.int 1], vm := .none },
  { cls := 3, slots := #[.ref 2, .ref 3], vm := .none },
  { cls := 3, slots := #[.ref 2, .ref 4], vm := .none }]
def classes : Array Class := #[k0, k1, k2, k3, k4, k5, k6, k7, k8, k9, k10, k11, k12, k13, k14, k15]
def interned : List (Array UInt16 × Addr) := []
def slotsUsed : Nat := 39
def theMethod : MethodId := ⟨1, 1⟩
def args0 : Array Value := #[.int 1]
def aboutOver (below : List Frame) : State where
  vm := { classes := classes, interned := interned.toArray }
  heap := heap
  slotsUsed := slotsUsed
  threads := #[{ frames := .invoking theMethod args0 :: below }]
def below0 : List Frame := [.native { method := ⟨0, 0⟩, args := #[] }]
def about1 : State := aboutOver below0
def p0 : Program := .bare "" "" ""
def e0 : Env := launch0.env 0 0 0
theorem w_frames : about1.frames = Frame.invoking theMethod args0 :: below0 := rfl
set_option maxRecDepth 65536 in
theorem w_args : argsFit about1.vm theMethod args0 = true := by decide +kernel
set_option maxRecDepth 65536 in
theorem w_heap : heapFits about1 = true := by decide +kernel
set_option maxRecDepth 65536 in
theorem w_runnable : about1.curStatus? = some .runnable := by decide +kernel
set_option maxRecDepth 65536 in
theorem w_alone : about1.alone = true := by decide +kernel
set_option maxRecDepth 65536 in
theorem w_named : about1.methodNamed? x = some theMethod := by decide +kernel
set_option maxRecDepth 65536 in
theorem w_hears : about1.hears theMethod below0 = true := by decide +kernel
set_option maxRecDepth 65536 in
theorem w_ripe : about1.ripe theMethod args0 below0 = true := by decide +kernel
theorem w_running : about1.status = .running := rfl
set_option maxRecDepth 65536 in
theorem w_room : about1.hasRoom e0.platform room_1 = true :=
  launch0.hasRoom_least _ room_1 (by decide +kernel) (by decide +kernel) (by decide +kernel) (by decide +kernel) (by decide +kernel) (by decide +kernel)
theorem allAtoms_all (ts : List Jvm.Cond) (a : Array Jvm.Value) (st : Jvm.State) : (allAtoms ts).before a st = ts.all (fun c => c.before a st) := by
  induction ts with
  | nil => rfl
  | cons c t ih =>
    show (Jvm.Cond.and c (allAtoms t)).before a st = _
    rw [Jvm.Cond.before_and, ih, List.all_cons]
def words1 : List Jvm.Cond := Jvm.Cond.code x code maxLocals ret :: tables_1
/-- a 'code' word, met by the world's own term for the bytes: nothing is compared byte by byte -/
theorem code_word {y : MethodName} {bytes : ByteArray} {mx : Nat} {rt : Option FieldType} {a : Array Value} {s : State} {m : MethodId} {meth : Method} {c : Code} (h1 : s.methodNamed? y = some m) (h2 : s.vm.method? m = some meth) (h3 : meth.code = some c) (h4 : c.code = bytes)
    (h5 : (c.maxLocals == mx && c.exceptionTable.isEmpty && decide (c.maxStack ≤ mostOperands) && decide (meth.sig.returnType = rt) && !meth.locks && decide (parseMethodDescriptor y.desc = some meth.sig)) = true) : (Jvm.Cond.code y bytes mx rt).before a s = true := by
  simp only [Bool.and_eq_true, beq_iff_eq, Bool.not_eq_true', decide_eq_true_eq] at h5
  obtain ⟨⟨⟨⟨⟨g1, g2⟩, g3⟩, g4⟩, g5⟩, g6⟩ := h5
  simp [Cond.before, Cond.holds, Cond.value, h1, h2, h3, h4, g1, g2, g3, g4, g5, g6]
def isCode : Jvm.Cond → Bool
  | .code _ _ _ _ => true
  | _ => false
theorem all_split {L : List Jvm.Cond} {P : Jvm.Cond → Bool} (h1 : L.all (fun c => isCode c || P c) = true) (h2 : ∀ c ∈ L.filter isCode, P c = true) : L.all P = true := by
  refine List.all_eq_true.mpr fun c hc => ?_
  have h := List.all_eq_true.mp h1 c hc
  rcases Bool.eq_false_or_eq_true (isCode c) with hi | hi
  · exact h2 c (List.mem_filter.mpr ⟨hc, hi⟩)
  · simpa [hi] using h
set_option maxRecDepth 65536 in
theorem w_c0 : (Jvm.Cond.code x code maxLocals ret).before args0 about1 = true := code_word (m := ⟨1, 1⟩) (meth := k1m1) (c := k1c1) (by decide +kernel) rfl rfl rfl (by decide +kernel)
set_option maxRecDepth 65536 in
theorem w_c1 : (Jvm.Cond.code ({ cls := "com/example/lichen/lichen/engine/Value", name := "of", desc := "(Z)Lcom/example/lichen/lichen/engine/Value;" } : Jvm.MethodName) prog_121_method_2_code (2 : Nat) (Option.some (Jvm.ClassFile.FieldType.object "com/example/lichen/lichen/engine/Value"))).before args0 about1 = true := code_word (m := ⟨3, 0⟩) (meth := k3m0) (c := k3c0) (by decide +kernel) rfl rfl rfl (by decide +kernel)
set_option maxRecDepth 65536 in
theorem w_c2 : (Jvm.Cond.code ({ cls := "com/example/lichen/lichen/engine/Value", name := "getType", desc := "()Lcom/example/lichen/lichen/engine/DataType;" } : Jvm.MethodName) prog_121_method_3_code (1 : Nat) (Option.some (Jvm.ClassFile.FieldType.object "com/example/lichen/lichen/engine/DataType"))).before args0 about1 = true := code_word (m := ⟨3, 1⟩) (meth := k3m1) (c := k3c1) (by decide +kernel) rfl rfl rfl (by decide +kernel)
set_option maxRecDepth 65536 in
theorem w_c3 : (Jvm.Cond.code ({ cls := "com/example/lichen/lichen/engine/Value", name := "asBoolean", desc := "()Z" } : Jvm.MethodName) prog_121_method_5_code (1 : Nat) (Option.some Jvm.ClassFile.FieldType.boolean)).before args0 about1 = true := code_word (m := ⟨3, 2⟩) (meth := k3m2) (c := k3c2) (by decide +kernel) rfl rfl rfl (by decide +kernel)
set_option maxRecDepth 65536 in
theorem w_c4 : (Jvm.Cond.code ({ cls := "java/lang/Boolean", name := "booleanValue", desc := "()Z" } : Jvm.MethodName) jdk_2055_method_4_code (1 : Nat) (Option.some Jvm.ClassFile.FieldType.boolean)).before args0 about1 = true := code_word (m := ⟨9, 0⟩) (meth := k9m0) (c := k9c0) (by decide +kernel) rfl rfl rfl (by decide +kernel)
def codes1 : List Jvm.Cond := [Jvm.Cond.code x code maxLocals ret, Jvm.Cond.code ({ cls := "com/example/lichen/lichen/engine/Value", name := "of", desc := "(Z)Lcom/example/lichen/lichen/engine/Value;" } : Jvm.MethodName) prog_121_method_2_code (2 : Nat) (Option.some (Jvm.ClassFile.FieldType.object "com/example/lichen/lichen/engine/Value")), Jvm.Cond.code ({ cls := "com/example/lichen/lichen/engine/Value", name := "getType", desc := "()Lcom/example/lichen/lichen/engine/DataType;" } : Jvm.MethodName) prog_121_method_3_code (1 : Nat) (Option.some (Jvm.ClassFile.FieldType.object "com/example/lichen/lichen/engine/DataType")), Jvm.Cond.code ({ cls := "com/example/lichen/lichen/engine/Value", name := "asBoolean", desc := "()Z" } : Jvm.MethodName) prog_121_method_5_code (1 : Nat) (Option.some Jvm.ClassFile.FieldType.boolean), Jvm.Cond.code ({ cls := "java/lang/Boolean", name := "booleanValue", desc := "()Z" } : Jvm.MethodName) jdk_2055_method_4_code (1 : Nat) (Option.some Jvm.ClassFile.FieldType.boolean)]
set_option maxRecDepth 65536 in
theorem codes_eq : words1.filter isCode = codes1 := rfl
theorem w_codes : ∀ c ∈ words1.filter isCode, c.before args0 about1 = true := by
  rw [codes_eq]
  intro c hc
  simp only [codes1, List.mem_cons, List.not_mem_nil, or_false] at hc
  rcases hc with rfl | rfl | rfl | rfl | rfl
  · exact w_c0
  · exact w_c1
  · exact w_c2
  · exact w_c3
  · exact w_c4
set_option maxRecDepth 65536 in
theorem w_t1 : (words1.take 24).all (fun c => isCode c || c.before args0 about1) = true := by decide +kernel
set_option maxRecDepth 65536 in
theorem w_t2 : (words1.drop 24).all (fun c => isCode c || c.before args0 about1) = true := by decide +kernel
theorem w_tables : (allAtoms (Jvm.Cond.code x code maxLocals ret :: tables_1)).before args0 about1 = true := by
  rw [allAtoms_all]
  show words1.all (fun c => c.before args0 about1) = true
  refine all_split ?_ w_codes
  rw [← List.take_append_drop 24 words1, List.all_append, w_t1, w_t2]
  rfl
set_option maxRecDepth 65536 in
theorem w_case : (Jvm.Cond.and given_1 narrow_1).before args0 about1 = true := by decide +kernel
theorem w_applies : (headSpec (Jvm.Cond.code x code maxLocals ret :: tables_1) room_1).applies x e0.platform about1 = true :=
  (Spec.applies_iff w_frames).mpr ⟨w_running, w_runnable, w_alone, w_named, w_hears, w_ripe, w_room, w_tables⟩
theorem atStart : AtStart classFile x code maxLocals ret World_1 tables_1 room_1 Calls_1 rest_1 Pre_1 launch0 p0 e0 about1 theMethod args0 below0 :=
  ⟨lists_1, trivial, launch0.admits_env _ _ _, launch0.least_env, fairChoices_fair.cas, fairChoices_fair.clock, w_frames, w_args, w_heap, w_applies, trivial, trivial, w_case⟩
end start1
theorem witness_1 : WitnessClaimed_1 := ⟨start1.p0, start1.e0, start1.about1, start1.theMethod, start1.args0, start1.below0, start1.atStart⟩
end Jvm.Pilot.@@N@@
