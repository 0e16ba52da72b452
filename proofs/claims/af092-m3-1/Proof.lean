import JvmDerived
import JvmDerived.Pilot.@@N@@Statement
import JvmDerived.Pilot.@@N@@Code
set_option linter.unusedVariables false
set_option linter.unusedSimpArgs false
namespace Jvm.Pilot.@@N@@
open Jvm Jvm.ClassFile Sem Op Lib Jvm.Free Jvm.Stand Jvm.LawKit Jvm.RoadKit Bundle Jvm.Pilot.@@N@@.Jvm.D
def own_isB (c : Int32) : Int32 := if c = 32 then 1 else if c = 9 then 1 else if c = 11 then 1 else if c = 12 then 1 else 0
def own_ex (c : Int32) : Int32 := if c = 32 then 1 else if c < 9 then 0 else if 12 < c then 0 else if c = 10 then 0 else 1
def own_ch (x mode : Int32) : Int32 := if (mode &&& (3 : Int32)) = (0 : Int32) then ((x &&& (63 : Int32)).toUInt32.toUInt16.toUInt32.toInt32) else ((x &&& (65535 : Int32)).toUInt32.toUInt16.toUInt32.toInt32)
theorem own_same (c : Int32) : own_isB c = own_ex c := by
  have e9 : (9 : Int32).toInt = 9 := by decide
  have e10 : (10 : Int32).toInt = 10 := by decide
  have e11 : (11 : Int32).toInt = 11 := by decide
  have e12 : (12 : Int32).toInt = 12 := by decide
  have e32 : (32 : Int32).toInt = 32 := by decide
  unfold own_isB own_ex
  simp only [← Int32.toInt_inj, Int32.lt_iff_toInt_lt, e9, e10, e11, e12, e32]
  generalize c.toInt = z
  split
  · rfl
  · split
    · rw [if_neg (by omega), if_neg (by omega), if_neg (by omega)]
    · split
      · rw [if_neg (by omega), if_neg (by omega), if_neg (by omega)]
      · split
        · rw [if_neg (by omega), if_neg (by omega), if_neg (by omega)]
        · split
          · rfl
          · split
            · rfl
            · split
              · rfl
              · exfalso; omega
theorem d1_0 : decode prog_67_method_14_code 0 = .ok (.iload_n 0, 1) := by decide +kernel
theorem d1_1 : decode prog_67_method_14_code 1 = .ok (.bipush 32, 2) := by decide +kernel
theorem d1_3 : decode prog_67_method_14_code 3 = .ok (.if_icmp .eq 21, 3) := by decide +kernel
theorem d1_6 : decode prog_67_method_14_code 6 = .ok (.iload_n 0, 1) := by decide +kernel
theorem d1_7 : decode prog_67_method_14_code 7 = .ok (.bipush 9, 2) := by decide +kernel
theorem d1_9 : decode prog_67_method_14_code 9 = .ok (.if_icmp .eq 15, 3) := by decide +kernel
theorem d1_12 : decode prog_67_method_14_code 12 = .ok (.iload_n 0, 1) := by decide +kernel
theorem d1_13 : decode prog_67_method_14_code 13 = .ok (.bipush 11, 2) := by decide +kernel
theorem d1_15 : decode prog_67_method_14_code 15 = .ok (.if_icmp .eq 9, 3) := by decide +kernel
theorem d1_18 : decode prog_67_method_14_code 18 = .ok (.iload_n 0, 1) := by decide +kernel
theorem d1_19 : decode prog_67_method_14_code 19 = .ok (.bipush 12, 2) := by decide +kernel
theorem d1_21 : decode prog_67_method_14_code 21 = .ok (.if_icmp .ne 7, 3) := by decide +kernel
theorem d1_24 : decode prog_67_method_14_code 24 = .ok (.iconst 1, 1) := by decide +kernel
theorem d1_25 : decode prog_67_method_14_code 25 = .ok (.goto 4, 3) := by decide +kernel
theorem d1_28 : decode prog_67_method_14_code 28 = .ok (.iconst 0, 1) := by decide +kernel
theorem d1_29 : decode prog_67_method_14_code 29 = .ok (.ireturn, 1) := by decide +kernel
theorem pn_com_example_sondage_sondage_topology_RecordReader : plainName "com/example/sondage/sondage/topology/RecordReader" = true := by first | (simp [plainName, overriddenIn]; done) | decide +kernel
theorem ef_rm1 (m : MethodId) (p0 : Int32) : entryFrame m #[(.int p0)] 1 = (mkF m 0 #[.val (.int p0)] []) := by first | (simp [entryFrame, mkF, argsToLocals, Value.category]; done) | rfl
def Q1 (Z : State) (p0 : Int32) (h0 : Heap) (n0 : Nat) (v : Option Value) (h : Heap) (L : List Loc) : Prop := v = some (.int (own_isB p0)) ∧ Fr n0 L ∧ h = h0
set_option maxRecDepth 65536 in
set_option maxHeartbeats 40000000 in
theorem rm1 (l : Launch) (Z : State) (aa : Array Value) (hw : ∀ d ∈ tables_1, d.before aa Z = true) (ws : List Jvm.Cond) (p0 : Int32) (h0 : Heap) (n0 : Nat) (Z0 : n0 ≤ h0.size) :
    MetFree l (⟨"com/example/sondage/sondage/topology/RecordReader", "isBlank", "(C)Z"⟩ : MethodName) (head1 (Jvm.Cond.code (⟨"com/example/sondage/sondage/topology/RecordReader", "isBlank", "(C)Z"⟩ : MethodName) prog_67_method_14_code 1 (some .boolean) :: ws) ({ frames := 0, cells := 0, slots := 0, locals := 0 } : Room)) (fun a U => a = #[(.int p0)] ∧ Z.Warmed39 U.vm ∧ U.heap = h0) (fun _ _ _ _ _ => True) (fun _ U o U' => ∃ v L, o = .returned v ∧ Q1 Z p0 h0 n0 v U'.heap L ∧ FrameEnd U o U' L ({ frames := 0, cells := 0, slots := 0, locals := 0 } : Room).cells ({ frames := 0, cells := 0, slots := 0, locals := 0 } : Room).slots) := by
  refine MetFree.of_bodySF (plainFor_of_name pn_com_example_sondage_sondage_topology_RecordReader) hisR ?_
  intro p e s m args below meth c s₁ Bd hml0 hP hK
  obtain ⟨rfl, hZ, hh⟩ := hP
  have hx := Bd.exec
  have hby := Bd.bytes
  have hml : c.maxLocals = 1 := hml0
  have hown : s.vm.findClass "com/example/sondage/sondage/topology/RecordReader" = some m.cls := findClass_of_methodNamed Bd.named
  have hnm := (name_of_methodNamed Bd.named Bd.method).1
  have X0 : Stand p l e ({ frames := 0, cells := 0, slots := 0, locals := 0 } : Room) s m #[(.int p0)] below meth c s₁ [] 0 0 := Stand.of_body Bd
  have e0 : s₁.heap = h0 := by rw [← hh, Bd.state]; rfl
  have N0 := Fr.nil n0
  obtain ⟨G0, hG0⟩ : ∃ G, G = s₁.setTop (entryFrame m #[(.int p0)] 1) := ⟨_, rfl⟩
  have K0 : ∀ t, Steps p.tables e below (s₁.setTop (mkF m 0 #[.val (.int p0)] [])) t → Steps p.tables e below G0 t := fun t k => by rw [hG0]; exact castTop (ef_rm1 m p0) k
  have K1 : ∀ t, Steps p.tables e below (s₁.setTop (mkF m 3 #[.val (.int p0)] [(.int (32 : Int32)), (.int p0)])) t → Steps p.tables e below G0 t := by
    intro t kt
    refine K0 t ?_
    refine XS.iloadN X0.here hx rfl (hb hby d1_0) rfl ?_
    show Steps p.tables e below (s₁.setTop (mkF m 1 #[.val (.int p0)] [(.int p0)])) _
    refine XS.bipush X0.here hx rfl (hb hby d1_1) ?_
    show Steps p.tables e below (s₁.setTop (mkF m 3 #[.val (.int p0)] [(.int (32 : Int32)), (.int p0)])) _
    exact kt
  by_cases hc2 : p0 = (32 : Int32)
  ·
    have K3 : ∀ t, Steps p.tables e below (s₁.setTop (mkF m 29 #[.val (.int p0)] [(.int (1 : Int32))])) t → Steps p.tables e below G0 t := by
      intro t kt
      refine K1 t ?_
      refine XS.icmpYes X0.here hx rfl (pc0 := 3) (pc' := 24) rfl (hb hby d1_3) rfl (teq hc2).1 (by decide) (by decide) ?_
      show Steps p.tables e below (s₁.setTop (mkF m 24 #[.val (.int p0)] [])) _
      refine XS.iconst X0.here hx rfl (hb hby d1_24) ?_
      show Steps p.tables e below (s₁.setTop (mkF m 25 #[.val (.int p0)] [(.int (1 : Int32))])) _
      refine XS.goto X0.here hx rfl (pc0 := 25) (pc' := 29) rfl (hb hby d1_25) (by decide) (by decide) ?_
      show Steps p.tables e below (s₁.setTop (mkF m 29 #[.val (.int p0)] [(.int (1 : Int32))])) _
      exact kt
    obtain ⟨fs, hr, hrun, hended, hW, hsame⟩ := X0.leave (v := some (.int (1 : Int32))) (fun h => by rw [Bd.returns] at h; cases h)
    refine ⟨_, _, ?_, hrun, hended, _, _, rfl, ?_, ⟨_, rfl⟩, hW, hsame.mono (by decide) (by decide)⟩
    · rw [← hG0]
      refine K3 _ ?_
      exact retN X0 hx (t := .boolean) Bd.returns (by simp) (hb hby d1_29) hr
    · show Q1 Z p0 h0 n0 _ s₁.heap _
      rw [e0]
      exact ⟨by rw [own_isB, if_pos hc2], N0, rfl⟩
  ·
    have K4 : ∀ t, Steps p.tables e below (s₁.setTop (mkF m 9 #[.val (.int p0)] [(.int (9 : Int32)), (.int p0)])) t → Steps p.tables e below G0 t := by
      intro t kt
      refine K1 t ?_
      refine XS.icmpNo X0.here hx rfl (hb hby d1_3) rfl (feq hc2).1 ?_
      show Steps p.tables e below (s₁.setTop (mkF m 6 #[.val (.int p0)] [])) _
      refine XS.iloadN X0.here hx rfl (hb hby d1_6) rfl ?_
      show Steps p.tables e below (s₁.setTop (mkF m 7 #[.val (.int p0)] [(.int p0)])) _
      refine XS.bipush X0.here hx rfl (hb hby d1_7) ?_
      show Steps p.tables e below (s₁.setTop (mkF m 9 #[.val (.int p0)] [(.int (9 : Int32)), (.int p0)])) _
      exact kt
    by_cases hc5 : p0 = (9 : Int32)
    ·
      have K6 : ∀ t, Steps p.tables e below (s₁.setTop (mkF m 29 #[.val (.int p0)] [(.int (1 : Int32))])) t → Steps p.tables e below G0 t := by
        intro t kt
        refine K4 t ?_
        refine XS.icmpYes X0.here hx rfl (pc0 := 9) (pc' := 24) rfl (hb hby d1_9) rfl (teq hc5).1 (by decide) (by decide) ?_
        show Steps p.tables e below (s₁.setTop (mkF m 24 #[.val (.int p0)] [])) _
        refine XS.iconst X0.here hx rfl (hb hby d1_24) ?_
        show Steps p.tables e below (s₁.setTop (mkF m 25 #[.val (.int p0)] [(.int (1 : Int32))])) _
        refine XS.goto X0.here hx rfl (pc0 := 25) (pc' := 29) rfl (hb hby d1_25) (by decide) (by decide) ?_
        show Steps p.tables e below (s₁.setTop (mkF m 29 #[.val (.int p0)] [(.int (1 : Int32))])) _
        exact kt
      obtain ⟨fs, hr, hrun, hended, hW, hsame⟩ := X0.leave (v := some (.int (1 : Int32))) (fun h => by rw [Bd.returns] at h; cases h)
      refine ⟨_, _, ?_, hrun, hended, _, _, rfl, ?_, ⟨_, rfl⟩, hW, hsame.mono (by decide) (by decide)⟩
      · rw [← hG0]
        refine K6 _ ?_
        exact retN X0 hx (t := .boolean) Bd.returns (by simp) (hb hby d1_29) hr
      · show Q1 Z p0 h0 n0 _ s₁.heap _
        rw [e0]
        exact ⟨by rw [own_isB, if_neg hc2, if_pos hc5], N0, rfl⟩
    ·
      have K7 : ∀ t, Steps p.tables e below (s₁.setTop (mkF m 15 #[.val (.int p0)] [(.int (11 : Int32)), (.int p0)])) t → Steps p.tables e below G0 t := by
        intro t kt
        refine K4 t ?_
        refine XS.icmpNo X0.here hx rfl (hb hby d1_9) rfl (feq hc5).1 ?_
        show Steps p.tables e below (s₁.setTop (mkF m 12 #[.val (.int p0)] [])) _
        refine XS.iloadN X0.here hx rfl (hb hby d1_12) rfl ?_
        show Steps p.tables e below (s₁.setTop (mkF m 13 #[.val (.int p0)] [(.int p0)])) _
        refine XS.bipush X0.here hx rfl (hb hby d1_13) ?_
        show Steps p.tables e below (s₁.setTop (mkF m 15 #[.val (.int p0)] [(.int (11 : Int32)), (.int p0)])) _
        exact kt
      by_cases hc8 : p0 = (11 : Int32)
      ·
        have K9 : ∀ t, Steps p.tables e below (s₁.setTop (mkF m 29 #[.val (.int p0)] [(.int (1 : Int32))])) t → Steps p.tables e below G0 t := by
          intro t kt
          refine K7 t ?_
          refine XS.icmpYes X0.here hx rfl (pc0 := 15) (pc' := 24) rfl (hb hby d1_15) rfl (teq hc8).1 (by decide) (by decide) ?_
          show Steps p.tables e below (s₁.setTop (mkF m 24 #[.val (.int p0)] [])) _
          refine XS.iconst X0.here hx rfl (hb hby d1_24) ?_
          show Steps p.tables e below (s₁.setTop (mkF m 25 #[.val (.int p0)] [(.int (1 : Int32))])) _
          refine XS.goto X0.here hx rfl (pc0 := 25) (pc' := 29) rfl (hb hby d1_25) (by decide) (by decide) ?_
          show Steps p.tables e below (s₁.setTop (mkF m 29 #[.val (.int p0)] [(.int (1 : Int32))])) _
          exact kt
        obtain ⟨fs, hr, hrun, hended, hW, hsame⟩ := X0.leave (v := some (.int (1 : Int32))) (fun h => by rw [Bd.returns] at h; cases h)
        refine ⟨_, _, ?_, hrun, hended, _, _, rfl, ?_, ⟨_, rfl⟩, hW, hsame.mono (by decide) (by decide)⟩
        · rw [← hG0]
          refine K9 _ ?_
          exact retN X0 hx (t := .boolean) Bd.returns (by simp) (hb hby d1_29) hr
        · show Q1 Z p0 h0 n0 _ s₁.heap _
          rw [e0]
          exact ⟨by rw [own_isB, if_neg hc2, if_neg hc5, if_pos hc8], N0, rfl⟩
      ·
        have K10 : ∀ t, Steps p.tables e below (s₁.setTop (mkF m 21 #[.val (.int p0)] [(.int (12 : Int32)), (.int p0)])) t → Steps p.tables e below G0 t := by
          intro t kt
          refine K7 t ?_
          refine XS.icmpNo X0.here hx rfl (hb hby d1_15) rfl (feq hc8).1 ?_
          show Steps p.tables e below (s₁.setTop (mkF m 18 #[.val (.int p0)] [])) _
          refine XS.iloadN X0.here hx rfl (hb hby d1_18) rfl ?_
          show Steps p.tables e below (s₁.setTop (mkF m 19 #[.val (.int p0)] [(.int p0)])) _
          refine XS.bipush X0.here hx rfl (hb hby d1_19) ?_
          show Steps p.tables e below (s₁.setTop (mkF m 21 #[.val (.int p0)] [(.int (12 : Int32)), (.int p0)])) _
          exact kt
        by_cases hc11 : p0 = (12 : Int32)
        ·
          have K12 : ∀ t, Steps p.tables e below (s₁.setTop (mkF m 29 #[.val (.int p0)] [(.int (1 : Int32))])) t → Steps p.tables e below G0 t := by
            intro t kt
            refine K10 t ?_
            refine XS.icmpNo X0.here hx rfl (hb hby d1_21) rfl (teq hc11).2 ?_
            show Steps p.tables e below (s₁.setTop (mkF m 24 #[.val (.int p0)] [])) _
            refine XS.iconst X0.here hx rfl (hb hby d1_24) ?_
            show Steps p.tables e below (s₁.setTop (mkF m 25 #[.val (.int p0)] [(.int (1 : Int32))])) _
            refine XS.goto X0.here hx rfl (pc0 := 25) (pc' := 29) rfl (hb hby d1_25) (by decide) (by decide) ?_
            show Steps p.tables e below (s₁.setTop (mkF m 29 #[.val (.int p0)] [(.int (1 : Int32))])) _
            exact kt
          obtain ⟨fs, hr, hrun, hended, hW, hsame⟩ := X0.leave (v := some (.int (1 : Int32))) (fun h => by rw [Bd.returns] at h; cases h)
          refine ⟨_, _, ?_, hrun, hended, _, _, rfl, ?_, ⟨_, rfl⟩, hW, hsame.mono (by decide) (by decide)⟩
          · rw [← hG0]
            refine K12 _ ?_
            exact retN X0 hx (t := .boolean) Bd.returns (by simp) (hb hby d1_29) hr
          · show Q1 Z p0 h0 n0 _ s₁.heap _
            rw [e0]
            exact ⟨by rw [own_isB, if_neg hc2, if_neg hc5, if_neg hc8, if_pos hc11], N0, rfl⟩
        ·
          have K13 : ∀ t, Steps p.tables e below (s₁.setTop (mkF m 29 #[.val (.int p0)] [(.int (0 : Int32))])) t → Steps p.tables e below G0 t := by
            intro t kt
            refine K10 t ?_
            refine XS.icmpYes X0.here hx rfl (pc0 := 21) (pc' := 28) rfl (hb hby d1_21) rfl (feq hc11).2 (by decide) (by decide) ?_
            show Steps p.tables e below (s₁.setTop (mkF m 28 #[.val (.int p0)] [])) _
            refine XS.iconst X0.here hx rfl (hb hby d1_28) ?_
            show Steps p.tables e below (s₁.setTop (mkF m 29 #[.val (.int p0)] [(.int (0 : Int32))])) _
            exact kt
          obtain ⟨fs, hr, hrun, hended, hW, hsame⟩ := X0.leave (v := some (.int (0 : Int32))) (fun h => by rw [Bd.returns] at h; cases h)
          refine ⟨_, _, ?_, hrun, hended, _, _, rfl, ?_, ⟨_, rfl⟩, hW, hsame.mono (by decide) (by decide)⟩
          · rw [← hG0]
            refine K13 _ ?_
            exact retN X0 hx (t := .boolean) Bd.returns (by simp) (hb hby d1_29) hr
          · show Q1 Z p0 h0 n0 _ s₁.heap _
            rw [e0]
            exact ⟨by rw [own_isB, if_neg hc2, if_neg hc5, if_neg hc8, if_neg hc11], N0, rfl⟩
theorem pn_com_example_sondage_sondage_topology_RecordReaderIsBlankPinLaw : plainName "com/example/sondage/sondage/topology/RecordReaderIsBlankPinLaw" = true := by first | (simp [plainName, overriddenIn]; done) | decide +kernel
theorem pd_PCQZ : parseMethodDescriptor "(C)Z" = some ⟨[.char], some .boolean⟩ := by decide +kernel
theorem ef_rm0 (m : MethodId) (p0 : Int32) (p1 : Int32) : entryFrame m #[(.int p0), (.int p1)] maxLocals = (mkF m 0 #[.val (.int p0), .val (.int p1), .unset, .unset, .unset] []) := by first | (simp [entryFrame, mkF, argsToLocals, Value.category, maxLocals]; done) | rfl
def Q0 (Z : State) (p0 : Int32) (p1 : Int32) (h0 : Heap) (n0 : Nat) (v : Option Value) (h : Heap) (L : List Loc) : Prop := v = some (.int 1) ∧ Fr n0 L
set_option maxRecDepth 65536 in
set_option maxHeartbeats 40000000 in
theorem rm0 (l : Launch) (Z : State) (aa : Array Value) (hw : ∀ d ∈ tables_1, d.before aa Z = true) (ws : List Jvm.Cond) (p0 : Int32) (p1 : Int32) (h0 : Heap) (n0 : Nat) (Z0 : n0 ≤ h0.size) :
    MetFree l x (head1 (Jvm.Cond.code x code maxLocals ret :: ws) room_1) (fun a U => a = #[(.int p0), (.int p1)] ∧ Z.Warmed39 U.vm ∧ U.heap = h0) (fun _ _ _ _ _ => True) (fun _ U o U' => ∃ v L, o = .returned v ∧ Q0 Z p0 p1 h0 n0 v U'.heap L ∧ FrameEnd U o U' L room_1.cells room_1.slots) := by
  refine MetFree.of_bodySF (plainFor_of_name pn_com_example_sondage_sondage_topology_RecordReaderIsBlankPinLaw) hisR ?_
  intro p e s m args below meth c s₁ Bd hml0 hP hK
  obtain ⟨rfl, hZ, hh⟩ := hP
  have hx := Bd.exec
  have hby := Bd.bytes
  have hml : c.maxLocals = 5 := hml0
  have hown : s.vm.findClass "com/example/sondage/sondage/topology/RecordReaderIsBlankPinLaw" = some m.cls := findClass_of_methodNamed Bd.named
  have hnm := (name_of_methodNamed Bd.named Bd.method).1
  have X0 : Stand p l e room_1 s m #[(.int p0), (.int p1)] below meth c s₁ [] 0 0 := Stand.of_body Bd
  have e0 : s₁.heap = h0 := by rw [← hh, Bd.state]; rfl
  have N0 := Fr.nil n0
  obtain ⟨G0, hG0⟩ : ∃ G, G = s₁.setTop (entryFrame m #[(.int p0), (.int p1)] maxLocals) := ⟨_, rfl⟩
  have K0 : ∀ t, Steps p.tables e below (s₁.setTop (mkF m 0 #[.val (.int p0), .val (.int p1), .unset, .unset, .unset] [])) t → Steps p.tables e below G0 t := fun t k => by rw [hG0]; exact castTop (ef_rm0 m p0 p1) k
  have K1 : ∀ t, Steps p.tables e below (s₁.setTop (mkF m 3 #[.val (.int p0), .val (.int p1), .unset, .unset, .unset] [(.int (p1 &&& (3 : Int32)))])) t → Steps p.tables e below G0 t := by
    intro t kt
    refine K0 t ?_
    refine XS.iloadN X0.here hx rfl (hb hby at_0) rfl ?_
    show Steps p.tables e below (s₁.setTop (mkF m 1 #[.val (.int p0), .val (.int p1), .unset, .unset, .unset] [(.int p1)])) _
    refine XS.iconst X0.here hx rfl (hb hby at_1) ?_
    show Steps p.tables e below (s₁.setTop (mkF m 2 #[.val (.int p0), .val (.int p1), .unset, .unset, .unset] [(.int (3 : Int32)), (.int p1)])) _
    refine XS.iand X0.here hx rfl (hb hby at_2) rfl ?_
    show Steps p.tables e below (s₁.setTop (mkF m 3 #[.val (.int p0), .val (.int p1), .unset, .unset, .unset] [(.int (p1 &&& (3 : Int32)))])) _
    exact kt
  have K2 : ∀ t, Steps p.tables e below (s₁.setTop (mkF m 21 #[.val (.int p0), .val (.int p1), .val (.int (own_ch p0 p1)), .unset, .unset] [])) t → Steps p.tables e below G0 t := by
    by_cases hc3 : (p1 &&& (3 : Int32)) = (0 : Int32)
    ·
      have K4 : ∀ t, Steps p.tables e below (s₁.setTop (mkF m 21 #[.val (.int p0), .val (.int p1), .val (.int ((p0 &&& (63 : Int32)).toUInt32.toUInt16.toUInt32.toInt32)), .unset, .unset] [])) t → Steps p.tables e below G0 t := by
        intro t kt
        refine K1 t ?_
        refine XS.ifNo X0.here hx rfl (hb hby at_3) rfl ((if0 _ _).trans (teq hc3).2) ?_
        show Steps p.tables e below (s₁.setTop (mkF m 6 #[.val (.int p0), .val (.int p1), .unset, .unset, .unset] [])) _
        refine XS.iloadN X0.here hx rfl (hb hby at_6) rfl ?_
        show Steps p.tables e below (s₁.setTop (mkF m 7 #[.val (.int p0), .val (.int p1), .unset, .unset, .unset] [(.int p0)])) _
        refine XS.bipush X0.here hx rfl (hb hby at_7) ?_
        show Steps p.tables e below (s₁.setTop (mkF m 9 #[.val (.int p0), .val (.int p1), .unset, .unset, .unset] [(.int (63 : Int32)), (.int p0)])) _
        refine XS.iand X0.here hx rfl (hb hby at_9) rfl ?_
        show Steps p.tables e below (s₁.setTop (mkF m 10 #[.val (.int p0), .val (.int p1), .unset, .unset, .unset] [(.int (p0 &&& (63 : Int32)))])) _
        refine XS.i2c X0.here hx rfl (hb hby at_10) rfl ?_
        show Steps p.tables e below (s₁.setTop (mkF m 11 #[.val (.int p0), .val (.int p1), .unset, .unset, .unset] [(.int ((p0 &&& (63 : Int32)).toUInt32.toUInt16.toUInt32.toInt32))])) _
        refine XS.istoreN X0.here hx rfl (hb hby at_11) rfl (l' := #[.val (.int p0), .val (.int p1), .val (.int ((p0 &&& (63 : Int32)).toUInt32.toUInt16.toUInt32.toInt32)), .unset, .unset]) rfl ?_
        show Steps p.tables e below (s₁.setTop (mkF m 12 #[.val (.int p0), .val (.int p1), .val (.int ((p0 &&& (63 : Int32)).toUInt32.toUInt16.toUInt32.toInt32)), .unset, .unset] [])) _
        refine XS.goto X0.here hx rfl (pc0 := 12) (pc' := 21) rfl (hb hby at_12) (by decide) (by decide) ?_
        show Steps p.tables e below (s₁.setTop (mkF m 21 #[.val (.int p0), .val (.int p1), .val (.int ((p0 &&& (63 : Int32)).toUInt32.toUInt16.toUInt32.toInt32)), .unset, .unset] [])) _
        exact kt
      unfold own_ch
      rw [if_pos hc3]
      exact K4
    ·
      have K5 : ∀ t, Steps p.tables e below (s₁.setTop (mkF m 21 #[.val (.int p0), .val (.int p1), .val (.int ((p0 &&& (65535 : Int32)).toUInt32.toUInt16.toUInt32.toInt32)), .unset, .unset] [])) t → Steps p.tables e below G0 t := by
        intro t kt
        refine K1 t ?_
        refine XS.ifYes X0.here hx rfl (pc0 := 3) (pc' := 15) rfl (hb hby at_3) rfl ((if0 _ _).trans (feq hc3).2) (by decide) (by decide) ?_
        show Steps p.tables e below (s₁.setTop (mkF m 15 #[.val (.int p0), .val (.int p1), .unset, .unset, .unset] [])) _
        refine XS.iloadN X0.here hx rfl (hb hby at_15) rfl ?_
        show Steps p.tables e below (s₁.setTop (mkF m 16 #[.val (.int p0), .val (.int p1), .unset, .unset, .unset] [(.int p0)])) _
        refine X0.ldcInt hx hown (mvT hZ (hw _ (List.mem_of_getElem? (i := 0) rfl))) (g := (mkF m 16 #[.val (.int p0), .val (.int p1), .unset, .unset, .unset] [(.int p0)])) rfl (hb hby at_16) _ ?_
        show Steps p.tables e below (s₁.setTop (mkF m 18 #[.val (.int p0), .val (.int p1), .unset, .unset, .unset] [(.int (65535 : Int32)), (.int p0)])) _
        refine XS.iand X0.here hx rfl (hb hby at_18) rfl ?_
        show Steps p.tables e below (s₁.setTop (mkF m 19 #[.val (.int p0), .val (.int p1), .unset, .unset, .unset] [(.int (p0 &&& (65535 : Int32)))])) _
        refine XS.i2c X0.here hx rfl (hb hby at_19) rfl ?_
        show Steps p.tables e below (s₁.setTop (mkF m 20 #[.val (.int p0), .val (.int p1), .unset, .unset, .unset] [(.int ((p0 &&& (65535 : Int32)).toUInt32.toUInt16.toUInt32.toInt32))])) _
        refine XS.istoreN X0.here hx rfl (hb hby at_20) rfl (l' := #[.val (.int p0), .val (.int p1), .val (.int ((p0 &&& (65535 : Int32)).toUInt32.toUInt16.toUInt32.toInt32)), .unset, .unset]) rfl ?_
        show Steps p.tables e below (s₁.setTop (mkF m 21 #[.val (.int p0), .val (.int p1), .val (.int ((p0 &&& (65535 : Int32)).toUInt32.toUInt16.toUInt32.toInt32)), .unset, .unset] [])) _
        exact kt
      unfold own_ch
      rw [if_neg hc3]
      exact K5
  generalize own_ch p0 p1 = cc at *
  have K6 : ∀ t, Steps p.tables e below (s₁.setTop (mkF m 23 #[.val (.int p0), .val (.int p1), .val (.int cc), .val (.int cc), .unset] [])) t → Steps p.tables e below G0 t := by
    intro t kt
    refine K2 t ?_
    refine XS.iloadN X0.here hx rfl (hb hby at_21) rfl ?_
    show Steps p.tables e below (s₁.setTop (mkF m 22 #[.val (.int p0), .val (.int p1), .val (.int cc), .unset, .unset] [(.int cc)])) _
    refine XS.istoreN X0.here hx rfl (hb hby at_22) rfl (l' := #[.val (.int p0), .val (.int p1), .val (.int cc), .val (.int cc), .unset]) rfl ?_
    show Steps p.tables e below (s₁.setTop (mkF m 23 #[.val (.int p0), .val (.int p1), .val (.int cc), .val (.int cc), .unset] [])) _
    exact kt
  have K7 : ∀ t, Steps p.tables e below (s₁.setTop (mkF m 66 #[.val (.int p0), .val (.int p1), .val (.int cc), .val (.int cc), .val (.int (own_ex cc))] [])) t → Steps p.tables e below G0 t := by
    have K8 : ∀ t, Steps p.tables e below (s₁.setTop (mkF m 26 #[.val (.int p0), .val (.int p1), .val (.int cc), .val (.int cc), .unset] [(.int (32 : Int32)), (.int cc)])) t → Steps p.tables e below G0 t := by
      intro t kt
      refine K6 t ?_
      refine XS.iloadN X0.here hx rfl (hb hby at_23) rfl ?_
      show Steps p.tables e below (s₁.setTop (mkF m 24 #[.val (.int p0), .val (.int p1), .val (.int cc), .val (.int cc), .unset] [(.int cc)])) _
      refine XS.bipush X0.here hx rfl (hb hby at_24) ?_
      show Steps p.tables e below (s₁.setTop (mkF m 26 #[.val (.int p0), .val (.int p1), .val (.int cc), .val (.int cc), .unset] [(.int (32 : Int32)), (.int cc)])) _
      exact kt
    by_cases hc9 : cc = (32 : Int32)
    ·
      have K10 : ∀ t, Steps p.tables e below (s₁.setTop (mkF m 66 #[.val (.int p0), .val (.int p1), .val (.int cc), .val (.int cc), .val (.int (1 : Int32))] [])) t → Steps p.tables e below G0 t := by
        intro t kt
        refine K8 t ?_
        refine XS.icmpNo X0.here hx rfl (hb hby at_26) rfl (teq hc9).2 ?_
        show Steps p.tables e below (s₁.setTop (mkF m 29 #[.val (.int p0), .val (.int p1), .val (.int cc), .val (.int cc), .unset] [])) _
        refine XS.iconst X0.here hx rfl (hb hby at_29) ?_
        show Steps p.tables e below (s₁.setTop (mkF m 30 #[.val (.int p0), .val (.int p1), .val (.int cc), .val (.int cc), .unset] [(.int (1 : Int32))])) _
        refine XS.istore X0.here hx rfl (hb hby at_30) rfl (l' := #[.val (.int p0), .val (.int p1), .val (.int cc), .val (.int cc), .val (.int (1 : Int32))]) rfl ?_
        show Steps p.tables e below (s₁.setTop (mkF m 32 #[.val (.int p0), .val (.int p1), .val (.int cc), .val (.int cc), .val (.int (1 : Int32))] [])) _
        refine XS.goto X0.here hx rfl (pc0 := 32) (pc' := 66) rfl (hb hby at_32) (by decide) (by decide) ?_
        show Steps p.tables e below (s₁.setTop (mkF m 66 #[.val (.int p0), .val (.int p1), .val (.int cc), .val (.int cc), .val (.int (1 : Int32))] [])) _
        exact kt
      have hq : own_ex cc = (1 : Int32) := by
        rw [own_ex, if_pos hc9]
      rw [hq]
      exact K10
    ·
      have K11 : ∀ t, Steps p.tables e below (s₁.setTop (mkF m 38 #[.val (.int p0), .val (.int p1), .val (.int cc), .val (.int cc), .unset] [(.int (9 : Int32)), (.int cc)])) t → Steps p.tables e below G0 t := by
        intro t kt
        refine K8 t ?_
        refine XS.icmpYes X0.here hx rfl (pc0 := 26) (pc' := 35) rfl (hb hby at_26) rfl (feq hc9).2 (by decide) (by decide) ?_
        show Steps p.tables e below (s₁.setTop (mkF m 35 #[.val (.int p0), .val (.int p1), .val (.int cc), .val (.int cc), .unset] [])) _
        refine XS.iloadN X0.here hx rfl (hb hby at_35) rfl ?_
        show Steps p.tables e below (s₁.setTop (mkF m 36 #[.val (.int p0), .val (.int p1), .val (.int cc), .val (.int cc), .unset] [(.int cc)])) _
        refine XS.bipush X0.here hx rfl (hb hby at_36) ?_
        show Steps p.tables e below (s₁.setTop (mkF m 38 #[.val (.int p0), .val (.int p1), .val (.int cc), .val (.int cc), .unset] [(.int (9 : Int32)), (.int cc)])) _
        exact kt
      by_cases hc12 : cc < (9 : Int32)
      ·
        have K13 : ∀ t, Steps p.tables e below (s₁.setTop (mkF m 66 #[.val (.int p0), .val (.int p1), .val (.int cc), .val (.int cc), .val (.int (0 : Int32))] [])) t → Steps p.tables e below G0 t := by
          intro t kt
          refine K11 t ?_
          refine XS.icmpYes X0.here hx rfl (pc0 := 38) (pc' := 63) rfl (hb hby at_38) rfl (tlt hc12).1 (by decide) (by decide) ?_
          show Steps p.tables e below (s₁.setTop (mkF m 63 #[.val (.int p0), .val (.int p1), .val (.int cc), .val (.int cc), .unset] [])) _
          refine XS.iconst X0.here hx rfl (hb hby at_63) ?_
          show Steps p.tables e below (s₁.setTop (mkF m 64 #[.val (.int p0), .val (.int p1), .val (.int cc), .val (.int cc), .unset] [(.int (0 : Int32))])) _
          refine XS.istore X0.here hx rfl (hb hby at_64) rfl (l' := #[.val (.int p0), .val (.int p1), .val (.int cc), .val (.int cc), .val (.int (0 : Int32))]) rfl ?_
          show Steps p.tables e below (s₁.setTop (mkF m 66 #[.val (.int p0), .val (.int p1), .val (.int cc), .val (.int cc), .val (.int (0 : Int32))] [])) _
          exact kt
        have hq : own_ex cc = (0 : Int32) := by
          rw [own_ex, if_neg hc9, if_pos hc12]
        rw [hq]
        exact K13
      ·
        have K14 : ∀ t, Steps p.tables e below (s₁.setTop (mkF m 44 #[.val (.int p0), .val (.int p1), .val (.int cc), .val (.int cc), .unset] [(.int (12 : Int32)), (.int cc)])) t → Steps p.tables e below G0 t := by
          intro t kt
          refine K11 t ?_
          refine XS.icmpNo X0.here hx rfl (hb hby at_38) rfl (flt hc12).1 ?_
          show Steps p.tables e below (s₁.setTop (mkF m 41 #[.val (.int p0), .val (.int p1), .val (.int cc), .val (.int cc), .unset] [])) _
          refine XS.iloadN X0.here hx rfl (hb hby at_41) rfl ?_
          show Steps p.tables e below (s₁.setTop (mkF m 42 #[.val (.int p0), .val (.int p1), .val (.int cc), .val (.int cc), .unset] [(.int cc)])) _
          refine XS.bipush X0.here hx rfl (hb hby at_42) ?_
          show Steps p.tables e below (s₁.setTop (mkF m 44 #[.val (.int p0), .val (.int p1), .val (.int cc), .val (.int cc), .unset] [(.int (12 : Int32)), (.int cc)])) _
          exact kt
        by_cases hc15 : (12 : Int32) < cc
        ·
          have K16 : ∀ t, Steps p.tables e below (s₁.setTop (mkF m 66 #[.val (.int p0), .val (.int p1), .val (.int cc), .val (.int cc), .val (.int (0 : Int32))] [])) t → Steps p.tables e below G0 t := by
            intro t kt
            refine K14 t ?_
            refine XS.icmpYes X0.here hx rfl (pc0 := 44) (pc' := 63) rfl (hb hby at_44) rfl (tlt hc15).2.2.1 (by decide) (by decide) ?_
            show Steps p.tables e below (s₁.setTop (mkF m 63 #[.val (.int p0), .val (.int p1), .val (.int cc), .val (.int cc), .unset] [])) _
            refine XS.iconst X0.here hx rfl (hb hby at_63) ?_
            show Steps p.tables e below (s₁.setTop (mkF m 64 #[.val (.int p0), .val (.int p1), .val (.int cc), .val (.int cc), .unset] [(.int (0 : Int32))])) _
            refine XS.istore X0.here hx rfl (hb hby at_64) rfl (l' := #[.val (.int p0), .val (.int p1), .val (.int cc), .val (.int cc), .val (.int (0 : Int32))]) rfl ?_
            show Steps p.tables e below (s₁.setTop (mkF m 66 #[.val (.int p0), .val (.int p1), .val (.int cc), .val (.int cc), .val (.int (0 : Int32))] [])) _
            exact kt
          have hq : own_ex cc = (0 : Int32) := by
            rw [own_ex, if_neg hc9, if_neg hc12, if_pos hc15]
          rw [hq]
          exact K16
        ·
          have K17 : ∀ t, Steps p.tables e below (s₁.setTop (mkF m 50 #[.val (.int p0), .val (.int p1), .val (.int cc), .val (.int cc), .unset] [(.int (10 : Int32)), (.int cc)])) t → Steps p.tables e below G0 t := by
            intro t kt
            refine K14 t ?_
            refine XS.icmpNo X0.here hx rfl (hb hby at_44) rfl (flt hc15).2.2.1 ?_
            show Steps p.tables e below (s₁.setTop (mkF m 47 #[.val (.int p0), .val (.int p1), .val (.int cc), .val (.int cc), .unset] [])) _
            refine XS.iloadN X0.here hx rfl (hb hby at_47) rfl ?_
            show Steps p.tables e below (s₁.setTop (mkF m 48 #[.val (.int p0), .val (.int p1), .val (.int cc), .val (.int cc), .unset] [(.int cc)])) _
            refine XS.bipush X0.here hx rfl (hb hby at_48) ?_
            show Steps p.tables e below (s₁.setTop (mkF m 50 #[.val (.int p0), .val (.int p1), .val (.int cc), .val (.int cc), .unset] [(.int (10 : Int32)), (.int cc)])) _
            exact kt
          by_cases hc18 : cc = (10 : Int32)
          ·
            have K19 : ∀ t, Steps p.tables e below (s₁.setTop (mkF m 66 #[.val (.int p0), .val (.int p1), .val (.int cc), .val (.int cc), .val (.int (0 : Int32))] [])) t → Steps p.tables e below G0 t := by
              intro t kt
              refine K17 t ?_
              refine XS.icmpYes X0.here hx rfl (pc0 := 50) (pc' := 57) rfl (hb hby at_50) rfl (teq hc18).1 (by decide) (by decide) ?_
              show Steps p.tables e below (s₁.setTop (mkF m 57 #[.val (.int p0), .val (.int p1), .val (.int cc), .val (.int cc), .unset] [])) _
              refine XS.iconst X0.here hx rfl (hb hby at_57) ?_
              show Steps p.tables e below (s₁.setTop (mkF m 58 #[.val (.int p0), .val (.int p1), .val (.int cc), .val (.int cc), .unset] [(.int (0 : Int32))])) _
              refine XS.istore X0.here hx rfl (hb hby at_58) rfl (l' := #[.val (.int p0), .val (.int p1), .val (.int cc), .val (.int cc), .val (.int (0 : Int32))]) rfl ?_
              show Steps p.tables e below (s₁.setTop (mkF m 60 #[.val (.int p0), .val (.int p1), .val (.int cc), .val (.int cc), .val (.int (0 : Int32))] [])) _
              refine XS.goto X0.here hx rfl (pc0 := 60) (pc' := 66) rfl (hb hby at_60) (by decide) (by decide) ?_
              show Steps p.tables e below (s₁.setTop (mkF m 66 #[.val (.int p0), .val (.int p1), .val (.int cc), .val (.int cc), .val (.int (0 : Int32))] [])) _
              exact kt
            have hq : own_ex cc = (0 : Int32) := by
              rw [own_ex, if_neg hc9, if_neg hc12, if_neg hc15, if_pos hc18]
            rw [hq]
            exact K19
          ·
            have K20 : ∀ t, Steps p.tables e below (s₁.setTop (mkF m 66 #[.val (.int p0), .val (.int p1), .val (.int cc), .val (.int cc), .val (.int (1 : Int32))] [])) t → Steps p.tables e below G0 t := by
              intro t kt
              refine K17 t ?_
              refine XS.icmpNo X0.here hx rfl (hb hby at_50) rfl (feq hc18).1 ?_
              show Steps p.tables e below (s₁.setTop (mkF m 53 #[.val (.int p0), .val (.int p1), .val (.int cc), .val (.int cc), .unset] [])) _
              refine XS.iconst X0.here hx rfl (hb hby at_53) ?_
              show Steps p.tables e below (s₁.setTop (mkF m 54 #[.val (.int p0), .val (.int p1), .val (.int cc), .val (.int cc), .unset] [(.int (1 : Int32))])) _
              refine XS.goto X0.here hx rfl (pc0 := 54) (pc' := 58) rfl (hb hby at_54) (by decide) (by decide) ?_
              show Steps p.tables e below (s₁.setTop (mkF m 58 #[.val (.int p0), .val (.int p1), .val (.int cc), .val (.int cc), .unset] [(.int (1 : Int32))])) _
              refine XS.istore X0.here hx rfl (hb hby at_58) rfl (l' := #[.val (.int p0), .val (.int p1), .val (.int cc), .val (.int cc), .val (.int (1 : Int32))]) rfl ?_
              show Steps p.tables e below (s₁.setTop (mkF m 60 #[.val (.int p0), .val (.int p1), .val (.int cc), .val (.int cc), .val (.int (1 : Int32))] [])) _
              refine XS.goto X0.here hx rfl (pc0 := 60) (pc' := 66) rfl (hb hby at_60) (by decide) (by decide) ?_
              show Steps p.tables e below (s₁.setTop (mkF m 66 #[.val (.int p0), .val (.int p1), .val (.int cc), .val (.int cc), .val (.int (1 : Int32))] [])) _
              exact kt
            have hq : own_ex cc = (1 : Int32) := by
              rw [own_ex, if_neg hc9, if_neg hc12, if_neg hc15, if_neg hc18]
            rw [hq]
            exact K20
  have K21 : ∀ t, Steps p.tables e below (s₁.setTop (mkF m 67 #[.val (.int p0), .val (.int p1), .val (.int cc), .val (.int cc), .val (.int (own_ex cc))] [(.int cc)])) t → Steps p.tables e below G0 t := by
    intro t kt
    refine K7 t ?_
    refine XS.iloadN X0.here hx rfl (hb hby at_66) rfl ?_
    show Steps p.tables e below (s₁.setTop (mkF m 67 #[.val (.int p0), .val (.int p1), .val (.int cc), .val (.int cc), .val (.int (own_ex cc))] [(.int cc)])) _
    exact kt
  obtain ⟨_, _, ⟨T22, L22, k22, n22⟩, -, X22, ⟨Lc22, hQ22, l22, y22, z22⟩, st22⟩ := Jvm.LawKit.callS X0 hx (y := (⟨"com/example/sondage/sondage/topology/RecordReader", "isBlank", "(C)Z"⟩ : MethodName)) hown (mvT hZ (hw _ (List.mem_of_getElem? (i := 1) rfl))) (mvT hZ (hw _ (List.mem_of_getElem? (i := 2) rfl))) (mvT hZ (hw _ (List.mem_of_getElem? (i := 3) rfl))) (mvT hZ (hw _ (List.mem_of_getElem? (i := 4) rfl))) (by decide) (backOf (W := 0) (rm1 l Z aa hw [] (cc)  h0 n0 Z0 ) hZ (hw _ (List.mem_of_getElem? (i := 4) rfl)) (hw _ (List.mem_of_getElem? (i := 3) rfl)) (by decide) (by decide)) (g := (mkF m 67 #[.val (.int p0), .val (.int p1), .val (.int cc), .val (.int cc), .val (.int (own_ex cc))] [(.int cc)])) rfl (by rw [hml]; rfl) (argsL := [(.int cc)]) (rest := []) (lenOf pd_PCQZ rfl) rfl (by show 2 * 0 + _ ≤ _; exact Nat.le_of_eq rfl) (hb hby at_67) (fun _ _ => ⟨rfl, e0, (by decide : 0 + 0 ≤ _), (by decide : 0 + 0 ≤ _)⟩)
  dsimp only [Pt.U, Pt.locs, Pt.cells, Pt.slots] at X22 l22 y22 z22 st22 hQ22
  subst l22 y22 z22
  obtain ⟨rfl, N22q, e22⟩ := hQ22
  have N22 := Fr.app N0 N22q
  have K22 : ∀ t, Steps p.tables e below (T22.setTop (mkF m 70 #[.val (.int p0), .val (.int p1), .val (.int cc), .val (.int cc), .val (.int (own_ex cc))] [(.int (own_isB cc))])) t → Steps p.tables e below G0 t := fun t kt => K21 t (st22 _ kt)
  have K23 : ∀ t, Steps p.tables e below (T22.setTop (mkF m 80 #[.val (.int p0), .val (.int p1), .val (.int cc), .val (.int cc), .val (.int (own_ex cc))] [(.int (1 : Int32))])) t → Steps p.tables e below G0 t := by
    intro t kt
    refine K22 t ?_
    refine XS.iload X22.here hx rfl (hb hby at_70) rfl ?_
    show Steps p.tables e below (T22.setTop (mkF m 72 #[.val (.int p0), .val (.int p1), .val (.int cc), .val (.int cc), .val (.int (own_ex cc))] [(.int (own_ex cc)), (.int (own_isB cc))])) _
    refine XS.icmpNo X22.here hx rfl (hb hby at_72) rfl (teq (own_same cc)).2 ?_
    show Steps p.tables e below (T22.setTop (mkF m 75 #[.val (.int p0), .val (.int p1), .val (.int cc), .val (.int cc), .val (.int (own_ex cc))] [])) _
    refine XS.iconst X22.here hx rfl (hb hby at_75) ?_
    show Steps p.tables e below (T22.setTop (mkF m 76 #[.val (.int p0), .val (.int p1), .val (.int cc), .val (.int cc), .val (.int (own_ex cc))] [(.int (1 : Int32))])) _
    refine XS.goto X22.here hx rfl (pc0 := 76) (pc' := 80) rfl (hb hby at_76) (by decide) (by decide) ?_
    show Steps p.tables e below (T22.setTop (mkF m 80 #[.val (.int p0), .val (.int p1), .val (.int cc), .val (.int cc), .val (.int (own_ex cc))] [(.int (1 : Int32))])) _
    exact kt
  obtain ⟨fs, hr, hrun, hended, hW, hsame⟩ := X22.leave (v := some (.int (1 : Int32))) (fun h => by rw [Bd.returns] at h; cases h)
  refine ⟨_, _, ?_, hrun, hended, _, _, rfl, ?_, ⟨_, rfl⟩, hW, hsame.mono (by decide) (by decide)⟩
  · rw [← hG0]
    refine K23 _ ?_
    exact retN X22 hx (t := .boolean) Bd.returns (by simp) (hb hby at_80) hr
  · show Q0 Z p0 p1 h0 n0 _ T22.heap _
    rw [e22]
    exact ⟨rfl, N22⟩
set_option maxRecDepth 65536 in
set_option maxHeartbeats 40000000 in
theorem comes_1 {Post : Tables → Env → Array Value → State → Outcome → State → Prop} (hpost : ∀ tb e args s v u, (limb_1_1.after args s (.returned v) u = true ∧ limb_1_2.after args s (.returned v) u = true ∧ True) → FrameEnd s (.returned v) u (Jvm.fieldLocs frame_1_writes args s ++ Jvm.arrayLocs frame_1_arrays args s ++ Jvm.staticLocs frame_1_statics s) 0 0 → Post tb e args s (.returned v) u) :
    ArmFor flags0 classFile x code maxLocals ret World_1 tables_1 room_1 Calls_1 rest_1 Pre_1 Post := by
  intro l hfl _ _ p e ha hc hk s m args below hf hA hF happ hP
  obtain ⟨hcalls, hrest, hpre⟩ := hP
  obtain ⟨-, -, -, hnamed, -, -, -, hat⟩ := (Spec.applies_iff hf).mp happ
  obtain ⟨hg, hn⟩ := and_e (Cond.before_iff.mp (show (Jvm.Cond.and given_1 narrow_1).before args s = true from hpre))
  obtain ⟨g1, g2⟩ := and_e hg
  obtain ⟨g3, g4⟩ := and_e g2
  obtain ⟨w0, w1, rfl⟩ : ∃ w0 w1 : Value, args = #[w0, w1] := by
    have hs : args.size = 2 := by simpa [Cond.value, given_1] using g1
    obtain ⟨L⟩ := args
    match L, hs with
    | [w0, w1], _ => exact ⟨w0, w1, rfl⟩
  have hw := fun d (hd : d ∈ tables_1) => atoms_spec (ws := Jvm.Cond.code x code maxLocals ret :: tables_1) hat d (List.mem_cons_of_mem _ hd)
  have hfit : Fit s := fun {y c} hc i hi => by
    obtain ⟨ha, rfl⟩ := Array.getElem?_eq_some_iff.mp hc
    have q := List.all_eq_true.mp ((Array.all_eq_true_iff_forall_mem.mp hF) _ (Array.getElem_mem ha)) i (List.mem_range.mpr hi)
    simpa [Array.getElem?_eq_getElem hi] using q
  obtain ⟨i0, ei0⟩ := is_v g3
  obtain rfl : w0 = (.int i0) := Option.some.inj ei0
  obtain ⟨i1, ei1⟩ := is_v g4
  obtain rfl : w1 = (.int i1) := Option.some.inj ei1
  obtain ⟨n, o, h1, h2, h3, _, L, rfl, ⟨rfl, N⟩, hq⟩ := rm0 l s _ hw tables_1 i0 i1  s.heap s.heap.size (Nat.le_refl _)  p e ha hc hk s m _ below hf ((Spec.applies_iff_loose hf).mp happ).1 ⟨rfl, State.Warmed39.refl s, rfl⟩ trivial
  refine ⟨n, _, h1, h2, h3, hpost _ _ _ _ _ _ ⟨Cond.after_iff.mpr rfl, Cond.after_iff.mpr (eq_i res_at (Term.int_eval (1)) rfl), trivial⟩ ⟨hq.1, hq.2.1, (hq.2.2.sift fun y hy => Or.inr (N y hy)).mono (by decide) (by decide)⟩⟩
theorem main_1_1 : Claimed_1_1 := comes_1 fun _ _ _ _ _ _ h hF => ⟨h.1, hF⟩
theorem main_1_2 : Claimed_1_2 := comes_1 fun _ _ _ _ _ _ h hF => ⟨h.2.1, hF⟩
end Jvm.Pilot.@@N@@
namespace Jvm.Pilot.@@N@@
open Jvm Jvm.ClassFile Sem Op Lib Jvm.Free Jvm.Stand Jvm.Pilot.@@N@@.Jvm.D
/-! MADE BY PROGRAM (witnessworld.py) out of the Statement's table words and the real class files: 10 classes; the members and pool entries that the words name. The judged class is class 1, her method 1. -/
namespace start1
open Jvm.ClassFile
def u (s : String) : CpInfo := .utf8 (stringToUtf16 s)
/-- a pool by its gaps: so many unusable entries, then the entry; so many at the end -/
def gap : Nat → List CpInfo → List CpInfo
  | 0, r => r
  | n + 1, r => .unusable :: gap n r
def poolList (es : List (Nat × CpInfo)) (last : Nat) : List CpInfo := es.foldr (fun e r => gap e.1 (e.2 :: r)) (gap last [])
def pool (es : List (Nat × CpInfo)) (last : Nat) : Array CpInfo := ⟨poolList es last⟩
def fileOf (pool : Array CpInfo) (this : Nat) (attrs : Array Attribute := #[]) (ms : Array MethodInfo := #[]) (fl : Nat := 33) (sup : Nat := 0) (ifs : Array Nat := #[]) (fds : Array FieldInfo := #[]) : ClassFile where
  minorVersion := 0
  majorVersion := 65
  constantPool := pool
  accessFlags := fl
  thisClass := this
  superClass := sup
  interfaces := ifs
  fields := fds
  methods := ms
  attributes := attrs
def plain (name : String) (sup : Option ClassId) : Class where
  name := name
  kind := .ordinary
  loader := none
  accessFlags := 33
  super := sup
  interfaces := #[]
  cf := none
  fields := #[]
  methods := #[]
  instanceTypes := #[]
  staticTypes := #[]
  resolved := #[]
  callSites := []
  init := .initialized
  statics := none
  mirror := none

def pool0 : Array CpInfo := pool [(5, u "<init>"), (0, u "()V"), (1, .class_ 10), (1, u "java/lang/Object")] 113

def k0m0 : Method := { name := "<init>", desc := "()V", sig := { parameters := [], returnType := none }, accessFlags := 1, code := none }
/-- java/lang/Object -/
def k0 : Class := { plain "java/lang/Object" none with
  accessFlags := 33
  interfaces := #[]
  cf := some (fileOf pool0 8 #[] #[{ accessFlags := 1, nameIndex := 5, descriptorIndex := 6, attributes := #[] }] 33 0 #[] #[])
  fields := #[]
  methods := #[k0m0]
  instanceTypes := #[]
  staticTypes := #[]
  resolved := Array.replicate 124 none
  statics := none }

def pool1 : Array CpInfo := pool [(2, .class_ 4), (1, u "java/lang/Object"), (0, u "<init>"), (0, u "()V"), (0, .integer 65535), (0, .methodref 9 10), (0, .class_ 11), (0, .nameAndType 12 13), (0, u "com/example/sondage/sondage/topology/RecordReader"), (0, u "isBlank"), (0, u "(C)Z"), (0, .class_ 15), (0, u "com/example/sondage/sondage/topology/RecordReaderIsBlankPinLaw"), (2, u "law"), (0, u "(II)Z")] 3

def k1m0 : Method := { name := "<init>", desc := "()V", sig := { parameters := [], returnType := none }, accessFlags := 2, code := none }
def k1c1 : Code := { maxStack := 2, maxLocals := 5, code := code, exceptionTable := #[], attributes := #[] }
def k1m1 : Method := { name := "law", desc := "(II)Z", sig := { parameters := [.int, .int], returnType := some .boolean }, accessFlags := 9, code := some k1c1 }
/-- com/example/sondage/sondage/topology/RecordReaderIsBlankPinLaw -/
def k1 : Class := { plain "com/example/sondage/sondage/topology/RecordReaderIsBlankPinLaw" (some 0) with
  accessFlags := 49
  interfaces := #[]
  cf := some (fileOf pool1 14 #[] #[{ accessFlags := 2, nameIndex := 5, descriptorIndex := 6, attributes := #[] }, { accessFlags := 9, nameIndex := 18, descriptorIndex := 19, attributes := #[] }] 49 2 #[] #[])
  fields := #[]
  methods := #[k1m0, k1m1]
  instanceTypes := #[]
  staticTypes := #[]
  resolved := Array.replicate 23 none
  statics := none }

def pool2 : Array CpInfo := pool [(1, .class_ 2), (0, u "java/lang/AutoCloseable"), (0, .class_ 4), (0, u "java/lang/Object")] 7

/-- java/lang/AutoCloseable -/
def k2 : Class := { plain "java/lang/AutoCloseable" (some 0) with
  accessFlags := 1537
  interfaces := #[]
  cf := some (fileOf pool2 1 #[] #[] 1537 3 #[] #[])
  fields := #[]
  methods := #[]
  instanceTypes := #[]
  staticTypes := #[]
  resolved := Array.replicate 12 none
  statics := none }

def pool3 : Array CpInfo := pool [(2, .class_ 4), (1, u "java/lang/Object"), (3, .class_ 10), (1, u "com/example/sondage/sondage/topology/RecordReader"), (0, u "file"), (0, u "Ljava/nio/file/Path;"), (2, u "reader"), (0, u "Ljava/io/BufferedReader;"), (23, u "lineNumber"), (0, u "I"), (95, u "isBlank"), (0, u "(C)Z"), (18, .class_ 158), (0, u "java/lang/AutoCloseable")] 36

def k3c0 : Code := { maxStack := 2, maxLocals := 1, code := prog_67_method_14_code, exceptionTable := #[], attributes := #[] }
def k3m0 : Method := { name := "isBlank", desc := "(C)Z", sig := { parameters := [.char], returnType := some .boolean }, accessFlags := 8, code := some k3c0 }
/-- com/example/sondage/sondage/topology/RecordReader -/
def k3 : Class := { plain "com/example/sondage/sondage/topology/RecordReader" (some 0) with
  accessFlags := 48
  interfaces := #[2]
  cf := some (fileOf pool3 8 #[] #[{ accessFlags := 8, nameIndex := 137, descriptorIndex := 138, attributes := #[] }] 48 2 #[157] #[{ accessFlags := 18, nameIndex := 11, descriptorIndex := 12, attributes := #[] }, { accessFlags := 18, nameIndex := 15, descriptorIndex := 16, attributes := #[] }, { accessFlags := 2, nameIndex := 40, descriptorIndex := 41, attributes := #[] }])
  fields := #[{ name := "file", type := (.object "java/nio/file/Path"), accessFlags := 18, slot := 0, constantValue := 0 }, { name := "reader", type := (.object "java/io/BufferedReader"), accessFlags := 18, slot := 1, constantValue := 0 }, { name := "lineNumber", type := .int, accessFlags := 2, slot := 2, constantValue := 0 }]
  methods := #[k3m0]
  instanceTypes := #[(.object "java/nio/file/Path"), (.object "java/io/BufferedReader"), .int]
  staticTypes := #[]
  resolved := Array.replicate 195 none
  statics := none }

def pool4 : Array CpInfo := pool [(1, u "java/lang/Cloneable"), (0, .class_ 1), (0, u "java/lang/Object"), (0, .class_ 3)] 3

/-- java/lang/Cloneable -/
def k4 : Class := { plain "java/lang/Cloneable" (some 0) with
  accessFlags := 1537
  interfaces := #[]
  cf := some (fileOf pool4 2 #[] #[] 1537 4 #[] #[])
  fields := #[]
  methods := #[]
  instanceTypes := #[]
  staticTypes := #[]
  resolved := Array.replicate 8 none
  statics := none }

def pool5 : Array CpInfo := pool [(1, u "java/io/Serializable"), (0, .class_ 1), (0, u "java/lang/Object"), (0, .class_ 3)] 3

/-- java/io/Serializable -/
def k5 : Class := { plain "java/io/Serializable" (some 0) with
  accessFlags := 1537
  interfaces := #[]
  cf := some (fileOf pool5 2 #[] #[] 1537 4 #[] #[])
  fields := #[]
  methods := #[]
  instanceTypes := #[]
  staticTypes := #[]
  resolved := Array.replicate 8 none
  statics := none }

/-- the primitive byte -/
def k6 : Class := { plain "byte" none with kind := .primitive 'B', accessFlags := 0x411 }
/-- [B -/
def k7 : Class := { plain "[B" (some 0) with kind := .array 6 .byte, interfaces := #[4, 5], accessFlags := 1041 }

/-- the primitive int -/
def k8 : Class := { plain "int" none with kind := .primitive 'I', accessFlags := 0x411 }
/-- [I -/
def k9 : Class := { plain "[I" (some 0) with kind := .array 8 .int, interfaces := #[4, 5], accessFlags := 1041 }

def heap : Heap := #[]
def classes : Array Class := #[k0, k1, k2, k3, k4, k5, k6, k7, k8, k9]
def interned : List (Array UInt16 × Addr) := []
def slotsUsed : Nat := 0
def theMethod : MethodId := ⟨1, 1⟩
def args0 : Array Value := #[.int 9, .int 0]
def aboutOver (below : List Frame) : State where
  vm := { classes := classes, interned := interned.toArray }
  heap := heap
  slotsUsed := slotsUsed
  threads := #[{ frames := .invoking theMethod args0 :: below }]
def below0 : List Frame := [.native { method := ⟨0, 0⟩, args := #[] }]
def about1 : State := aboutOver below0
def p0 : Program := .bare "" "" ""
def e0 : Env := launch0.env 0 0 0
theorem w_frames : about1.frames = Frame.invoking theMethod args0 :: below0 := rfl
set_option maxRecDepth 65536 in
theorem w_args : argsFit about1.vm theMethod args0 = true := by decide +kernel
set_option maxRecDepth 65536 in
theorem w_heap : heapFits about1 = true := by decide +kernel
set_option maxRecDepth 65536 in
theorem w_runnable : about1.curStatus? = some .runnable := by decide +kernel
set_option maxRecDepth 65536 in
theorem w_alone : about1.alone = true := by decide +kernel
set_option maxRecDepth 65536 in
theorem w_named : about1.methodNamed? x = some theMethod := by decide +kernel
set_option maxRecDepth 65536 in
theorem w_hears : about1.hears theMethod below0 = true := by decide +kernel
set_option maxRecDepth 65536 in
theorem w_ripe : about1.ripe theMethod args0 below0 = true := by decide +kernel
theorem w_running : about1.status = .running := rfl
set_option maxRecDepth 65536 in
theorem w_room : about1.hasRoom e0.platform room_1 = true :=
  launch0.hasRoom_least _ room_1 (by decide +kernel) (by decide +kernel) (by decide +kernel) (by decide +kernel) (by decide +kernel) (by decide +kernel)
theorem allAtoms_all (ts : List Jvm.Cond) (a : Array Jvm.Value) (st : Jvm.State) : (allAtoms ts).before a st = ts.all (fun c => c.before a st) := by
  induction ts with
  | nil => rfl
  | cons c t ih =>
    show (Jvm.Cond.and c (allAtoms t)).before a st = _
    rw [Jvm.Cond.before_and, ih, List.all_cons]
def words1 : List Jvm.Cond := Jvm.Cond.code x code maxLocals ret :: tables_1
/-- a 'code' word, met by the world's own term for the bytes: nothing is compared byte by byte -/
theorem code_word {y : MethodName} {bytes : ByteArray} {mx : Nat} {rt : Option FieldType} {a : Array Value} {s : State} {m : MethodId} {meth : Method} {c : Code} (h1 : s.methodNamed? y = some m) (h2 : s.vm.method? m = some meth) (h3 : meth.code = some c) (h4 : c.code = bytes)
    (h5 : (c.maxLocals == mx && c.exceptionTable.isEmpty && decide (c.maxStack ≤ mostOperands) && decide (meth.sig.returnType = rt) && !meth.locks && decide (parseMethodDescriptor y.desc = some meth.sig)) = true) : (Jvm.Cond.code y bytes mx rt).before a s = true := by
  simp only [Bool.and_eq_true, beq_iff_eq, Bool.not_eq_true', decide_eq_true_eq] at h5
  obtain ⟨⟨⟨⟨⟨g1, g2⟩, g3⟩, g4⟩, g5⟩, g6⟩ := h5
  simp [Cond.before, Cond.holds, Cond.value, h1, h2, h3, h4, g1, g2, g3, g4, g5, g6]
def isCode : Jvm.Cond → Bool
  | .code _ _ _ _ => true
  | _ => false
theorem all_split {L : List Jvm.Cond} {P : Jvm.Cond → Bool} (h1 : L.all (fun c => isCode c || P c) = true) (h2 : ∀ c ∈ L.filter isCode, P c = true) : L.all P = true := by
  refine List.all_eq_true.mpr fun c hc => ?_
  have h := List.all_eq_true.mp h1 c hc
  rcases Bool.eq_false_or_eq_true (isCode c) with hi | hi
  · exact h2 c (List.mem_filter.mpr ⟨hc, hi⟩)
  · simpa [hi] using h
set_option maxRecDepth 65536 in
theorem w_c0 : (Jvm.Cond.code x code maxLocals ret).before args0 about1 = true := code_word (m := ⟨1, 1⟩) (meth := k1m1) (c := k1c1) (by decide +kernel) rfl rfl rfl (by decide +kernel)
set_option maxRecDepth 65536 in
theorem w_c1 : (Jvm.Cond.code ({ cls := "com/example/sondage/sondage/topology/RecordReader", name := "isBlank", desc := "(C)Z" } : Jvm.MethodName) prog_67_method_14_code (1 : Nat) (Option.some Jvm.ClassFile.FieldType.boolean)).before args0 about1 = true := code_word (m := ⟨3, 0⟩) (meth := k3m0) (c := k3c0) (by decide +kernel) rfl rfl rfl (by decide +kernel)
def codes1 : List Jvm.Cond := [Jvm.Cond.code x code maxLocals ret, Jvm.Cond.code ({ cls := "com/example/sondage/sondage/topology/RecordReader", name := "isBlank", desc := "(C)Z" } : Jvm.MethodName) prog_67_method_14_code (1 : Nat) (Option.some Jvm.ClassFile.FieldType.boolean)]
set_option maxRecDepth 65536 in
theorem codes_eq : words1.filter isCode = codes1 := rfl
theorem w_codes : ∀ c ∈ words1.filter isCode, c.before args0 about1 = true := by
  rw [codes_eq]
  intro c hc
  simp only [codes1, List.mem_cons, List.not_mem_nil, or_false] at hc
  rcases hc with rfl | rfl
  · exact w_c0
  · exact w_c1
set_option maxRecDepth 65536 in
theorem w_t1 : words1.all (fun c => isCode c || c.before args0 about1) = true := by decide +kernel
theorem w_tables : (allAtoms (Jvm.Cond.code x code maxLocals ret :: tables_1)).before args0 about1 = true := by
  rw [allAtoms_all]
  show words1.all (fun c => c.before args0 about1) = true
  refine all_split ?_ w_codes
  rw [w_t1]
set_option maxRecDepth 65536 in
theorem w_case : (Jvm.Cond.and given_1 narrow_1).before args0 about1 = true := by decide +kernel
theorem w_applies : (headSpec (Jvm.Cond.code x code maxLocals ret :: tables_1) room_1).applies x e0.platform about1 = true :=
  (Spec.applies_iff w_frames).mpr ⟨w_running, w_runnable, w_alone, w_named, w_hears, w_ripe, w_room, w_tables⟩
theorem atStart : AtStart classFile x code maxLocals ret World_1 tables_1 room_1 Calls_1 rest_1 Pre_1 launch0 p0 e0 about1 theMethod args0 below0 :=
  ⟨lists_1, trivial, launch0.admits_env _ _ _, launch0.least_env, fairChoices_fair.cas, fairChoices_fair.clock, w_frames, w_args, w_heap, w_applies, trivial, trivial, w_case⟩
end start1
theorem witness_1 : WitnessClaimed_1 := ⟨start1.p0, start1.e0, start1.about1, start1.theMethod, start1.args0, start1.below0, start1.atStart⟩
end Jvm.Pilot.@@N@@
