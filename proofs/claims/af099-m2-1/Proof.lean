import JvmDerived
import JvmDerived.Pilot.@@N@@Statement
import JvmDerived.Pilot.@@N@@Code
set_option linter.unusedVariables false
set_option linter.unusedSimpArgs false
namespace Jvm.Pilot.@@N@@
open Jvm Jvm.ClassFile Sem Op Lib Jvm.Free Jvm.Stand Jvm.LawKit Jvm.RoadKit Bundle Jvm.Pilot.@@N@@.Jvm.D
def own_p (d i : Int32) : Int32 := ((d.toUInt32 >>> (((8 : Int32) * i) &&& 31).toUInt32).toInt32).toInt8.toInt32
theorem own_pn (d i : Int32) : nar .byte (own_p d i) = own_p d i := by
  show (own_p d i).toInt8.toInt32 = own_p d i
  unfold own_p
  simp
theorem own_n (x : Int32) : let n := ((x &&& (2147483647 : Int32)) % (5 : Int32)); n = 0 ∨ n = 1 ∨ n = 2 ∨ n = 3 ∨ n = 4 := by
  intro n
  have h := c_mask x 2147483647 31 (by decide) (by decide)
  have g := (c_irem (x &&& (2147483647 : Int32)) 5 5 (by decide)).1
  have e0 : (0 : Int32).toInt = 0 := by decide
  have e1 : (1 : Int32).toInt = 1 := by decide
  have e2 : (2 : Int32).toInt = 2 := by decide
  have e3 : (3 : Int32).toInt = 3 := by decide
  have e4 : (4 : Int32).toInt = 4 := by decide
  have hn : n.toInt = (x &&& (2147483647 : Int32)).toInt % 5 := g (by omega)
  simp only [← Int32.toInt_inj, e0, e1, e2, e3, e4]
  omega
theorem d7_0 : decode method_2_code 0 = .ok (.iload_n 0, 1) := by decide +kernel
theorem d7_1 : decode method_2_code 1 = .ok (.bipush 8, 2) := by decide +kernel
theorem d7_3 : decode method_2_code 3 = .ok (.iload_n 1, 1) := by decide +kernel
theorem d7_4 : decode method_2_code 4 = .ok (.imul, 1) := by decide +kernel
theorem d7_5 : decode method_2_code 5 = .ok (.iushr, 1) := by decide +kernel
theorem d7_6 : decode method_2_code 6 = .ok (.i2b, 1) := by decide +kernel
theorem d7_7 : decode method_2_code 7 = .ok (.ireturn, 1) := by decide +kernel
theorem pn_com_example_affordance_affordance_BodyHeldPinLaw : plainName "com/example/affordance/affordance/BodyHeldPinLaw" = true := by first | (simp [plainName, overriddenIn]; done) | decide +kernel
theorem ef_rm7 (m : MethodId) (p0 : Int32) (p1 : Int32) : entryFrame m #[(.int p0), (.int p1)] 2 = (mkF m 0 #[.val (.int p0), .val (.int p1)] []) := by first | (simp [entryFrame, mkF, argsToLocals, Value.category]; done) | rfl
def Q7 (Z : State) (p0 : Int32) (p1 : Int32) (h0 : Heap) (n0 : Nat) (v : Option Value) (h : Heap) (L : List Loc) : Prop := v = some (.int (own_p p0 p1)) ∧ Fr n0 L ∧ h = h0
set_option maxRecDepth 65536 in
set_option maxHeartbeats 40000000 in
theorem rm7 (l : Launch) (Z : State) (aa : Array Value) (hw : ∀ d ∈ tables_1, d.before aa Z = true) (ws : List Jvm.Cond) (p0 : Int32) (p1 : Int32) (h0 : Heap) (n0 : Nat) (Z0 : n0 ≤ h0.size) :
    MetFree l (⟨"com/example/affordance/affordance/BodyHeldPinLaw", "part", "(II)B"⟩ : MethodName) (head1 (Jvm.Cond.code (⟨"com/example/affordance/affordance/BodyHeldPinLaw", "part", "(II)B"⟩ : MethodName) method_2_code 2 (some .byte) :: ws) ({ frames := 0, cells := 0, slots := 0, locals := 0 } : Room)) (fun a U => a = #[(.int p0), (.int p1)] ∧ Z.Warmed39 U.vm ∧ U.heap = h0) (fun _ _ _ _ _ => True) (fun _ U o U' => ∃ v L, o = .returned v ∧ Q7 Z p0 p1 h0 n0 v U'.heap L ∧ FrameEnd U o U' L ({ frames := 0, cells := 0, slots := 0, locals := 0 } : Room).cells ({ frames := 0, cells := 0, slots := 0, locals := 0 } : Room).slots) := by
  refine MetFree.of_bodySF (plainFor_of_name pn_com_example_affordance_affordance_BodyHeldPinLaw) hisR ?_
  intro p e s m args below meth c s₁ Bd hml0 hP hK
  obtain ⟨rfl, hZ, hh⟩ := hP
  have hx := Bd.exec
  have hby := Bd.bytes
  have hml : c.maxLocals = 2 := hml0
  have hown : s.vm.findClass "com/example/affordance/affordance/BodyHeldPinLaw" = some m.cls := findClass_of_methodNamed Bd.named
  have hnm := (name_of_methodNamed Bd.named Bd.method).1
  have X0 : Stand p l e ({ frames := 0, cells := 0, slots := 0, locals := 0 } : Room) s m #[(.int p0), (.int p1)] below meth c s₁ [] 0 0 := Stand.of_body Bd
  have e0 : s₁.heap = h0 := by rw [← hh, Bd.state]; rfl
  have N0 := Fr.nil n0
  obtain ⟨G0, hG0⟩ : ∃ G, G = s₁.setTop (entryFrame m #[(.int p0), (.int p1)] 2) := ⟨_, rfl⟩
  have K0 : ∀ t, Steps p.tables e below (s₁.setTop (mkF m 0 #[.val (.int p0), .val (.int p1)] [])) t → Steps p.tables e below G0 t := fun t k => by rw [hG0]; exact castTop (ef_rm7 m p0 p1) k
  have K1 : ∀ t, Steps p.tables e below (s₁.setTop (mkF m 7 #[.val (.int p0), .val (.int p1)] [(.int (((p0.toUInt32 >>> (((8 : Int32) * p1) &&& 31).toUInt32).toInt32).toInt8.toInt32))])) t → Steps p.tables e below G0 t := by
    intro t kt
    refine K0 t ?_
    refine XS.iloadN X0.here hx rfl (hb hby d7_0) rfl ?_
    show Steps p.tables e below (s₁.setTop (mkF m 1 #[.val (.int p0), .val (.int p1)] [(.int p0)])) _
    refine XS.bipush X0.here hx rfl (hb hby d7_1) ?_
    show Steps p.tables e below (s₁.setTop (mkF m 3 #[.val (.int p0), .val (.int p1)] [(.int (8 : Int32)), (.int p0)])) _
    refine XS.iloadN X0.here hx rfl (hb hby d7_3) rfl ?_
    show Steps p.tables e below (s₁.setTop (mkF m 4 #[.val (.int p0), .val (.int p1)] [(.int p1), (.int (8 : Int32)), (.int p0)])) _
    refine XS.imul X0.here hx rfl (hb hby d7_4) rfl ?_
    show Steps p.tables e below (s₁.setTop (mkF m 5 #[.val (.int p0), .val (.int p1)] [(.int ((8 : Int32) * p1)), (.int p0)])) _
    refine XS.iushr X0.here hx rfl (hb hby d7_5) rfl ?_
    show Steps p.tables e below (s₁.setTop (mkF m 6 #[.val (.int p0), .val (.int p1)] [(.int ((p0.toUInt32 >>> (((8 : Int32) * p1) &&& 31).toUInt32).toInt32))])) _
    refine XS.i2b X0.here hx rfl (hb hby d7_6) rfl ?_
    show Steps p.tables e below (s₁.setTop (mkF m 7 #[.val (.int p0), .val (.int p1)] [(.int (((p0.toUInt32 >>> (((8 : Int32) * p1) &&& 31).toUInt32).toInt32).toInt8.toInt32))])) _
    exact kt
  obtain ⟨fs, hr, hrun, hended, hW, hsame⟩ := X0.leave (v := some (.int (nar .byte (((p0.toUInt32 >>> (((8 : Int32) * p1) &&& 31).toUInt32).toInt32).toInt8.toInt32)))) (fun h => by rw [Bd.returns] at h; cases h)
  refine ⟨_, _, ?_, hrun, hended, _, _, rfl, ?_, ⟨_, rfl⟩, hW, hsame.mono (by decide) (by decide)⟩
  · rw [← hG0]
    refine K1 _ ?_
    exact retN X0 hx (t := .byte) Bd.returns (by simp) (hb hby d7_7) hr
  · show Q7 Z p0 p1 h0 n0 _ s₁.heap _
    rw [e0]
    exact ⟨congrArg (fun z => some (Value.int z)) (own_pn p0 p1), N0, rfl⟩
theorem d6_0 : decode method_3_code 0 = .ok (.iload_n 3, 1) := by decide +kernel
theorem d6_1 : decode method_3_code 1 = .ok (.iload_n 1, 1) := by decide +kernel
theorem d6_2 : decode method_3_code 2 = .ok (.if_icmp .lt 5, 3) := by decide +kernel
theorem d6_5 : decode method_3_code 5 = .ok (.iconst 1, 1) := by decide +kernel
theorem d6_6 : decode method_3_code 6 = .ok (.ireturn, 1) := by decide +kernel
theorem d6_7 : decode method_3_code 7 = .ok (.aload_n 0, 1) := by decide +kernel
theorem d6_8 : decode method_3_code 8 = .ok (.iload_n 3, 1) := by decide +kernel
theorem d6_9 : decode method_3_code 9 = .ok (.baload, 1) := by decide +kernel
theorem d6_10 : decode method_3_code 10 = .ok (.iload_n 2, 1) := by decide +kernel
theorem d6_11 : decode method_3_code 11 = .ok (.iload_n 3, 1) := by decide +kernel
theorem d6_12 : decode method_3_code 12 = .ok (.invokestatic 7, 3) := by decide +kernel
theorem d6_15 : decode method_3_code 15 = .ok (.if_icmp .ne 7, 3) := by decide +kernel
theorem d6_18 : decode method_3_code 18 = .ok (.iconst 1, 1) := by decide +kernel
theorem d6_19 : decode method_3_code 19 = .ok (.goto 4, 3) := by decide +kernel
theorem d6_22 : decode method_3_code 22 = .ok (.iconst 0, 1) := by decide +kernel
theorem d6_23 : decode method_3_code 23 = .ok (.ireturn, 1) := by decide +kernel
theorem pd_PIIQB : parseMethodDescriptor "(II)B" = some ⟨[.int, .int], some .byte⟩ := by decide +kernel
theorem ef_rm6 (m : MethodId) (a0 : Addr) (p1 : Int32) (p2 : Int32) (p3 : Int32) : entryFrame m #[(.ref a0), (.int p1), (.int p2), (.int p3)] 4 = (mkF m 0 #[.val (.ref a0), .val (.int p1), .val (.int p2), .val (.int p3)] []) := by first | (simp [entryFrame, mkF, argsToLocals, Value.category]; done) | rfl
def Q6 (Z : State) (a0 : Addr) (p1 : Int32) (p2 : Int32) (p3 : Int32) (h0 : Heap) (n0 : Nat) (v : Option Value) (h : Heap) (L : List Loc) : Prop := v = some (.int 1) ∧ Fr n0 L ∧ h = h0
set_option maxRecDepth 65536 in
set_option maxHeartbeats 40000000 in
theorem rm6 (l : Launch) (Z : State) (aa : Array Value) (hw : ∀ d ∈ tables_1, d.before aa Z = true) (ws : List Jvm.Cond) (a0 : Addr) (p1 : Int32) (p2 : Int32) (p3 : Int32) (h0 : Heap) (n0 : Nat) (Z0 : n0 ≤ h0.size) (hp : ¬ p3 < p1 ∨ ∃ cell : Cell, Arr Z h0 a0 cell .byte ∧ ¬ (p3 < 0 ∨ cell.slots.size ≤ p3.toNatClampNeg) ∧ cell.slots[p3.toNatClampNeg]? = some (.int (nar .byte (own_p p2 p3)))) :
    MetFree l (⟨"com/example/affordance/affordance/BodyHeldPinLaw", "same", "([BIII)Z"⟩ : MethodName) (head1 (Jvm.Cond.code (⟨"com/example/affordance/affordance/BodyHeldPinLaw", "same", "([BIII)Z"⟩ : MethodName) method_3_code 4 (some .boolean) :: ws) ({ frames := 1, cells := 0, slots := 0, locals := 14 } : Room)) (fun a U => a = #[(.ref a0), (.int p1), (.int p2), (.int p3)] ∧ Z.Warmed39 U.vm ∧ U.heap = h0) (fun _ _ _ _ _ => True) (fun _ U o U' => ∃ v L, o = .returned v ∧ Q6 Z a0 p1 p2 p3 h0 n0 v U'.heap L ∧ FrameEnd U o U' L ({ frames := 1, cells := 0, slots := 0, locals := 14 } : Room).cells ({ frames := 1, cells := 0, slots := 0, locals := 14 } : Room).slots) := by
  refine MetFree.of_bodySF (plainFor_of_name pn_com_example_affordance_affordance_BodyHeldPinLaw) hisR ?_
  intro p e s m args below meth c s₁ Bd hml0 hP hK
  obtain ⟨rfl, hZ, hh⟩ := hP
  have hx := Bd.exec
  have hby := Bd.bytes
  have hml : c.maxLocals = 4 := hml0
  have hown : s.vm.findClass "com/example/affordance/affordance/BodyHeldPinLaw" = some m.cls := findClass_of_methodNamed Bd.named
  have hnm := (name_of_methodNamed Bd.named Bd.method).1
  have X0 : Stand p l e ({ frames := 1, cells := 0, slots := 0, locals := 14 } : Room) s m #[(.ref a0), (.int p1), (.int p2), (.int p3)] below meth c s₁ [] 0 0 := Stand.of_body Bd
  have e0 : s₁.heap = h0 := by rw [← hh, Bd.state]; rfl
  have N0 := Fr.nil n0
  obtain ⟨G0, hG0⟩ : ∃ G, G = s₁.setTop (entryFrame m #[(.ref a0), (.int p1), (.int p2), (.int p3)] 4) := ⟨_, rfl⟩
  have K0 : ∀ t, Steps p.tables e below (s₁.setTop (mkF m 0 #[.val (.ref a0), .val (.int p1), .val (.int p2), .val (.int p3)] [])) t → Steps p.tables e below G0 t := fun t k => by rw [hG0]; exact castTop (ef_rm6 m a0 p1 p2 p3) k
  have K1 : ∀ t, Steps p.tables e below (s₁.setTop (mkF m 2 #[.val (.ref a0), .val (.int p1), .val (.int p2), .val (.int p3)] [(.int p1), (.int p3)])) t → Steps p.tables e below G0 t := by
    intro t kt
    refine K0 t ?_
    refine XS.iloadN X0.here hx rfl (hb hby d6_0) rfl ?_
    show Steps p.tables e below (s₁.setTop (mkF m 1 #[.val (.ref a0), .val (.int p1), .val (.int p2), .val (.int p3)] [(.int p3)])) _
    refine XS.iloadN X0.here hx rfl (hb hby d6_1) rfl ?_
    show Steps p.tables e below (s₁.setTop (mkF m 2 #[.val (.ref a0), .val (.int p1), .val (.int p2), .val (.int p3)] [(.int p1), (.int p3)])) _
    exact kt
  by_cases hc2 : p3 < p1
  ·
    obtain ⟨cell, Ar, hin, hat⟩ := hp.resolve_left (fun q => q hc2)
    have K3 : ∀ t, Steps p.tables e below (s₁.setTop (mkF m 12 #[.val (.ref a0), .val (.int p1), .val (.int p2), .val (.int p3)] [(.int p3), (.int p2), (.int (nar .byte (own_p p2 p3)))])) t → Steps p.tables e below G0 t := by
      intro t kt
      refine K1 t ?_
      refine XS.icmpYes X0.here hx rfl (pc0 := 2) (pc' := 7) rfl (hb hby d6_2) rfl (tlt hc2).1 (by decide) (by decide) ?_
      show Steps p.tables e below (s₁.setTop (mkF m 7 #[.val (.ref a0), .val (.int p1), .val (.int p2), .val (.int p3)] [])) _
      refine XS.aloadN X0.here hx rfl (hb hby d6_7) rfl rfl ?_
      show Steps p.tables e below (s₁.setTop (mkF m 8 #[.val (.ref a0), .val (.int p1), .val (.int p2), .val (.int p3)] [(.ref a0)])) _
      refine XS.iloadN X0.here hx rfl (hb hby d6_8) rfl ?_
      show Steps p.tables e below (s₁.setTop (mkF m 9 #[.val (.ref a0), .val (.int p1), .val (.int p2), .val (.int p3)] [(.int p3), (.ref a0)])) _
      refine X0.baloadBytes hx (j := p3) (v := (.int (nar .byte (own_p p2 p3)))) (by rw [e0]; exact (Ar).1) (State.isArrayOf_alike hZ.alike (Ar).2.1) (Ar).2.2 hin hat (g := (mkF m 9 #[.val (.ref a0), .val (.int p1), .val (.int p2), .val (.int p3)] [(.int p3), (.ref a0)])) rfl rfl (hb hby d6_9) _ ?_
      show Steps p.tables e below (s₁.setTop (mkF m 10 #[.val (.ref a0), .val (.int p1), .val (.int p2), .val (.int p3)] [(.int (nar .byte (own_p p2 p3)))])) _
      refine XS.iloadN X0.here hx rfl (hb hby d6_10) rfl ?_
      show Steps p.tables e below (s₁.setTop (mkF m 11 #[.val (.ref a0), .val (.int p1), .val (.int p2), .val (.int p3)] [(.int p2), (.int (nar .byte (own_p p2 p3)))])) _
      refine XS.iloadN X0.here hx rfl (hb hby d6_11) rfl ?_
      show Steps p.tables e below (s₁.setTop (mkF m 12 #[.val (.ref a0), .val (.int p1), .val (.int p2), .val (.int p3)] [(.int p3), (.int p2), (.int (nar .byte (own_p p2 p3)))])) _
      exact kt
    obtain ⟨_, _, ⟨T4, L4, k4, n4⟩, -, X4, ⟨Lc4, hQ4, l4, y4, z4⟩, st4⟩ := Jvm.LawKit.callS X0 hx (y := (⟨"com/example/affordance/affordance/BodyHeldPinLaw", "part", "(II)B"⟩ : MethodName)) hown (mvT hZ (hw _ (List.mem_of_getElem? (i := 39) rfl))) (mvT hZ (hw _ (List.mem_of_getElem? (i := 40) rfl))) (mvT hZ (hw _ (List.mem_of_getElem? (i := 37) rfl))) (mvT hZ (hw _ (List.mem_of_getElem? (i := 41) rfl))) (by decide) (backOf (W := 1) (rm7 l Z aa hw [] (p2) (p3)  h0 n0 Z0 ) hZ (hw _ (List.mem_of_getElem? (i := 41) rfl)) (hw _ (List.mem_of_getElem? (i := 37) rfl)) (by decide) (by decide)) (g := (mkF m 12 #[.val (.ref a0), .val (.int p1), .val (.int p2), .val (.int p3)] [(.int p3), (.int p2), (.int (nar .byte (own_p p2 p3)))])) rfl (by rw [hml]; rfl) (argsL := [(.int p2), (.int p3)]) (rest := [(.int (nar .byte (own_p p2 p3)))]) (lenOf pd_PIIQB rfl) rfl (by show 2 * 0 + _ ≤ _; exact Nat.le_of_eq rfl) (hb hby d6_12) (fun _ _ => ⟨rfl, e0, (by decide : 0 + 0 ≤ _), (by decide : 0 + 0 ≤ _)⟩)
    dsimp only [Pt.U, Pt.locs, Pt.cells, Pt.slots] at X4 l4 y4 z4 st4 hQ4
    subst l4 y4 z4
    obtain ⟨rfl, N4q, e4⟩ := hQ4
    have N4 := Fr.app N0 N4q
    have K4 : ∀ t, Steps p.tables e below (T4.setTop (mkF m 15 #[.val (.ref a0), .val (.int p1), .val (.int p2), .val (.int p3)] [(.int (own_p p2 p3)), (.int (nar .byte (own_p p2 p3)))])) t → Steps p.tables e below G0 t := fun t kt => K3 t (st4 _ kt)
    have K5 : ∀ t, Steps p.tables e below (T4.setTop (mkF m 23 #[.val (.ref a0), .val (.int p1), .val (.int p2), .val (.int p3)] [(.int (1 : Int32))])) t → Steps p.tables e below G0 t := by
      intro t kt
      refine K4 t ?_
      refine XS.icmpNo X4.here hx rfl (hb hby d6_15) rfl (teq (own_pn p2 p3)).2 ?_
      show Steps p.tables e below (T4.setTop (mkF m 18 #[.val (.ref a0), .val (.int p1), .val (.int p2), .val (.int p3)] [])) _
      refine XS.iconst X4.here hx rfl (hb hby d6_18) ?_
      show Steps p.tables e below (T4.setTop (mkF m 19 #[.val (.ref a0), .val (.int p1), .val (.int p2), .val (.int p3)] [(.int (1 : Int32))])) _
      refine XS.goto X4.here hx rfl (pc0 := 19) (pc' := 23) rfl (hb hby d6_19) (by decide) (by decide) ?_
      show Steps p.tables e below (T4.setTop (mkF m 23 #[.val (.ref a0), .val (.int p1), .val (.int p2), .val (.int p3)] [(.int (1 : Int32))])) _
      exact kt
    obtain ⟨fs, hr, hrun, hended, hW, hsame⟩ := X4.leave (v := some (.int (1 : Int32))) (fun h => by rw [Bd.returns] at h; cases h)
    refine ⟨_, _, ?_, hrun, hended, _, _, rfl, ?_, ⟨_, rfl⟩, hW, hsame.mono (by decide) (by decide)⟩
    · rw [← hG0]
      refine K5 _ ?_
      exact retN X4 hx (t := .boolean) Bd.returns (by simp) (hb hby d6_23) hr
    · show Q6 Z a0 p1 p2 p3 h0 n0 _ T4.heap _
      rw [e4]
      exact ⟨rfl, N4, rfl⟩
  ·
    have K6 : ∀ t, Steps p.tables e below (s₁.setTop (mkF m 6 #[.val (.ref a0), .val (.int p1), .val (.int p2), .val (.int p3)] [(.int (1 : Int32))])) t → Steps p.tables e below G0 t := by
      intro t kt
      refine K1 t ?_
      refine XS.icmpNo X0.here hx rfl (hb hby d6_2) rfl (flt hc2).1 ?_
      show Steps p.tables e below (s₁.setTop (mkF m 5 #[.val (.ref a0), .val (.int p1), .val (.int p2), .val (.int p3)] [])) _
      refine XS.iconst X0.here hx rfl (hb hby d6_5) ?_
      show Steps p.tables e below (s₁.setTop (mkF m 6 #[.val (.ref a0), .val (.int p1), .val (.int p2), .val (.int p3)] [(.int (1 : Int32))])) _
      exact kt
    obtain ⟨fs, hr, hrun, hended, hW, hsame⟩ := X0.leave (v := some (.int (1 : Int32))) (fun h => by rw [Bd.returns] at h; cases h)
    refine ⟨_, _, ?_, hrun, hended, _, _, rfl, ?_, ⟨_, rfl⟩, hW, hsame.mono (by decide) (by decide)⟩
    · rw [← hG0]
      refine K6 _ ?_
      exact retN X0 hx (t := .boolean) Bd.returns (by simp) (hb hby d6_6) hr
    · show Q6 Z a0 p1 p2 p3 h0 n0 _ s₁.heap _
      rw [e0]
      exact ⟨rfl, N0, rfl⟩
theorem d2_0 : decode prog_4_method_1_code 0 = .ok (.aload_n 0, 1) := by decide +kernel
theorem d2_1 : decode prog_4_method_1_code 1 = .ok (.invokespecial 1, 3) := by decide +kernel
theorem d2_4 : decode prog_4_method_1_code 4 = .ok (.aload_n 0, 1) := by decide +kernel
theorem d2_5 : decode prog_4_method_1_code 5 = .ok (.aload_n 1, 1) := by decide +kernel
theorem d2_6 : decode prog_4_method_1_code 6 = .ok (.putfield 7, 3) := by decide +kernel
theorem d2_9 : decode prog_4_method_1_code 9 = .ok (.aload_n 0, 1) := by decide +kernel
theorem d2_10 : decode prog_4_method_1_code 10 = .ok (.aload_n 2, 1) := by decide +kernel
theorem d2_11 : decode prog_4_method_1_code 11 = .ok (.putfield 13, 3) := by decide +kernel
theorem d2_14 : decode prog_4_method_1_code 14 = .ok (.aload_n 0, 1) := by decide +kernel
theorem d2_15 : decode prog_4_method_1_code 15 = .ok (.lload_n 3, 1) := by decide +kernel
theorem d2_16 : decode prog_4_method_1_code 16 = .ok (.putfield 17, 3) := by decide +kernel
theorem d2_19 : decode prog_4_method_1_code 19 = .ok (.aload_n 0, 1) := by decide +kernel
theorem d2_20 : decode prog_4_method_1_code 20 = .ok (.lload 5, 2) := by decide +kernel
theorem d2_22 : decode prog_4_method_1_code 22 = .ok (.putfield 21, 3) := by decide +kernel
theorem d2_25 : decode prog_4_method_1_code 25 = .ok (.aload_n 0, 1) := by decide +kernel
theorem d2_26 : decode prog_4_method_1_code 26 = .ok (.aload 7, 2) := by decide +kernel
theorem d2_28 : decode prog_4_method_1_code 28 = .ok (.putfield 24, 3) := by decide +kernel
theorem d2_31 : decode prog_4_method_1_code 31 = .ok (.return_, 1) := by decide +kernel
theorem pn_com_example_affordance_affordance_Body : plainName "com/example/affordance/affordance/Body" = true := by first | (simp [plainName, overriddenIn]; done) | decide +kernel
theorem ef_rm2 (m : MethodId) (a0 : Addr) (x1 : Addr) (x3 : Int64) (x4 : Int64) : entryFrame m #[(.ref a0), (.ref x1), .null, (.long x3), (.long x4), .null] 8 = (mkF m 0 #[.val (.ref a0), .val (.ref x1), .val .null, .val (.long x3), .second, .val (.long x4), .second, .val .null] []) := by first | (simp [entryFrame, mkF, argsToLocals, Value.category]; done) | rfl
def Q2 (Z : State) (a0 : Addr) (x1 : Addr) (x3 : Int64) (x4 : Int64) (u_bytes : Value) (u_source : Value) (u_length : Value) (u_heldBytes : Value) (u_digest : Value) (h0 : Heap) (n0 : Nat) (v : Option Value) (h : Heap) (L : List Loc) : Prop := v = none ∧ Fr n0 L ∧ Keep h0 h [a0] ∧ Exa Z h a0 "com/example/affordance/affordance/Body" ∧ Fld Z h a0 "com/example/affordance/affordance/Body" "bytes" "[B" (.ref x1) ∧ Fld Z h a0 "com/example/affordance/affordance/Body" "source" "Lcom/example/affordance/affordance/Body$Source;" .null ∧ Fld Z h a0 "com/example/affordance/affordance/Body" "length" "J" (.long x3) ∧ Fld Z h a0 "com/example/affordance/affordance/Body" "heldBytes" "J" (.long x4) ∧ Fld Z h a0 "com/example/affordance/affordance/Body" "digest" "[B" .null
set_option maxRecDepth 65536 in
set_option maxHeartbeats 40000000 in
theorem rm2 (l : Launch) (Z : State) (aa : Array Value) (hw : ∀ d ∈ tables_1, d.before aa Z = true) (ws : List Jvm.Cond) (a0 : Addr) (x1 : Addr) (x3 : Int64) (x4 : Int64) (u_bytes : Value) (u_source : Value) (u_length : Value) (u_heldBytes : Value) (u_digest : Value) (h0 : Heap) (n0 : Nat) (Z0 : n0 ≤ h0.size) (gn : n0 ≤ a0) (E0 : Exa Z h0 a0 "com/example/affordance/affordance/Body") (F_bytes : Fld Z h0 a0 "com/example/affordance/affordance/Body" "bytes" "[B" u_bytes) (F_source : Fld Z h0 a0 "com/example/affordance/affordance/Body" "source" "Lcom/example/affordance/affordance/Body$Source;" u_source) (F_length : Fld Z h0 a0 "com/example/affordance/affordance/Body" "length" "J" u_length) (F_heldBytes : Fld Z h0 a0 "com/example/affordance/affordance/Body" "heldBytes" "J" u_heldBytes) (F_digest : Fld Z h0 a0 "com/example/affordance/affordance/Body" "digest" "[B" u_digest) :
    MetFree l (⟨"com/example/affordance/affordance/Body", "<init>", "([BLcom/example/affordance/affordance/Body$Source;JJ[B)V"⟩ : MethodName) (head1 (Jvm.Cond.code (⟨"com/example/affordance/affordance/Body", "<init>", "([BLcom/example/affordance/affordance/Body$Source;JJ[B)V"⟩ : MethodName) prog_4_method_1_code 8 none :: ws) ({ frames := 1, cells := 0, slots := 0, locals := 12 } : Room)) (fun a U => a = #[(.ref a0), (.ref x1), .null, (.long x3), (.long x4), .null] ∧ Z.Warmed39 U.vm ∧ U.heap = h0) (fun _ _ _ _ _ => True) (fun _ U o U' => ∃ v L, o = .returned v ∧ Q2 Z a0 x1 x3 x4 u_bytes u_source u_length u_heldBytes u_digest h0 n0 v U'.heap L ∧ FrameEnd U o U' L ({ frames := 1, cells := 0, slots := 0, locals := 12 } : Room).cells ({ frames := 1, cells := 0, slots := 0, locals := 12 } : Room).slots) := by
  refine MetFree.of_bodySF (plainFor_of_name pn_com_example_affordance_affordance_Body) hisR ?_
  intro p e s m args below meth c s₁ Bd hml0 hP hK
  obtain ⟨rfl, hZ, hh⟩ := hP
  have hx := Bd.exec
  have hby := Bd.bytes
  have hml : c.maxLocals = 8 := hml0
  have hown : s.vm.findClass "com/example/affordance/affordance/Body" = some m.cls := findClass_of_methodNamed Bd.named
  have hnm := (name_of_methodNamed Bd.named Bd.method).1
  have X0 : Stand p l e ({ frames := 1, cells := 0, slots := 0, locals := 12 } : Room) s m #[(.ref a0), (.ref x1), .null, (.long x3), (.long x4), .null] below meth c s₁ [] 0 0 := Stand.of_body Bd
  have e0 : s₁.heap = h0 := by rw [← hh, Bd.state]; rfl
  have N0 := Fr.nil n0
  obtain ⟨G0, hG0⟩ : ∃ G, G = s₁.setTop (entryFrame m #[(.ref a0), (.ref x1), .null, (.long x3), (.long x4), .null] 8) := ⟨_, rfl⟩
  have K0 : ∀ t, Steps p.tables e below (s₁.setTop (mkF m 0 #[.val (.ref a0), .val (.ref x1), .val .null, .val (.long x3), .second, .val (.long x4), .second, .val .null] [])) t → Steps p.tables e below G0 t := fun t k => by rw [hG0]; exact castTop (ef_rm2 m a0 x1 x3 x4) k
  have KP1 := Keep.refl h0 [a0]
  have K2 : ∀ t, Steps p.tables e below (s₁.setTop (mkF m 1 #[.val (.ref a0), .val (.ref x1), .val .null, .val (.long x3), .second, .val (.long x4), .second, .val .null] [(.ref a0)])) t → Steps p.tables e below G0 t := by
    intro t kt
    refine K0 t ?_
    refine XS.aloadN X0.here hx rfl (hb hby d2_0) rfl rfl ?_
    show Steps p.tables e below (s₁.setTop (mkF m 1 #[.val (.ref a0), .val (.ref x1), .val .null, .val (.long x3), .second, .val (.long x4), .second, .val .null] [(.ref a0)])) _
    exact kt
  obtain ⟨T3, X3, e3, st3⟩ := initO X0 hx hZ hown (hw _ (List.mem_of_getElem? (i := 12) rfl)) (hw _ (List.mem_of_getElem? (i := 13) rfl)) (hw _ (List.mem_of_getElem? (i := 14) rfl)) e0 (g := (mkF m 1 #[.val (.ref a0), .val (.ref x1), .val .null, .val (.long x3), .second, .val (.long x4), .second, .val .null] [(.ref a0)])) rfl (by rw [hml]; rfl) rfl (hb hby d2_1) (by decide) (W := 0) (by show 2 * 0 + _ ≤ _; exact Nat.le_of_eq rfl) (by decide)
  have K3 : ∀ t, Steps p.tables e below (T3.setTop (mkF m 4 #[.val (.ref a0), .val (.ref x1), .val .null, .val (.long x3), .second, .val (.long x4), .second, .val .null] [])) t → Steps p.tables e below G0 t := fun t kt => K2 t (st3 _ kt)
  have K4 : ∀ t, Steps p.tables e below (T3.setTop (mkF m 6 #[.val (.ref a0), .val (.ref x1), .val .null, .val (.long x3), .second, .val (.long x4), .second, .val .null] [(.ref x1), (.ref a0)])) t → Steps p.tables e below G0 t := by
    intro t kt
    refine K3 t ?_
    refine XS.aloadN X3.here hx rfl (hb hby d2_4) rfl rfl ?_
    show Steps p.tables e below (T3.setTop (mkF m 5 #[.val (.ref a0), .val (.ref x1), .val .null, .val (.long x3), .second, .val (.long x4), .second, .val .null] [(.ref a0)])) _
    refine XS.aloadN X3.here hx rfl (hb hby d2_5) rfl rfl ?_
    show Steps p.tables e below (T3.setTop (mkF m 6 #[.val (.ref a0), .val (.ref x1), .val .null, .val (.long x3), .second, .val (.long x4), .second, .val .null] [(.ref x1), (.ref a0)])) _
    exact kt
  obtain ⟨T5, h5, X5, e5, W5, st5⟩ := putF X3 hx hZ hown (host := "") (Or.inl (hw _ (List.mem_of_getElem? (i := 15) rfl))) Via.refl e3 F_bytes E0 (Or.inr ⟨(hw _ (List.mem_of_getElem? (i := 16) rfl)), rfl, hnm⟩) (hw _ (List.mem_of_getElem? (i := 7) rfl)) (ty := (.array .byte)) (by decide) rfl rfl (g := (mkF m 6 #[.val (.ref a0), .val (.ref x1), .val .null, .val (.long x3), .second, .val (.long x4), .second, .val .null] [(.ref x1), (.ref a0)])) rfl rfl (hb hby d2_6)
  have K5 : ∀ t, Steps p.tables e below (T5.setTop (mkF m 9 #[.val (.ref a0), .val (.ref x1), .val .null, .val (.long x3), .second, .val (.long x4), .second, .val .null] [])) t → Steps p.tables e below G0 t := fun t kt => K4 t (st5 _ kt)
  have Fw5 := (F_bytes).same W5
  have N5 := Fr.snoc X5 N0 gn
  have Z5 : n0 ≤ h5.size := Nat.le_trans Z0 (Keep.of_wr W5).1
  have KP5 := KP1.wr W5 (Or.inl (List.mem_of_getElem? (i := 0) rfl))
  have K6 : ∀ t, Steps p.tables e below (T5.setTop (mkF m 11 #[.val (.ref a0), .val (.ref x1), .val .null, .val (.long x3), .second, .val (.long x4), .second, .val .null] [.null, (.ref a0)])) t → Steps p.tables e below G0 t := by
    intro t kt
    refine K5 t ?_
    refine XS.aloadN X5.here hx rfl (hb hby d2_9) rfl rfl ?_
    show Steps p.tables e below (T5.setTop (mkF m 10 #[.val (.ref a0), .val (.ref x1), .val .null, .val (.long x3), .second, .val (.long x4), .second, .val .null] [(.ref a0)])) _
    refine XS.aloadN X5.here hx rfl (hb hby d2_10) rfl rfl ?_
    show Steps p.tables e below (T5.setTop (mkF m 11 #[.val (.ref a0), .val (.ref x1), .val .null, .val (.long x3), .second, .val (.long x4), .second, .val .null] [.null, (.ref a0)])) _
    exact kt
  have f7 := (F_source.other W5 (Or.inr (slot_ne (Or.inr (hw _ (List.mem_of_getElem? (i := 18) rfl))) (Or.inr (hw _ (List.mem_of_getElem? (i := 16) rfl))) (by decide) (t := (.object "com/example/affordance/affordance/Body$Source")) (t' := (.array .byte)) (by decide) (by decide))))
  have f8 := (E0.wr W5)
  obtain ⟨T9, h9, X9, e9, W9, st9⟩ := putF X5 hx hZ hown (host := "") (Or.inl (hw _ (List.mem_of_getElem? (i := 17) rfl))) Via.refl e5 f7 f8 (Or.inr ⟨(hw _ (List.mem_of_getElem? (i := 18) rfl)), rfl, hnm⟩) (hw _ (List.mem_of_getElem? (i := 7) rfl)) (ty := (.object "com/example/affordance/affordance/Body$Source")) (by decide) rfl rfl (g := (mkF m 11 #[.val (.ref a0), .val (.ref x1), .val .null, .val (.long x3), .second, .val (.long x4), .second, .val .null] [.null, (.ref a0)])) rfl rfl (hb hby d2_11)
  have K9 : ∀ t, Steps p.tables e below (T9.setTop (mkF m 14 #[.val (.ref a0), .val (.ref x1), .val .null, .val (.long x3), .second, .val (.long x4), .second, .val .null] [])) t → Steps p.tables e below G0 t := fun t kt => K6 t (st9 _ kt)
  have Fw9 := (f7).same W9
  have N9 := Fr.snoc X9 N5 gn
  have Z9 : n0 ≤ h9.size := Nat.le_trans Z5 (Keep.of_wr W9).1
  have KP9 := KP5.wr W9 (Or.inl (List.mem_of_getElem? (i := 0) rfl))
  have K10 : ∀ t, Steps p.tables e below (T9.setTop (mkF m 16 #[.val (.ref a0), .val (.ref x1), .val .null, .val (.long x3), .second, .val (.long x4), .second, .val .null] [(.long x3), (.ref a0)])) t → Steps p.tables e below G0 t := by
    intro t kt
    refine K9 t ?_
    refine XS.aloadN X9.here hx rfl (hb hby d2_14) rfl rfl ?_
    show Steps p.tables e below (T9.setTop (mkF m 15 #[.val (.ref a0), .val (.ref x1), .val .null, .val (.long x3), .second, .val (.long x4), .second, .val .null] [(.ref a0)])) _
    refine XS.lloadN X9.here hx rfl (hb hby d2_15) rfl ?_
    show Steps p.tables e below (T9.setTop (mkF m 16 #[.val (.ref a0), .val (.ref x1), .val .null, .val (.long x3), .second, .val (.long x4), .second, .val .null] [(.long x3), (.ref a0)])) _
    exact kt
  have f11 := ((F_length.other W5 (Or.inr (slot_ne (Or.inr (hw _ (List.mem_of_getElem? (i := 20) rfl))) (Or.inr (hw _ (List.mem_of_getElem? (i := 16) rfl))) (by decide) (t := .long) (t' := (.array .byte)) (by decide) (by decide)))).other W9 (Or.inr (slot_ne (Or.inr (hw _ (List.mem_of_getElem? (i := 20) rfl))) (Or.inr (hw _ (List.mem_of_getElem? (i := 18) rfl))) (by decide) (t := .long) (t' := (.object "com/example/affordance/affordance/Body$Source")) (by decide) (by decide))))
  have f12 := (f8.wr W9)
  obtain ⟨T13, h13, X13, e13, W13, st13⟩ := putF X9 hx hZ hown (host := "") (Or.inl (hw _ (List.mem_of_getElem? (i := 19) rfl))) Via.refl e9 f11 f12 (Or.inr ⟨(hw _ (List.mem_of_getElem? (i := 20) rfl)), rfl, hnm⟩) (hw _ (List.mem_of_getElem? (i := 7) rfl)) (ty := .long) (by decide) rfl rfl (g := (mkF m 16 #[.val (.ref a0), .val (.ref x1), .val .null, .val (.long x3), .second, .val (.long x4), .second, .val .null] [(.long x3), (.ref a0)])) rfl rfl (hb hby d2_16)
  have K13 : ∀ t, Steps p.tables e below (T13.setTop (mkF m 19 #[.val (.ref a0), .val (.ref x1), .val .null, .val (.long x3), .second, .val (.long x4), .second, .val .null] [])) t → Steps p.tables e below G0 t := fun t kt => K10 t (st13 _ kt)
  have Fw13 := (f11).same W13
  have N13 := Fr.snoc X13 N9 gn
  have Z13 : n0 ≤ h13.size := Nat.le_trans Z9 (Keep.of_wr W13).1
  have KP13 := KP9.wr W13 (Or.inl (List.mem_of_getElem? (i := 0) rfl))
  have K14 : ∀ t, Steps p.tables e below (T13.setTop (mkF m 22 #[.val (.ref a0), .val (.ref x1), .val .null, .val (.long x3), .second, .val (.long x4), .second, .val .null] [(.long x4), (.ref a0)])) t → Steps p.tables e below G0 t := by
    intro t kt
    refine K13 t ?_
    refine XS.aloadN X13.here hx rfl (hb hby d2_19) rfl rfl ?_
    show Steps p.tables e below (T13.setTop (mkF m 20 #[.val (.ref a0), .val (.ref x1), .val .null, .val (.long x3), .second, .val (.long x4), .second, .val .null] [(.ref a0)])) _
    refine XS.lload X13.here hx rfl (hb hby d2_20) rfl ?_
    show Steps p.tables e below (T13.setTop (mkF m 22 #[.val (.ref a0), .val (.ref x1), .val .null, .val (.long x3), .second, .val (.long x4), .second, .val .null] [(.long x4), (.ref a0)])) _
    exact kt
  have f15 := (((F_heldBytes.other W5 (Or.inr (slot_ne (Or.inr (hw _ (List.mem_of_getElem? (i := 22) rfl))) (Or.inr (hw _ (List.mem_of_getElem? (i := 16) rfl))) (by decide) (t := .long) (t' := (.array .byte)) (by decide) (by decide)))).other W9 (Or.inr (slot_ne (Or.inr (hw _ (List.mem_of_getElem? (i := 22) rfl))) (Or.inr (hw _ (List.mem_of_getElem? (i := 18) rfl))) (by decide) (t := .long) (t' := (.object "com/example/affordance/affordance/Body$Source")) (by decide) (by decide)))).other W13 (Or.inr (slot_ne (Or.inr (hw _ (List.mem_of_getElem? (i := 22) rfl))) (Or.inr (hw _ (List.mem_of_getElem? (i := 20) rfl))) (by decide) (t := .long) (t' := .long) (by decide) (by decide))))
  have f16 := (f12.wr W13)
  obtain ⟨T17, h17, X17, e17, W17, st17⟩ := putF X13 hx hZ hown (host := "") (Or.inl (hw _ (List.mem_of_getElem? (i := 21) rfl))) Via.refl e13 f15 f16 (Or.inr ⟨(hw _ (List.mem_of_getElem? (i := 22) rfl)), rfl, hnm⟩) (hw _ (List.mem_of_getElem? (i := 7) rfl)) (ty := .long) (by decide) rfl rfl (g := (mkF m 22 #[.val (.ref a0), .val (.ref x1), .val .null, .val (.long x3), .second, .val (.long x4), .second, .val .null] [(.long x4), (.ref a0)])) rfl rfl (hb hby d2_22)
  have K17 : ∀ t, Steps p.tables e below (T17.setTop (mkF m 25 #[.val (.ref a0), .val (.ref x1), .val .null, .val (.long x3), .second, .val (.long x4), .second, .val .null] [])) t → Steps p.tables e below G0 t := fun t kt => K14 t (st17 _ kt)
  have Fw17 := (f15).same W17
  have N17 := Fr.snoc X17 N13 gn
  have Z17 : n0 ≤ h17.size := Nat.le_trans Z13 (Keep.of_wr W17).1
  have KP17 := KP13.wr W17 (Or.inl (List.mem_of_getElem? (i := 0) rfl))
  have K18 : ∀ t, Steps p.tables e below (T17.setTop (mkF m 28 #[.val (.ref a0), .val (.ref x1), .val .null, .val (.long x3), .second, .val (.long x4), .second, .val .null] [.null, (.ref a0)])) t → Steps p.tables e below G0 t := by
    intro t kt
    refine K17 t ?_
    refine XS.aloadN X17.here hx rfl (hb hby d2_25) rfl rfl ?_
    show Steps p.tables e below (T17.setTop (mkF m 26 #[.val (.ref a0), .val (.ref x1), .val .null, .val (.long x3), .second, .val (.long x4), .second, .val .null] [(.ref a0)])) _
    refine XS.aload X17.here hx rfl (hb hby d2_26) rfl rfl ?_
    show Steps p.tables e below (T17.setTop (mkF m 28 #[.val (.ref a0), .val (.ref x1), .val .null, .val (.long x3), .second, .val (.long x4), .second, .val .null] [.null, (.ref a0)])) _
    exact kt
  have f19 := ((((F_digest.other W5 (Or.inr (slot_ne (Or.inl (hw _ (List.mem_of_getElem? (i := 24) rfl))) (Or.inr (hw _ (List.mem_of_getElem? (i := 16) rfl))) (by decide) (t := (.array .byte)) (t' := (.array .byte)) (by decide) (by decide)))).other W9 (Or.inr (slot_ne (Or.inl (hw _ (List.mem_of_getElem? (i := 24) rfl))) (Or.inr (hw _ (List.mem_of_getElem? (i := 18) rfl))) (by decide) (t := (.array .byte)) (t' := (.object "com/example/affordance/affordance/Body$Source")) (by decide) (by decide)))).other W13 (Or.inr (slot_ne (Or.inl (hw _ (List.mem_of_getElem? (i := 24) rfl))) (Or.inr (hw _ (List.mem_of_getElem? (i := 20) rfl))) (by decide) (t := (.array .byte)) (t' := .long) (by decide) (by decide)))).other W17 (Or.inr (slot_ne (Or.inl (hw _ (List.mem_of_getElem? (i := 24) rfl))) (Or.inr (hw _ (List.mem_of_getElem? (i := 22) rfl))) (by decide) (t := (.array .byte)) (t' := .long) (by decide) (by decide))))
  have f20 := (f16.wr W17)
  obtain ⟨T21, h21, X21, e21, W21, st21⟩ := putF X17 hx hZ hown (host := "") (Or.inl (hw _ (List.mem_of_getElem? (i := 23) rfl))) Via.refl e17 f19 f20 (Or.inl (hw _ (List.mem_of_getElem? (i := 24) rfl))) (hw _ (List.mem_of_getElem? (i := 7) rfl)) (ty := (.array .byte)) (by decide) rfl rfl (g := (mkF m 28 #[.val (.ref a0), .val (.ref x1), .val .null, .val (.long x3), .second, .val (.long x4), .second, .val .null] [.null, (.ref a0)])) rfl rfl (hb hby d2_28)
  have K21 : ∀ t, Steps p.tables e below (T21.setTop (mkF m 31 #[.val (.ref a0), .val (.ref x1), .val .null, .val (.long x3), .second, .val (.long x4), .second, .val .null] [])) t → Steps p.tables e below G0 t := fun t kt => K18 t (st21 _ kt)
  have Fw21 := (f19).same W21
  have N21 := Fr.snoc X21 N17 gn
  have Z21 : n0 ≤ h21.size := Nat.le_trans Z17 (Keep.of_wr W21).1
  have KP21 := KP17.wr W21 (Or.inl (List.mem_of_getElem? (i := 0) rfl))
  have f22 := (f20.wr W21)
  have f23 := ((((Fw5.other W9 (Or.inr (slot_ne (Or.inr (hw _ (List.mem_of_getElem? (i := 16) rfl))) (Or.inr (hw _ (List.mem_of_getElem? (i := 18) rfl))) (by decide) (t := (.array .byte)) (t' := (.object "com/example/affordance/affordance/Body$Source")) (by decide) (by decide)))).other W13 (Or.inr (slot_ne (Or.inr (hw _ (List.mem_of_getElem? (i := 16) rfl))) (Or.inr (hw _ (List.mem_of_getElem? (i := 20) rfl))) (by decide) (t := (.array .byte)) (t' := .long) (by decide) (by decide)))).other W17 (Or.inr (slot_ne (Or.inr (hw _ (List.mem_of_getElem? (i := 16) rfl))) (Or.inr (hw _ (List.mem_of_getElem? (i := 22) rfl))) (by decide) (t := (.array .byte)) (t' := .long) (by decide) (by decide)))).other W21 (Or.inr (slot_ne (Or.inr (hw _ (List.mem_of_getElem? (i := 16) rfl))) (Or.inl (hw _ (List.mem_of_getElem? (i := 24) rfl))) (by decide) (t := (.array .byte)) (t' := (.array .byte)) (by decide) (by decide))))
  have f24 := (((Fw9.other W13 (Or.inr (slot_ne (Or.inr (hw _ (List.mem_of_getElem? (i := 18) rfl))) (Or.inr (hw _ (List.mem_of_getElem? (i := 20) rfl))) (by decide) (t := (.object "com/example/affordance/affordance/Body$Source")) (t' := .long) (by decide) (by decide)))).other W17 (Or.inr (slot_ne (Or.inr (hw _ (List.mem_of_getElem? (i := 18) rfl))) (Or.inr (hw _ (List.mem_of_getElem? (i := 22) rfl))) (by decide) (t := (.object "com/example/affordance/affordance/Body$Source")) (t' := .long) (by decide) (by decide)))).other W21 (Or.inr (slot_ne (Or.inr (hw _ (List.mem_of_getElem? (i := 18) rfl))) (Or.inl (hw _ (List.mem_of_getElem? (i := 24) rfl))) (by decide) (t := (.object "com/example/affordance/affordance/Body$Source")) (t' := (.array .byte)) (by decide) (by decide))))
  have f25 := ((Fw13.other W17 (Or.inr (slot_ne (Or.inr (hw _ (List.mem_of_getElem? (i := 20) rfl))) (Or.inr (hw _ (List.mem_of_getElem? (i := 22) rfl))) (by decide) (t := .long) (t' := .long) (by decide) (by decide)))).other W21 (Or.inr (slot_ne (Or.inr (hw _ (List.mem_of_getElem? (i := 20) rfl))) (Or.inl (hw _ (List.mem_of_getElem? (i := 24) rfl))) (by decide) (t := .long) (t' := (.array .byte)) (by decide) (by decide))))
  have f26 := (Fw17.other W21 (Or.inr (slot_ne (Or.inr (hw _ (List.mem_of_getElem? (i := 22) rfl))) (Or.inl (hw _ (List.mem_of_getElem? (i := 24) rfl))) (by decide) (t := .long) (t' := (.array .byte)) (by decide) (by decide))))
  obtain ⟨fs, hr, hrun, hended, hW, hsame⟩ := X21.leave (v := none) (fun _ => rfl)
  refine ⟨_, _, ?_, hrun, hended, _, _, rfl, ?_, ⟨_, rfl⟩, hW, hsame.mono (by decide) (by decide)⟩
  · rw [← hG0]
    refine K21 _ ?_
    exact X21.returnOut hx Bd.returns (hb hby d2_31) hr
  · show Q2 Z a0 x1 x3 x4 u_bytes u_source u_length u_heldBytes u_digest h0 n0 _ T21.heap _
    rw [e21]
    exact ⟨rfl, N21, KP21, f22, f23, f24, f25, f26, Fw21⟩
theorem d1_0 : decode prog_4_method_2_code 0 = .ok (.new 8, 3) := by decide +kernel
theorem d1_3 : decode prog_4_method_2_code 3 = .ok (.dup, 1) := by decide +kernel
theorem d1_4 : decode prog_4_method_2_code 4 = .ok (.aload_n 0, 1) := by decide +kernel
theorem d1_5 : decode prog_4_method_2_code 5 = .ok (.aconst_null, 1) := by decide +kernel
theorem d1_6 : decode prog_4_method_2_code 6 = .ok (.aload_n 0, 1) := by decide +kernel
theorem d1_7 : decode prog_4_method_2_code 7 = .ok (.arraylength, 1) := by decide +kernel
theorem d1_8 : decode prog_4_method_2_code 8 = .ok (.i2l, 1) := by decide +kernel
theorem d1_9 : decode prog_4_method_2_code 9 = .ok (.ldc2_w 29, 3) := by decide +kernel
theorem d1_12 : decode prog_4_method_2_code 12 = .ok (.aconst_null, 1) := by decide +kernel
theorem d1_13 : decode prog_4_method_2_code 13 = .ok (.invokespecial 31, 3) := by decide +kernel
theorem d1_16 : decode prog_4_method_2_code 16 = .ok (.areturn, 1) := by decide +kernel
theorem pd_P_BLcom_example_affordance_affordance_Body_Source_JJ_BQV : parseMethodDescriptor "([BLcom/example/affordance/affordance/Body$Source;JJ[B)V" = some ⟨[(.array .byte), (.object "com/example/affordance/affordance/Body$Source"), .long, .long, (.array .byte)], none⟩ := by decide +kernel
theorem ef_rm1 (m : MethodId) (a0 : Addr) : entryFrame m #[(.ref a0)] 1 = (mkF m 0 #[.val (.ref a0)] []) := by first | (simp [entryFrame, mkF, argsToLocals, Value.category]; done) | rfl
def Q1 (Z : State) (a0 : Addr) (ka : ClassId) (z : Int32) (vs : List Value) (dv : Value) (h0 : Heap) (n0 : Nat) (v : Option Value) (h : Heap) (L : List Loc) : Prop := ∃ r : Addr, v = some (.ref r) ∧ Fr n0 L ∧ Keep h0 h [] ∧ Exa Z h r "com/example/affordance/affordance/Body" ∧ Fld Z h r "com/example/affordance/affordance/Body" "bytes" "[B" (.ref a0) ∧ Fld Z h r "com/example/affordance/affordance/Body" "length" "J" (.long z.toInt64)
set_option maxRecDepth 65536 in
set_option maxHeartbeats 40000000 in
theorem rm1 (l : Launch) (Z : State) (aa : Array Value) (hw : ∀ d ∈ tables_1, d.before aa Z = true) (ws : List Jvm.Cond) (a0 : Addr) (ka : ClassId) (z : Int32) (vs : List Value) (dv : Value) (h0 : Heap) (n0 : Nat) (Z0 : n0 ≤ h0.size) (V0 : Arv Z h0 a0 ka .byte z vs dv) :
    MetFree l (⟨"com/example/affordance/affordance/Body", "held", "([B)Lcom/example/affordance/affordance/Body;"⟩ : MethodName) (head1 (Jvm.Cond.code (⟨"com/example/affordance/affordance/Body", "held", "([B)Lcom/example/affordance/affordance/Body;"⟩ : MethodName) prog_4_method_2_code 1 (some (.object "com/example/affordance/affordance/Body")) :: ws) ({ frames := 2, cells := 1, slots := 5, locals := 32 } : Room)) (fun a U => a = #[(.ref a0)] ∧ Z.Warmed39 U.vm ∧ U.heap = h0) (fun _ _ _ _ _ => True) (fun _ U o U' => ∃ v L, o = .returned v ∧ Q1 Z a0 ka z vs dv h0 n0 v U'.heap L ∧ FrameEnd U o U' L ({ frames := 2, cells := 1, slots := 5, locals := 32 } : Room).cells ({ frames := 2, cells := 1, slots := 5, locals := 32 } : Room).slots) := by
  refine MetFree.of_bodySF (plainFor_of_name pn_com_example_affordance_affordance_Body) hisR ?_
  intro p e s m args below meth c s₁ Bd hml0 hP hK
  obtain ⟨rfl, hZ, hh⟩ := hP
  have hx := Bd.exec
  have hby := Bd.bytes
  have hml : c.maxLocals = 1 := hml0
  have hown : s.vm.findClass "com/example/affordance/affordance/Body" = some m.cls := findClass_of_methodNamed Bd.named
  have hnm := (name_of_methodNamed Bd.named Bd.method).1
  have X0 : Stand p l e ({ frames := 2, cells := 1, slots := 5, locals := 32 } : Room) s m #[(.ref a0)] below meth c s₁ [] 0 0 := Stand.of_body Bd
  have e0 : s₁.heap = h0 := by rw [← hh, Bd.state]; rfl
  have N0 := Fr.nil n0
  obtain ⟨G0, hG0⟩ : ∃ G, G = s₁.setTop (entryFrame m #[(.ref a0)] 1) := ⟨_, rfl⟩
  have K0 : ∀ t, Steps p.tables e below (s₁.setTop (mkF m 0 #[.val (.ref a0)] [])) t → Steps p.tables e below G0 t := fun t k => by rw [hG0]; exact castTop (ef_rm1 m a0) k
  obtain ⟨T1, h1, X1, e1, E1, A1, D1, -, st1⟩ := newO X0 hx hZ hown (hw _ (List.mem_of_getElem? (i := 6) rfl)) (hw _ (List.mem_of_getElem? (i := 7) rfl)) (hw _ (List.mem_of_getElem? (i := 4) rfl)) e0 (g := (mkF m 0 #[.val (.ref a0)] [])) rfl (hb hby d1_0) (by decide) (by decide)
  obtain ⟨b1, g1⟩ : ∃ z, z = h0.size := ⟨_, rfl⟩
  rw [← g1] at A1 D1 st1
  have gn1 : n0 ≤ b1 := Nat.le_trans Z0 (Nat.le_of_eq g1.symm)
  have Z1 : n0 ≤ h1.size := Nat.le_trans Z0 E1.1
  have K1 : ∀ t, Steps p.tables e below (T1.setTop (mkF m 3 #[.val (.ref a0)] [(.ref b1)])) t → Steps p.tables e below G0 t := fun t kt => K0 t (st1 _ kt)
  have ne_a0_b1 : a0 ≠ b1 := Nat.ne_of_lt (Nat.lt_of_lt_of_le (V0).lt (Nat.le_of_eq g1.symm))
  have F_bytes_b1 := (D1 (Or.inr (hw _ (List.mem_of_getElem? (i := 16) rfl))) (ty := (.array .byte)) (by decide) : Fld Z h1 b1 "com/example/affordance/affordance/Body" "bytes" "[B" .null)
  have F_source_b1 := (D1 (Or.inr (hw _ (List.mem_of_getElem? (i := 18) rfl))) (ty := (.object "com/example/affordance/affordance/Body$Source")) (by decide) : Fld Z h1 b1 "com/example/affordance/affordance/Body" "source" "Lcom/example/affordance/affordance/Body$Source;" .null)
  have F_length_b1 := (D1 (Or.inr (hw _ (List.mem_of_getElem? (i := 20) rfl))) (ty := .long) (by decide) : Fld Z h1 b1 "com/example/affordance/affordance/Body" "length" "J" (.long (0 : Int64)))
  have F_heldBytes_b1 := (D1 (Or.inr (hw _ (List.mem_of_getElem? (i := 22) rfl))) (ty := .long) (by decide) : Fld Z h1 b1 "com/example/affordance/affordance/Body" "heldBytes" "J" (.long (0 : Int64)))
  have F_digest_b1 := (D1 (Or.inl (hw _ (List.mem_of_getElem? (i := 24) rfl))) (ty := (.array .byte)) (by decide) : Fld Z h1 b1 "com/example/affordance/affordance/Body" "digest" "[B" .null)
  have K2 : ∀ t, Steps p.tables e below (T1.setTop (mkF m 7 #[.val (.ref a0)] [(.ref a0), .null, (.ref a0), (.ref b1), (.ref b1)])) t → Steps p.tables e below G0 t := by
    intro t kt
    refine K1 t ?_
    refine XS.dup X1.here hx rfl (hb hby d1_3) rfl rfl ?_
    show Steps p.tables e below (T1.setTop (mkF m 4 #[.val (.ref a0)] [(.ref b1), (.ref b1)])) _
    refine XS.aloadN X1.here hx rfl (hb hby d1_4) rfl rfl ?_
    show Steps p.tables e below (T1.setTop (mkF m 5 #[.val (.ref a0)] [(.ref a0), (.ref b1), (.ref b1)])) _
    refine XS.aconstNull X1.here hx rfl (hb hby d1_5) ?_
    show Steps p.tables e below (T1.setTop (mkF m 6 #[.val (.ref a0)] [.null, (.ref a0), (.ref b1), (.ref b1)])) _
    refine XS.aloadN X1.here hx rfl (hb hby d1_6) rfl rfl ?_
    show Steps p.tables e below (T1.setTop (mkF m 7 #[.val (.ref a0)] [(.ref a0), .null, (.ref a0), (.ref b1), (.ref b1)])) _
    exact kt
  have f3 := (V0.ext E1)
  obtain ⟨cl4, Ar4, qq4, S4, M4, H4, GG4⟩ := id f3
  have K6 : ∀ t, Steps p.tables e below (T1.setTop (mkF m 13 #[.val (.ref a0)] [.null, (.long (9223372036854775807 : Int64)), (.long (z.toInt64)), .null, (.ref a0), (.ref b1), (.ref b1)])) t → Steps p.tables e below G0 t := by
    intro t kt
    refine K2 t ?_
    refine X1.arraylength hx (by rw [e1]; exact (Ar4).1) (State.isArrayOf_alike hZ.alike (Ar4).2.1) (g := (mkF m 7 #[.val (.ref a0)] [(.ref a0), .null, (.ref a0), (.ref b1), (.ref b1)])) rfl rfl (hb hby d1_7) _ ?_
    rw [len_of S4 M4]
    show Steps p.tables e below (T1.setTop (mkF m 8 #[.val (.ref a0)] [(.int z), .null, (.ref a0), (.ref b1), (.ref b1)])) _
    refine XS.i2l X1.here hx rfl (hb hby d1_8) rfl ?_
    show Steps p.tables e below (T1.setTop (mkF m 9 #[.val (.ref a0)] [(.long (z.toInt64)), .null, (.ref a0), (.ref b1), (.ref b1)])) _
    refine X1.ldc2Long hx hown (mvT hZ (hw _ (List.mem_of_getElem? (i := 8) rfl))) (g := (mkF m 9 #[.val (.ref a0)] [(.long (z.toInt64)), .null, (.ref a0), (.ref b1), (.ref b1)])) rfl (hb hby d1_9) _ ?_
    show Steps p.tables e below (T1.setTop (mkF m 12 #[.val (.ref a0)] [(.long (9223372036854775807 : Int64)), (.long (z.toInt64)), .null, (.ref a0), (.ref b1), (.ref b1)])) _
    refine XS.aconstNull X1.here hx rfl (hb hby d1_12) ?_
    show Steps p.tables e below (T1.setTop (mkF m 13 #[.val (.ref a0)] [.null, (.long (9223372036854775807 : Int64)), (.long (z.toInt64)), .null, (.ref a0), (.ref b1), (.ref b1)])) _
    exact kt
  obtain ⟨_, _, ⟨T7, L7, k7, n7⟩, -, X7, ⟨Lc7, hQ7, l7, y7, z7⟩, st7⟩ := X1.specialBack hx (y := (⟨"com/example/affordance/affordance/Body", "<init>", "([BLcom/example/affordance/affordance/Body$Source;JJ[B)V"⟩ : MethodName)) rfl hown (mvT hZ (hw _ (List.mem_of_getElem? (i := 9) rfl))) (mvT hZ (hw _ (List.mem_of_getElem? (i := 10) rfl))) (mvT hZ (hw _ (List.mem_of_getElem? (i := 11) rfl))) (by decide) (backOf (W := 1) (rm2 l Z aa hw [] (b1) (a0) ((z.toInt64)) ((9223372036854775807 : Int64)) _ _ _ _ _ h1 n0 Z1 gn1 A1 F_bytes_b1 F_source_b1 F_length_b1 F_heldBytes_b1 F_digest_b1) hZ (hw _ (List.mem_of_getElem? (i := 11) rfl)) (hw _ (List.mem_of_getElem? (i := 4) rfl)) (by decide) (by decide)) (g := (mkF m 13 #[.val (.ref a0)] [.null, (.long (9223372036854775807 : Int64)), (.long (z.toInt64)), .null, (.ref a0), (.ref b1), (.ref b1)])) rfl (by rw [hml]; rfl) (Steps.refl _) (a := b1) (argsL := [(.ref a0), .null, (.long (z.toInt64)), (.long (9223372036854775807 : Int64)), .null]) (rest := [(.ref b1)]) (lenOf pd_P_BLcom_example_affordance_affordance_Body_Source_JJ_BQV rfl) rfl (by show 2 * 0 + _ ≤ _; exact Nat.le_of_eq rfl) (hb hby d1_13) (fun _ _ => ⟨rfl, e1, (by decide : 1 + 0 ≤ _), (by decide : 5 + 0 ≤ _)⟩)
  dsimp only [Pt.U, Pt.locs, Pt.cells, Pt.slots] at X7 l7 y7 z7 st7 hQ7
  subst l7 y7 z7
  obtain ⟨rfl, N7q, KK5, EE5, Fc0_5, Fc1_5, Fc2_5, Fc3_5, Fc4_5⟩ := hQ7
  have N7 := Fr.app N0 N7q
  have K7 : ∀ t, Steps p.tables e below (T7.setTop (mkF m 16 #[.val (.ref a0)] [(.ref b1)])) t → Steps p.tables e below G0 t := fun t kt => K6 t (st7.trans kt)
  have ZZ5 : n0 ≤ T7.heap.size := Nat.le_trans Z1 KK5.1
  obtain ⟨fs, hr, hrun, hended, hW, hsame⟩ := X7.leave (v := some (.ref b1)) (fun h => by rw [Bd.returns] at h; cases h)
  refine ⟨_, _, ?_, hrun, hended, _, _, rfl, ?_, ⟨_, rfl⟩, hW, hsame.mono (by decide) (by decide)⟩
  · rw [← hG0]
    refine K7 _ ?_
    exact retOut X7 hx (t := (.object "com/example/affordance/affordance/Body")) Bd.returns rfl (Or.inr (Or.inr (Or.inr (Or.inr ⟨rfl, rfl, rfl⟩)))) (hb hby d1_16) hr
  · show Q1 Z a0 ka z vs dv h0 n0 _ T7.heap _
    exact ⟨_, rfl, N7, ((Keep.refl h0 []).ext E1).trans KK5 (fun x hx => Or.inr (by cases List.mem_singleton.mp hx; exact Nat.le_of_eq g1.symm)), EE5, Fc0_5, Fc2_5⟩
theorem d4_0 : decode prog_4_method_7_code 0 = .ok (.aload_n 0, 1) := by decide +kernel
theorem d4_1 : decode prog_4_method_7_code 1 = .ok (.getfield 17, 3) := by decide +kernel
theorem d4_4 : decode prog_4_method_7_code 4 = .ok (.lreturn, 1) := by decide +kernel
theorem ef_rm4 (m : MethodId) (a0 : Addr) : entryFrame m #[(.ref a0)] 1 = (mkF m 0 #[.val (.ref a0)] []) := by first | (simp [entryFrame, mkF, argsToLocals, Value.category]; done) | rfl
def Q4 (Z : State) (a0 : Addr) (z : Int64) (h0 : Heap) (n0 : Nat) (v : Option Value) (h : Heap) (L : List Loc) : Prop := v = some (.long z) ∧ Fr n0 L ∧ h = h0
set_option maxRecDepth 65536 in
set_option maxHeartbeats 40000000 in
theorem rm4 (l : Launch) (Z : State) (aa : Array Value) (hw : ∀ d ∈ tables_1, d.before aa Z = true) (ws : List Jvm.Cond) (a0 : Addr) (z : Int64) (h0 : Heap) (n0 : Nat) (Z0 : n0 ≤ h0.size) (F : Fld Z h0 a0 "com/example/affordance/affordance/Body" "length" "J" (.long z)) :
    MetFree l (⟨"com/example/affordance/affordance/Body", "length", "()J"⟩ : MethodName) (head1 (Jvm.Cond.code (⟨"com/example/affordance/affordance/Body", "length", "()J"⟩ : MethodName) prog_4_method_7_code 1 (some .long) :: ws) ({ frames := 0, cells := 0, slots := 0, locals := 0 } : Room)) (fun a U => a = #[(.ref a0)] ∧ Z.Warmed39 U.vm ∧ U.heap = h0) (fun _ _ _ _ _ => True) (fun _ U o U' => ∃ v L, o = .returned v ∧ Q4 Z a0 z h0 n0 v U'.heap L ∧ FrameEnd U o U' L ({ frames := 0, cells := 0, slots := 0, locals := 0 } : Room).cells ({ frames := 0, cells := 0, slots := 0, locals := 0 } : Room).slots) := by
  refine MetFree.of_bodySF (plainFor_of_name pn_com_example_affordance_affordance_Body) hisR ?_
  intro p e s m args below meth c s₁ Bd hml0 hP hK
  obtain ⟨rfl, hZ, hh⟩ := hP
  have hx := Bd.exec
  have hby := Bd.bytes
  have hml : c.maxLocals = 1 := hml0
  have hown : s.vm.findClass "com/example/affordance/affordance/Body" = some m.cls := findClass_of_methodNamed Bd.named
  have hnm := (name_of_methodNamed Bd.named Bd.method).1
  have X0 : Stand p l e ({ frames := 0, cells := 0, slots := 0, locals := 0 } : Room) s m #[(.ref a0)] below meth c s₁ [] 0 0 := Stand.of_body Bd
  have e0 : s₁.heap = h0 := by rw [← hh, Bd.state]; rfl
  have N0 := Fr.nil n0
  obtain ⟨G0, hG0⟩ : ∃ G, G = s₁.setTop (entryFrame m #[(.ref a0)] 1) := ⟨_, rfl⟩
  have K0 : ∀ t, Steps p.tables e below (s₁.setTop (mkF m 0 #[.val (.ref a0)] [])) t → Steps p.tables e below G0 t := fun t k => by rw [hG0]; exact castTop (ef_rm4 m a0) k
  have K1 : ∀ t, Steps p.tables e below (s₁.setTop (mkF m 1 #[.val (.ref a0)] [(.ref a0)])) t → Steps p.tables e below G0 t := by
    intro t kt
    refine K0 t ?_
    refine XS.aloadN X0.here hx rfl (hb hby d4_0) rfl rfl ?_
    show Steps p.tables e below (s₁.setTop (mkF m 1 #[.val (.ref a0)] [(.ref a0)])) _
    exact kt
  obtain ⟨T2, X2, e2, st2⟩ := getF X0 hx hZ hown (host := "") (Or.inl (hw _ (List.mem_of_getElem? (i := 19) rfl))) Via.refl e0 F (g := (mkF m 1 #[.val (.ref a0)] [(.ref a0)])) rfl rfl (hb hby d4_1)
  have K2 : ∀ t, Steps p.tables e below (T2.setTop (mkF m 4 #[.val (.ref a0)] [(.long z)])) t → Steps p.tables e below G0 t := fun t kt => K1 t (st2 _ kt)
  obtain ⟨fs, hr, hrun, hended, hW, hsame⟩ := X2.leave (v := some (.long z)) (fun h => by rw [Bd.returns] at h; cases h)
  refine ⟨_, _, ?_, hrun, hended, _, _, rfl, ?_, ⟨_, rfl⟩, hW, hsame.mono (by decide) (by decide)⟩
  · rw [← hG0]
    refine K2 _ ?_
    exact retOut X2 hx (t := .long) Bd.returns rfl (Or.inr (Or.inl ⟨rfl, rfl, _, rfl⟩)) (hb hby d4_4) hr
  · show Q4 Z a0 z h0 n0 _ T2.heap _
    rw [e2]
    exact ⟨rfl, N0, rfl⟩
theorem d5_0 : decode prog_4_method_6_code 0 = .ok (.aload_n 0, 1) := by decide +kernel
theorem d5_1 : decode prog_4_method_6_code 1 = .ok (.getfield 7, 3) := by decide +kernel
theorem d5_4 : decode prog_4_method_6_code 4 = .ok (.ifnonnull 13, 3) := by decide +kernel
theorem d5_7 : decode prog_4_method_6_code 7 = .ok (.new 84, 3) := by decide +kernel
theorem d5_10 : decode prog_4_method_6_code 10 = .ok (.dup, 1) := by decide +kernel
theorem d5_11 : decode prog_4_method_6_code 11 = .ok (.ldc 86, 2) := by decide +kernel
theorem d5_13 : decode prog_4_method_6_code 13 = .ok (.invokespecial 88, 3) := by decide +kernel
theorem d5_16 : decode prog_4_method_6_code 16 = .ok (.athrow, 1) := by decide +kernel
theorem d5_17 : decode prog_4_method_6_code 17 = .ok (.aload_n 0, 1) := by decide +kernel
theorem d5_18 : decode prog_4_method_6_code 18 = .ok (.getfield 7, 3) := by decide +kernel
theorem d5_21 : decode prog_4_method_6_code 21 = .ok (.areturn, 1) := by decide +kernel
theorem ef_rm5 (m : MethodId) (a0 : Addr) : entryFrame m #[(.ref a0)] 1 = (mkF m 0 #[.val (.ref a0)] []) := by first | (simp [entryFrame, mkF, argsToLocals, Value.category]; done) | rfl
def Q5 (Z : State) (a0 : Addr) (ar : Addr) (h0 : Heap) (n0 : Nat) (v : Option Value) (h : Heap) (L : List Loc) : Prop := v = some (.ref ar) ∧ Fr n0 L ∧ h = h0
set_option maxRecDepth 65536 in
set_option maxHeartbeats 40000000 in
theorem rm5 (l : Launch) (Z : State) (aa : Array Value) (hw : ∀ d ∈ tables_1, d.before aa Z = true) (ws : List Jvm.Cond) (a0 : Addr) (ar : Addr) (h0 : Heap) (n0 : Nat) (Z0 : n0 ≤ h0.size) (F : Fld Z h0 a0 "com/example/affordance/affordance/Body" "bytes" "[B" (.ref ar)) :
    MetFree l (⟨"com/example/affordance/affordance/Body", "bytes", "()[B"⟩ : MethodName) (head1 (Jvm.Cond.code (⟨"com/example/affordance/affordance/Body", "bytes", "()[B"⟩ : MethodName) prog_4_method_6_code 1 (some (.array .byte)) :: ws) ({ frames := 0, cells := 0, slots := 0, locals := 0 } : Room)) (fun a U => a = #[(.ref a0)] ∧ Z.Warmed39 U.vm ∧ U.heap = h0) (fun _ _ _ _ _ => True) (fun _ U o U' => ∃ v L, o = .returned v ∧ Q5 Z a0 ar h0 n0 v U'.heap L ∧ FrameEnd U o U' L ({ frames := 0, cells := 0, slots := 0, locals := 0 } : Room).cells ({ frames := 0, cells := 0, slots := 0, locals := 0 } : Room).slots) := by
  refine MetFree.of_bodySF (plainFor_of_name pn_com_example_affordance_affordance_Body) hisR ?_
  intro p e s m args below meth c s₁ Bd hml0 hP hK
  obtain ⟨rfl, hZ, hh⟩ := hP
  have hx := Bd.exec
  have hby := Bd.bytes
  have hml : c.maxLocals = 1 := hml0
  have hown : s.vm.findClass "com/example/affordance/affordance/Body" = some m.cls := findClass_of_methodNamed Bd.named
  have hnm := (name_of_methodNamed Bd.named Bd.method).1
  have X0 : Stand p l e ({ frames := 0, cells := 0, slots := 0, locals := 0 } : Room) s m #[(.ref a0)] below meth c s₁ [] 0 0 := Stand.of_body Bd
  have e0 : s₁.heap = h0 := by rw [← hh, Bd.state]; rfl
  have N0 := Fr.nil n0
  obtain ⟨G0, hG0⟩ : ∃ G, G = s₁.setTop (entryFrame m #[(.ref a0)] 1) := ⟨_, rfl⟩
  have K0 : ∀ t, Steps p.tables e below (s₁.setTop (mkF m 0 #[.val (.ref a0)] [])) t → Steps p.tables e below G0 t := fun t k => by rw [hG0]; exact castTop (ef_rm5 m a0) k
  have K1 : ∀ t, Steps p.tables e below (s₁.setTop (mkF m 1 #[.val (.ref a0)] [(.ref a0)])) t → Steps p.tables e below G0 t := by
    intro t kt
    refine K0 t ?_
    refine XS.aloadN X0.here hx rfl (hb hby d5_0) rfl rfl ?_
    show Steps p.tables e below (s₁.setTop (mkF m 1 #[.val (.ref a0)] [(.ref a0)])) _
    exact kt
  obtain ⟨T2, X2, e2, st2⟩ := getF X0 hx hZ hown (host := "") (Or.inl (hw _ (List.mem_of_getElem? (i := 15) rfl))) Via.refl e0 F (g := (mkF m 1 #[.val (.ref a0)] [(.ref a0)])) rfl rfl (hb hby d5_1)
  have K2 : ∀ t, Steps p.tables e below (T2.setTop (mkF m 4 #[.val (.ref a0)] [(.ref ar)])) t → Steps p.tables e below G0 t := fun t kt => K1 t (st2 _ kt)
  have K3 : ∀ t, Steps p.tables e below (T2.setTop (mkF m 18 #[.val (.ref a0)] [(.ref a0)])) t → Steps p.tables e below G0 t := by
    intro t kt
    refine K2 t ?_
    refine XS.ifnonnullYes X2.here hx rfl (pc0 := 4) (pc' := 17) rfl (hb hby d5_4) rfl (by decide) (by decide) ?_
    show Steps p.tables e below (T2.setTop (mkF m 17 #[.val (.ref a0)] [])) _
    refine XS.aloadN X2.here hx rfl (hb hby d5_17) rfl rfl ?_
    show Steps p.tables e below (T2.setTop (mkF m 18 #[.val (.ref a0)] [(.ref a0)])) _
    exact kt
  obtain ⟨T4, X4, e4, st4⟩ := getF X2 hx hZ hown (host := "") (Or.inl (hw _ (List.mem_of_getElem? (i := 15) rfl))) Via.refl e2 F (g := (mkF m 18 #[.val (.ref a0)] [(.ref a0)])) rfl rfl (hb hby d5_18)
  have K4 : ∀ t, Steps p.tables e below (T4.setTop (mkF m 21 #[.val (.ref a0)] [(.ref ar)])) t → Steps p.tables e below G0 t := fun t kt => K3 t (st4 _ kt)
  obtain ⟨fs, hr, hrun, hended, hW, hsame⟩ := X4.leave (v := some (.ref ar)) (fun h => by rw [Bd.returns] at h; cases h)
  refine ⟨_, _, ?_, hrun, hended, _, _, rfl, ?_, ⟨_, rfl⟩, hW, hsame.mono (by decide) (by decide)⟩
  · rw [← hG0]
    refine K4 _ ?_
    exact retOut X4 hx (t := (.array .byte)) Bd.returns rfl (Or.inr (Or.inr (Or.inr (Or.inr ⟨rfl, rfl, rfl⟩)))) (hb hby d5_21) hr
  · show Q5 Z a0 ar h0 n0 _ T4.heap _
    rw [e4]
    exact ⟨rfl, N0, rfl⟩
theorem pd_P_BQLcom_example_affordance_affordance_Body_ : parseMethodDescriptor "([B)Lcom/example/affordance/affordance/Body;" = some ⟨[(.array .byte)], some (.object "com/example/affordance/affordance/Body")⟩ := by decide +kernel
theorem pd_PQJ : parseMethodDescriptor "()J" = some ⟨[], some .long⟩ := by decide +kernel
theorem pd_PQ_B : parseMethodDescriptor "()[B" = some ⟨[], some (.array .byte)⟩ := by decide +kernel
theorem pd_P_BIIIQZ : parseMethodDescriptor "([BIII)Z" = some ⟨[(.array .byte), .int, .int, .int], some .boolean⟩ := by decide +kernel
theorem ef_rm0 (m : MethodId) (p0 : Int32) (p1 : Int32) : entryFrame m #[(.int p0), (.int p1)] maxLocals = (mkF m 0 #[.val (.int p0), .val (.int p1), .unset, .unset, .unset, .unset] []) := by first | (simp [entryFrame, mkF, argsToLocals, Value.category, maxLocals]; done) | rfl
def Q0 (Z : State) (p0 : Int32) (p1 : Int32) (h0 : Heap) (n0 : Nat) (v : Option Value) (h : Heap) (L : List Loc) : Prop := v = some (.int 1) ∧ Fr n0 L
set_option maxRecDepth 65536 in
set_option maxHeartbeats 40000000 in
theorem rm0 (l : Launch) (Z : State) (aa : Array Value) (hw : ∀ d ∈ tables_1, d.before aa Z = true) (ws : List Jvm.Cond) (p0 : Int32) (p1 : Int32) (h0 : Heap) (n0 : Nat) (Z0 : n0 ≤ h0.size) :
    MetFree l x (head1 (Jvm.Cond.code x code maxLocals ret :: ws) room_1) (fun a U => a = #[(.int p0), (.int p1)] ∧ Z.Warmed39 U.vm ∧ U.heap = h0) (fun _ _ _ _ _ => True) (fun _ U o U' => ∃ v L, o = .returned v ∧ Q0 Z p0 p1 h0 n0 v U'.heap L ∧ FrameEnd U o U' L room_1.cells room_1.slots) := by
  refine MetFree.of_bodySF (plainFor_of_name pn_com_example_affordance_affordance_BodyHeldPinLaw) hisR ?_
  intro p e s m args below meth c s₁ Bd hml0 hP hK
  obtain ⟨rfl, hZ, hh⟩ := hP
  have hx := Bd.exec
  have hby := Bd.bytes
  have hml : c.maxLocals = 6 := hml0
  have hown : s.vm.findClass "com/example/affordance/affordance/BodyHeldPinLaw" = some m.cls := findClass_of_methodNamed Bd.named
  have hnm := (name_of_methodNamed Bd.named Bd.method).1
  have X0 : Stand p l e room_1 s m #[(.int p0), (.int p1)] below meth c s₁ [] 0 0 := Stand.of_body Bd
  have e0 : s₁.heap = h0 := by rw [← hh, Bd.state]; rfl
  have N0 := Fr.nil n0
  obtain ⟨G0, hG0⟩ : ∃ G, G = s₁.setTop (entryFrame m #[(.int p0), (.int p1)] maxLocals) := ⟨_, rfl⟩
  have K0 : ∀ t, Steps p.tables e below (s₁.setTop (mkF m 0 #[.val (.int p0), .val (.int p1), .unset, .unset, .unset, .unset] [])) t → Steps p.tables e below G0 t := fun t k => by rw [hG0]; exact castTop (ef_rm0 m p0 p1) k
  have K1 : ∀ t, Steps p.tables e below (s₁.setTop (mkF m 7 #[.val (.int p0), .val (.int p1), .val (.int ((p0 &&& (2147483647 : Int32)) % (5 : Int32))), .unset, .unset, .unset] [])) t → Steps p.tables e below G0 t := by
    intro t kt
    refine K0 t ?_
    refine XS.iloadN X0.here hx rfl (hb hby at_0) rfl ?_
    show Steps p.tables e below (s₁.setTop (mkF m 1 #[.val (.int p0), .val (.int p1), .unset, .unset, .unset, .unset] [(.int p0)])) _
    refine X0.ldcInt hx hown (mvT hZ (hw _ (List.mem_of_getElem? (i := 0) rfl))) (g := (mkF m 1 #[.val (.int p0), .val (.int p1), .unset, .unset, .unset, .unset] [(.int p0)])) rfl (hb hby at_1) _ ?_
    show Steps p.tables e below (s₁.setTop (mkF m 3 #[.val (.int p0), .val (.int p1), .unset, .unset, .unset, .unset] [(.int (2147483647 : Int32)), (.int p0)])) _
    refine XS.iand X0.here hx rfl (hb hby at_3) rfl ?_
    show Steps p.tables e below (s₁.setTop (mkF m 4 #[.val (.int p0), .val (.int p1), .unset, .unset, .unset, .unset] [(.int (p0 &&& (2147483647 : Int32)))])) _
    refine XS.iconst X0.here hx rfl (hb hby at_4) ?_
    show Steps p.tables e below (s₁.setTop (mkF m 5 #[.val (.int p0), .val (.int p1), .unset, .unset, .unset, .unset] [(.int (5 : Int32)), (.int (p0 &&& (2147483647 : Int32)))])) _
    refine iremM X0 hx rfl (hb hby at_5) rfl (by decide) ?_
    show Steps p.tables e below (s₁.setTop (mkF m 6 #[.val (.int p0), .val (.int p1), .unset, .unset, .unset, .unset] [(.int ((p0 &&& (2147483647 : Int32)) % (5 : Int32)))])) _
    refine XS.istoreN X0.here hx rfl (hb hby at_6) rfl (l' := #[.val (.int p0), .val (.int p1), .val (.int ((p0 &&& (2147483647 : Int32)) % (5 : Int32))), .unset, .unset, .unset]) rfl ?_
    show Steps p.tables e below (s₁.setTop (mkF m 7 #[.val (.int p0), .val (.int p1), .val (.int ((p0 &&& (2147483647 : Int32)) % (5 : Int32))), .unset, .unset, .unset] [])) _
    exact kt
  have hn := own_n p0
  obtain ⟨n, h_n⟩ : ∃ z, z = ((p0 &&& (2147483647 : Int32)) % (5 : Int32)) := ⟨_, rfl⟩
  rw [← h_n] at K1
  simp only [← h_n] at hn
  rcases hn with hn | hn | hn | hn | hn
  ·
    rw [hn] at K1
    have K2 : ∀ t, Steps p.tables e below (s₁.setTop (mkF m 8 #[.val (.int p0), .val (.int p1), .val (.int (0 : Int32)), .unset, .unset, .unset] [(.int (0 : Int32))])) t → Steps p.tables e below G0 t := by
      intro t kt
      refine K1 t ?_
      refine XS.iloadN X0.here hx rfl (hb hby at_7) rfl ?_
      show Steps p.tables e below (s₁.setTop (mkF m 8 #[.val (.int p0), .val (.int p1), .val (.int (0 : Int32)), .unset, .unset, .unset] [(.int (0 : Int32))])) _
      exact kt
    obtain ⟨T3, h3, k3, X3, e3, E3, A3, st3⟩ := newP X0 hx hZ (hw _ (List.mem_of_getElem? (i := 1) rfl)) e0 (g := (mkF m 8 #[.val (.int p0), .val (.int p1), .val (.int (0 : Int32)), .unset, .unset, .unset] [(.int (0 : Int32))])) rfl (hb hby at_8) rfl (by decide) (cap := 0) (by decide) (by decide) (by decide) (by decide)
    obtain ⟨b3, g3⟩ : ∃ z, z = h0.size := ⟨_, rfl⟩
    rw [← g3] at A3 st3
    have V3 := Arv.new A3 (by decide)
    have gn3 : n0 ≤ b3 := Nat.le_trans Z0 (Nat.le_of_eq g3.symm)
    have Z3 : n0 ≤ h3.size := Nat.le_trans Z0 E3.1
    have K3 : ∀ t, Steps p.tables e below (T3.setTop (mkF m 10 #[.val (.int p0), .val (.int p1), .val (.int (0 : Int32)), .unset, .unset, .unset] [(.ref b3)])) t → Steps p.tables e below G0 t := fun t kt => K2 t (st3 _ kt)
    have VL3 : Arv Z h3 b3 k3 .byte (0 : Int32) [] (.int (0 : Int32)) := V3
    have K4 : ∀ t, Steps p.tables e below (T3.setTop (mkF m 63 #[.val (.int p0), .val (.int p1), .val (.int (0 : Int32)), .val (.ref b3), .unset, .unset] [(.ref b3)])) t → Steps p.tables e below G0 t := by
      intro t kt
      refine K3 t ?_
      refine XS.astoreN X3.here hx rfl (hb hby at_10) rfl rfl (l' := #[.val (.int p0), .val (.int p1), .val (.int (0 : Int32)), .val (.ref b3), .unset, .unset]) rfl ?_
      show Steps p.tables e below (T3.setTop (mkF m 11 #[.val (.int p0), .val (.int p1), .val (.int (0 : Int32)), .val (.ref b3), .unset, .unset] [])) _
      refine XS.iloadN X3.here hx rfl (hb hby at_11) rfl ?_
      show Steps p.tables e below (T3.setTop (mkF m 12 #[.val (.int p0), .val (.int p1), .val (.int (0 : Int32)), .val (.ref b3), .unset, .unset] [(.int (0 : Int32))])) _
      refine XS.ifYes X3.here hx rfl (pc0 := 12) (pc' := 23) rfl (hb hby at_12) rfl ((if0 _ _).trans (flt (by decide)).2.2.2) (by decide) (by decide) ?_
      show Steps p.tables e below (T3.setTop (mkF m 23 #[.val (.int p0), .val (.int p1), .val (.int (0 : Int32)), .val (.ref b3), .unset, .unset] [])) _
      refine XS.iloadN X3.here hx rfl (hb hby at_23) rfl ?_
      show Steps p.tables e below (T3.setTop (mkF m 24 #[.val (.int p0), .val (.int p1), .val (.int (0 : Int32)), .val (.ref b3), .unset, .unset] [(.int (0 : Int32))])) _
      refine XS.iconst X3.here hx rfl (hb hby at_24) ?_
      show Steps p.tables e below (T3.setTop (mkF m 25 #[.val (.int p0), .val (.int p1), .val (.int (0 : Int32)), .val (.ref b3), .unset, .unset] [(.int (1 : Int32)), (.int (0 : Int32))])) _
      refine XS.icmpYes X3.here hx rfl (pc0 := 25) (pc' := 36) rfl (hb hby at_25) rfl (flt (by decide)).2.2.2 (by decide) (by decide) ?_
      show Steps p.tables e below (T3.setTop (mkF m 36 #[.val (.int p0), .val (.int p1), .val (.int (0 : Int32)), .val (.ref b3), .unset, .unset] [])) _
      refine XS.iloadN X3.here hx rfl (hb hby at_36) rfl ?_
      show Steps p.tables e below (T3.setTop (mkF m 37 #[.val (.int p0), .val (.int p1), .val (.int (0 : Int32)), .val (.ref b3), .unset, .unset] [(.int (0 : Int32))])) _
      refine XS.iconst X3.here hx rfl (hb hby at_37) ?_
      show Steps p.tables e below (T3.setTop (mkF m 38 #[.val (.int p0), .val (.int p1), .val (.int (0 : Int32)), .val (.ref b3), .unset, .unset] [(.int (2 : Int32)), (.int (0 : Int32))])) _
      refine XS.icmpYes X3.here hx rfl (pc0 := 38) (pc' := 49) rfl (hb hby at_38) rfl (flt (by decide)).2.2.2 (by decide) (by decide) ?_
      show Steps p.tables e below (T3.setTop (mkF m 49 #[.val (.int p0), .val (.int p1), .val (.int (0 : Int32)), .val (.ref b3), .unset, .unset] [])) _
      refine XS.iloadN X3.here hx rfl (hb hby at_49) rfl ?_
      show Steps p.tables e below (T3.setTop (mkF m 50 #[.val (.int p0), .val (.int p1), .val (.int (0 : Int32)), .val (.ref b3), .unset, .unset] [(.int (0 : Int32))])) _
      refine XS.iconst X3.here hx rfl (hb hby at_50) ?_
      show Steps p.tables e below (T3.setTop (mkF m 51 #[.val (.int p0), .val (.int p1), .val (.int (0 : Int32)), .val (.ref b3), .unset, .unset] [(.int (3 : Int32)), (.int (0 : Int32))])) _
      refine XS.icmpYes X3.here hx rfl (pc0 := 51) (pc' := 62) rfl (hb hby at_51) rfl (flt (by decide)).2.2.2 (by decide) (by decide) ?_
      show Steps p.tables e below (T3.setTop (mkF m 62 #[.val (.int p0), .val (.int p1), .val (.int (0 : Int32)), .val (.ref b3), .unset, .unset] [])) _
      refine XS.aloadN X3.here hx rfl (hb hby at_62) rfl rfl ?_
      show Steps p.tables e below (T3.setTop (mkF m 63 #[.val (.int p0), .val (.int p1), .val (.int (0 : Int32)), .val (.ref b3), .unset, .unset] [(.ref b3)])) _
      exact kt
    obtain ⟨_, _, ⟨T5, L5, k5, n5⟩, -, X5, ⟨Lc5, hQ5, l5, y5, z5⟩, st5⟩ := Jvm.LawKit.callS X3 hx (y := (⟨"com/example/affordance/affordance/Body", "held", "([B)Lcom/example/affordance/affordance/Body;"⟩ : MethodName)) hown (mvT hZ (hw _ (List.mem_of_getElem? (i := 2) rfl))) (mvT hZ (hw _ (List.mem_of_getElem? (i := 3) rfl))) (mvT hZ (hw _ (List.mem_of_getElem? (i := 4) rfl))) (mvT hZ (hw _ (List.mem_of_getElem? (i := 5) rfl))) (by decide) (backOf (W := 0) (rm1 l Z aa hw [] (b3) _ (0 : Int32) _ _ h3 n0 Z3 VL3) hZ (hw _ (List.mem_of_getElem? (i := 5) rfl)) (hw _ (List.mem_of_getElem? (i := 4) rfl)) (by decide) (by decide)) (g := (mkF m 63 #[.val (.int p0), .val (.int p1), .val (.int (0 : Int32)), .val (.ref b3), .unset, .unset] [(.ref b3)])) rfl (by rw [hml]; rfl) (argsL := [(.ref b3)]) (rest := []) (lenOf pd_P_BQLcom_example_affordance_affordance_Body_ rfl) rfl (by show 2 * 0 + _ ≤ _; exact Nat.le_of_eq rfl) (hb hby at_63) (fun _ _ => ⟨rfl, e3, (by decide : 1 + 1 ≤ _), (by decide : 0 + 5 ≤ _)⟩)
    dsimp only [Pt.U, Pt.locs, Pt.cells, Pt.slots] at X5 l5 y5 z5 st5 hQ5
    subst l5 y5 z5
    obtain ⟨r5, rfl, N5q, KV5, EV5, FB5, FL5⟩ := hQ5
    have N5 := Fr.app N0 N5q
    have K5 : ∀ t, Steps p.tables e below (T5.setTop (mkF m 66 #[.val (.int p0), .val (.int p1), .val (.int (0 : Int32)), .val (.ref b3), .unset, .unset] [(.ref r5)])) t → Steps p.tables e below G0 t := fun t kt => K4 t (st5 _ kt)
    have Z5 : n0 ≤ T5.heap.size := Nat.le_trans Z3 KV5.1
    have K6 : ∀ t, Steps p.tables e below (T5.setTop (mkF m 70 #[.val (.int p0), .val (.int p1), .val (.int (0 : Int32)), .val (.ref b3), .val (.ref r5), .unset] [(.ref r5)])) t → Steps p.tables e below G0 t := by
      intro t kt
      refine K5 t ?_
      refine XS.astore X5.here hx rfl (hb hby at_66) rfl rfl (l' := #[.val (.int p0), .val (.int p1), .val (.int (0 : Int32)), .val (.ref b3), .val (.ref r5), .unset]) rfl ?_
      show Steps p.tables e below (T5.setTop (mkF m 68 #[.val (.int p0), .val (.int p1), .val (.int (0 : Int32)), .val (.ref b3), .val (.ref r5), .unset] [])) _
      refine XS.aload X5.here hx rfl (hb hby at_68) rfl rfl ?_
      show Steps p.tables e below (T5.setTop (mkF m 70 #[.val (.int p0), .val (.int p1), .val (.int (0 : Int32)), .val (.ref b3), .val (.ref r5), .unset] [(.ref r5)])) _
      exact kt
    obtain ⟨cq7, kq7, q7a, q7b, q7c⟩ := isOf hZ (rfl : T5.heap = _) EV5
    obtain ⟨_, _, ⟨T8, L8, k8, n8⟩, -, X8, ⟨Lc8, hQ8, l8, y8, z8⟩, st8⟩ := X5.virtualBack hx (y := (⟨"com/example/affordance/affordance/Body", "length", "()J"⟩ : MethodName)) (z := (⟨"com/example/affordance/affordance/Body", "length", "()J"⟩ : MethodName)) hown (mvT hZ (hw _ (List.mem_of_getElem? (i := 25) rfl))) (mvT hZ (hw _ (List.mem_of_getElem? (i := 26) rfl))) (notFace_of_selects (args := #[]) (mvT hZ (hw _ (List.mem_of_getElem? (i := 28) rfl)))) (mvT hZ (hw _ (List.mem_of_getElem? (i := 28) rfl))) (mvT hZ (hw _ (List.mem_of_getElem? (i := 27) rfl))) (by decide) (backOf (W := 0) (rm4 l Z aa hw [] (r5) ((0 : Int32)).toInt64 T5.heap n0 Z5 FL5) hZ (hw _ (List.mem_of_getElem? (i := 29) rfl)) (hw _ (List.mem_of_getElem? (i := 4) rfl)) (by decide) (by decide)) q7a q7c (g := (mkF m 70 #[.val (.int p0), .val (.int p1), .val (.int (0 : Int32)), .val (.ref b3), .val (.ref r5), .unset] [(.ref r5)])) rfl (by rw [hml]; rfl) (Steps.refl _) (argsL := []) (rest := []) (lenOf pd_PQJ rfl) rfl (by show 2 * 0 + _ ≤ _; exact Nat.le_of_eq rfl) (hb hby at_70) (fun _ _ => ⟨rfl, (rfl : T5.heap = _), (by decide : 2 + 0 ≤ _), (by decide : 5 + 0 ≤ _)⟩)
    dsimp only [Pt.U, Pt.locs, Pt.cells, Pt.slots] at X8 l8 y8 z8 st8 hQ8
    subst l8 y8 z8
    obtain ⟨rfl, N8q, e8⟩ := hQ8
    have N8 := Fr.app N5 N8q
    have K8 : ∀ t, Steps p.tables e below (T8.setTop (mkF m 73 #[.val (.int p0), .val (.int p1), .val (.int (0 : Int32)), .val (.ref b3), .val (.ref r5), .unset] [(.long ((0 : Int32)).toInt64)])) t → Steps p.tables e below G0 t := fun t kt => K6 t (st8.trans kt)
    have K9 : ∀ t, Steps p.tables e below (T8.setTop (mkF m 83 #[.val (.int p0), .val (.int p1), .val (.int (0 : Int32)), .val (.ref b3), .val (.ref r5), .unset] [(.ref r5)])) t → Steps p.tables e below G0 t := by
      intro t kt
      refine K8 t ?_
      refine XS.iloadN X8.here hx rfl (hb hby at_73) rfl ?_
      show Steps p.tables e below (T8.setTop (mkF m 74 #[.val (.int p0), .val (.int p1), .val (.int (0 : Int32)), .val (.ref b3), .val (.ref r5), .unset] [(.int (0 : Int32)), (.long ((0 : Int32)).toInt64)])) _
      refine XS.i2l X8.here hx rfl (hb hby at_74) rfl ?_
      show Steps p.tables e below (T8.setTop (mkF m 75 #[.val (.int p0), .val (.int p1), .val (.int (0 : Int32)), .val (.ref b3), .val (.ref r5), .unset] [(.long ((0 : Int32).toInt64)), (.long ((0 : Int32)).toInt64)])) _
      refine XS.lcmp X8.here hx rfl (hb hby at_75) rfl ?_
      show Steps p.tables e below (T8.setTop (mkF m 76 #[.val (.int p0), .val (.int p1), .val (.int (0 : Int32)), .val (.ref b3), .val (.ref r5), .unset] [(.int (lcmpW ((0 : Int32)).toInt64 ((0 : Int32).toInt64)))])) _
      refine XS.ifYes X8.here hx rfl (pc0 := 76) (pc' := 81) rfl (hb hby at_76) rfl ((if0 _ _).trans (teq ((lw_eq _ _).mpr rfl)).1) (by decide) (by decide) ?_
      show Steps p.tables e below (T8.setTop (mkF m 81 #[.val (.int p0), .val (.int p1), .val (.int (0 : Int32)), .val (.ref b3), .val (.ref r5), .unset] [])) _
      refine XS.aload X8.here hx rfl (hb hby at_81) rfl rfl ?_
      show Steps p.tables e below (T8.setTop (mkF m 83 #[.val (.int p0), .val (.int p1), .val (.int (0 : Int32)), .val (.ref b3), .val (.ref r5), .unset] [(.ref r5)])) _
      exact kt
    obtain ⟨cq10, kq10, q10a, q10b, q10c⟩ := isOf hZ e8 EV5
    obtain ⟨_, _, ⟨T11, L11, k11, n11⟩, -, X11, ⟨Lc11, hQ11, l11, y11, z11⟩, st11⟩ := X8.virtualBack hx (y := (⟨"com/example/affordance/affordance/Body", "bytes", "()[B"⟩ : MethodName)) (z := (⟨"com/example/affordance/affordance/Body", "bytes", "()[B"⟩ : MethodName)) hown (mvT hZ (hw _ (List.mem_of_getElem? (i := 30) rfl))) (mvT hZ (hw _ (List.mem_of_getElem? (i := 31) rfl))) (notFace_of_selects (args := #[]) (mvT hZ (hw _ (List.mem_of_getElem? (i := 33) rfl)))) (mvT hZ (hw _ (List.mem_of_getElem? (i := 33) rfl))) (mvT hZ (hw _ (List.mem_of_getElem? (i := 32) rfl))) (by decide) (backOf (W := 0) (rm5 l Z aa hw [] (r5) b3 T5.heap n0 Z5 FB5) hZ (hw _ (List.mem_of_getElem? (i := 34) rfl)) (hw _ (List.mem_of_getElem? (i := 4) rfl)) (by decide) (by decide)) q10a q10c (g := (mkF m 83 #[.val (.int p0), .val (.int p1), .val (.int (0 : Int32)), .val (.ref b3), .val (.ref r5), .unset] [(.ref r5)])) rfl (by rw [hml]; rfl) (Steps.refl _) (argsL := []) (rest := []) (lenOf pd_PQ_B rfl) rfl (by show 2 * 0 + _ ≤ _; exact Nat.le_of_eq rfl) (hb hby at_83) (fun _ _ => ⟨rfl, e8, (by decide : 2 + 0 ≤ _), (by decide : 5 + 0 ≤ _)⟩)
    dsimp only [Pt.U, Pt.locs, Pt.cells, Pt.slots] at X11 l11 y11 z11 st11 hQ11
    subst l11 y11 z11
    obtain ⟨rfl, N11q, e11⟩ := hQ11
    have N11 := Fr.app N8 N11q
    have K11 : ∀ t, Steps p.tables e below (T11.setTop (mkF m 86 #[.val (.int p0), .val (.int p1), .val (.int (0 : Int32)), .val (.ref b3), .val (.ref r5), .unset] [(.ref b3)])) t → Steps p.tables e below G0 t := fun t kt => K9 t (st11.trans kt)
    have K12 : ∀ t, Steps p.tables e below (T11.setTop (mkF m 95 #[.val (.int p0), .val (.int p1), .val (.int (0 : Int32)), .val (.ref b3), .val (.ref r5), .val (.ref b3)] [(.ref b3)])) t → Steps p.tables e below G0 t := by
      intro t kt
      refine K11 t ?_
      refine XS.astore X11.here hx rfl (hb hby at_86) rfl rfl (l' := #[.val (.int p0), .val (.int p1), .val (.int (0 : Int32)), .val (.ref b3), .val (.ref r5), .val (.ref b3)]) rfl ?_
      show Steps p.tables e below (T11.setTop (mkF m 88 #[.val (.int p0), .val (.int p1), .val (.int (0 : Int32)), .val (.ref b3), .val (.ref r5), .val (.ref b3)] [])) _
      refine XS.aload X11.here hx rfl (hb hby at_88) rfl rfl ?_
      show Steps p.tables e below (T11.setTop (mkF m 90 #[.val (.int p0), .val (.int p1), .val (.int (0 : Int32)), .val (.ref b3), .val (.ref r5), .val (.ref b3)] [(.ref b3)])) _
      refine XS.ifnullNo X11.here hx rfl (hb hby at_90) rfl ?_
      show Steps p.tables e below (T11.setTop (mkF m 93 #[.val (.int p0), .val (.int p1), .val (.int (0 : Int32)), .val (.ref b3), .val (.ref r5), .val (.ref b3)] [])) _
      refine XS.aload X11.here hx rfl (hb hby at_93) rfl rfl ?_
      show Steps p.tables e below (T11.setTop (mkF m 95 #[.val (.int p0), .val (.int p1), .val (.int (0 : Int32)), .val (.ref b3), .val (.ref r5), .val (.ref b3)] [(.ref b3)])) _
      exact kt
    have f13 := (VL3.keep KV5 (fun q => nomatch q))
    obtain ⟨cl14, Ar14, qq14, S14, M14, H14, GG14⟩ := id f13
    have K15 : ∀ t, Steps p.tables e below (T11.setTop (mkF m 107 #[.val (.int p0), .val (.int p1), .val (.int (0 : Int32)), .val (.ref b3), .val (.ref r5), .val (.ref b3)] [(.int (0 : Int32)), (.int p1), (.int (0 : Int32)), (.ref b3)])) t → Steps p.tables e below G0 t := by
      intro t kt
      refine K12 t ?_
      refine X11.arraylength hx (by rw [e11]; exact (Ar14).1) (State.isArrayOf_alike hZ.alike (Ar14).2.1) (g := (mkF m 95 #[.val (.int p0), .val (.int p1), .val (.int (0 : Int32)), .val (.ref b3), .val (.ref r5), .val (.ref b3)] [(.ref b3)])) rfl rfl (hb hby at_95) _ ?_
      rw [len_of S14 M14]
      show Steps p.tables e below (T11.setTop (mkF m 96 #[.val (.int p0), .val (.int p1), .val (.int (0 : Int32)), .val (.ref b3), .val (.ref r5), .val (.ref b3)] [(.int (0 : Int32))])) _
      refine XS.iloadN X11.here hx rfl (hb hby at_96) rfl ?_
      show Steps p.tables e below (T11.setTop (mkF m 97 #[.val (.int p0), .val (.int p1), .val (.int (0 : Int32)), .val (.ref b3), .val (.ref r5), .val (.ref b3)] [(.int (0 : Int32)), (.int (0 : Int32))])) _
      refine XS.icmpYes X11.here hx rfl (pc0 := 97) (pc' := 102) rfl (hb hby at_97) rfl (teq rfl).1 (by decide) (by decide) ?_
      show Steps p.tables e below (T11.setTop (mkF m 102 #[.val (.int p0), .val (.int p1), .val (.int (0 : Int32)), .val (.ref b3), .val (.ref r5), .val (.ref b3)] [])) _
      refine XS.aload X11.here hx rfl (hb hby at_102) rfl rfl ?_
      show Steps p.tables e below (T11.setTop (mkF m 104 #[.val (.int p0), .val (.int p1), .val (.int (0 : Int32)), .val (.ref b3), .val (.ref r5), .val (.ref b3)] [(.ref b3)])) _
      refine XS.iloadN X11.here hx rfl (hb hby at_104) rfl ?_
      show Steps p.tables e below (T11.setTop (mkF m 105 #[.val (.int p0), .val (.int p1), .val (.int (0 : Int32)), .val (.ref b3), .val (.ref r5), .val (.ref b3)] [(.int (0 : Int32)), (.ref b3)])) _
      refine XS.iloadN X11.here hx rfl (hb hby at_105) rfl ?_
      show Steps p.tables e below (T11.setTop (mkF m 106 #[.val (.int p0), .val (.int p1), .val (.int (0 : Int32)), .val (.ref b3), .val (.ref r5), .val (.ref b3)] [(.int p1), (.int (0 : Int32)), (.ref b3)])) _
      refine XS.iconst X11.here hx rfl (hb hby at_106) ?_
      show Steps p.tables e below (T11.setTop (mkF m 107 #[.val (.int p0), .val (.int p1), .val (.int (0 : Int32)), .val (.ref b3), .val (.ref r5), .val (.ref b3)] [(.int (0 : Int32)), (.int p1), (.int (0 : Int32)), (.ref b3)])) _
      exact kt
    obtain ⟨_, _, ⟨T16, L16, k16, n16⟩, -, X16, ⟨Lc16, hQ16, l16, y16, z16⟩, st16⟩ := Jvm.LawKit.callS X11 hx (y := (⟨"com/example/affordance/affordance/BodyHeldPinLaw", "same", "([BIII)Z"⟩ : MethodName)) hown (mvT hZ (hw _ (List.mem_of_getElem? (i := 35) rfl))) (mvT hZ (hw _ (List.mem_of_getElem? (i := 36) rfl))) (mvT hZ (hw _ (List.mem_of_getElem? (i := 37) rfl))) (mvT hZ (hw _ (List.mem_of_getElem? (i := 38) rfl))) (by decide) (backOf (W := 0) (rm6 l Z aa hw [] (b3) ((0 : Int32)) (p1) ((0 : Int32))  T5.heap n0 Z5 (Or.inl (by decide))) hZ (hw _ (List.mem_of_getElem? (i := 38) rfl)) (hw _ (List.mem_of_getElem? (i := 37) rfl)) (by decide) (by decide)) (g := (mkF m 107 #[.val (.int p0), .val (.int p1), .val (.int (0 : Int32)), .val (.ref b3), .val (.ref r5), .val (.ref b3)] [(.int (0 : Int32)), (.int p1), (.int (0 : Int32)), (.ref b3)])) rfl (by rw [hml]; rfl) (argsL := [(.ref b3), (.int (0 : Int32)), (.int p1), (.int (0 : Int32))]) (rest := []) (lenOf pd_P_BIIIQZ rfl) rfl (by show 2 * 0 + _ ≤ _; exact Nat.le_of_eq rfl) (hb hby at_107) (fun _ _ => ⟨rfl, e11, (by decide : 2 + 0 ≤ _), (by decide : 5 + 0 ≤ _)⟩)
    dsimp only [Pt.U, Pt.locs, Pt.cells, Pt.slots] at X16 l16 y16 z16 st16 hQ16
    subst l16 y16 z16
    obtain ⟨rfl, N16q, e16⟩ := hQ16
    have N16 := Fr.app N11 N16q
    have K16 : ∀ t, Steps p.tables e below (T16.setTop (mkF m 110 #[.val (.int p0), .val (.int p1), .val (.int (0 : Int32)), .val (.ref b3), .val (.ref r5), .val (.ref b3)] [(.int (1 : Int32))])) t → Steps p.tables e below G0 t := fun t kt => K15 t (st16 _ kt)
    have K17 : ∀ t, Steps p.tables e below (T16.setTop (mkF m 118 #[.val (.int p0), .val (.int p1), .val (.int (0 : Int32)), .val (.ref b3), .val (.ref r5), .val (.ref b3)] [(.int (1 : Int32)), (.int p1), (.int (0 : Int32)), (.ref b3)])) t → Steps p.tables e below G0 t := by
      intro t kt
      refine K16 t ?_
      refine XS.ifNo X16.here hx rfl (hb hby at_110) rfl ((if0 _ _).trans (feq (by decide)).1) ?_
      show Steps p.tables e below (T16.setTop (mkF m 113 #[.val (.int p0), .val (.int p1), .val (.int (0 : Int32)), .val (.ref b3), .val (.ref r5), .val (.ref b3)] [])) _
      refine XS.aload X16.here hx rfl (hb hby at_113) rfl rfl ?_
      show Steps p.tables e below (T16.setTop (mkF m 115 #[.val (.int p0), .val (.int p1), .val (.int (0 : Int32)), .val (.ref b3), .val (.ref r5), .val (.ref b3)] [(.ref b3)])) _
      refine XS.iloadN X16.here hx rfl (hb hby at_115) rfl ?_
      show Steps p.tables e below (T16.setTop (mkF m 116 #[.val (.int p0), .val (.int p1), .val (.int (0 : Int32)), .val (.ref b3), .val (.ref r5), .val (.ref b3)] [(.int (0 : Int32)), (.ref b3)])) _
      refine XS.iloadN X16.here hx rfl (hb hby at_116) rfl ?_
      show Steps p.tables e below (T16.setTop (mkF m 117 #[.val (.int p0), .val (.int p1), .val (.int (0 : Int32)), .val (.ref b3), .val (.ref r5), .val (.ref b3)] [(.int p1), (.int (0 : Int32)), (.ref b3)])) _
      refine XS.iconst X16.here hx rfl (hb hby at_117) ?_
      show Steps p.tables e below (T16.setTop (mkF m 118 #[.val (.int p0), .val (.int p1), .val (.int (0 : Int32)), .val (.ref b3), .val (.ref r5), .val (.ref b3)] [(.int (1 : Int32)), (.int p1), (.int (0 : Int32)), (.ref b3)])) _
      exact kt
    obtain ⟨_, _, ⟨T18, L18, k18, n18⟩, -, X18, ⟨Lc18, hQ18, l18, y18, z18⟩, st18⟩ := Jvm.LawKit.callS X16 hx (y := (⟨"com/example/affordance/affordance/BodyHeldPinLaw", "same", "([BIII)Z"⟩ : MethodName)) hown (mvT hZ (hw _ (List.mem_of_getElem? (i := 35) rfl))) (mvT hZ (hw _ (List.mem_of_getElem? (i := 36) rfl))) (mvT hZ (hw _ (List.mem_of_getElem? (i := 37) rfl))) (mvT hZ (hw _ (List.mem_of_getElem? (i := 38) rfl))) (by decide) (backOf (W := 0) (rm6 l Z aa hw [] (b3) ((0 : Int32)) (p1) ((1 : Int32))  T5.heap n0 Z5 (Or.inl (by decide))) hZ (hw _ (List.mem_of_getElem? (i := 38) rfl)) (hw _ (List.mem_of_getElem? (i := 37) rfl)) (by decide) (by decide)) (g := (mkF m 118 #[.val (.int p0), .val (.int p1), .val (.int (0 : Int32)), .val (.ref b3), .val (.ref r5), .val (.ref b3)] [(.int (1 : Int32)), (.int p1), (.int (0 : Int32)), (.ref b3)])) rfl (by rw [hml]; rfl) (argsL := [(.ref b3), (.int (0 : Int32)), (.int p1), (.int (1 : Int32))]) (rest := []) (lenOf pd_P_BIIIQZ rfl) rfl (by show 2 * 0 + _ ≤ _; exact Nat.le_of_eq rfl) (hb hby at_118) (fun _ _ => ⟨rfl, e16, (by decide : 2 + 0 ≤ _), (by decide : 5 + 0 ≤ _)⟩)
    dsimp only [Pt.U, Pt.locs, Pt.cells, Pt.slots] at X18 l18 y18 z18 st18 hQ18
    subst l18 y18 z18
    obtain ⟨rfl, N18q, e18⟩ := hQ18
    have N18 := Fr.app N16 N18q
    have K18 : ∀ t, Steps p.tables e below (T18.setTop (mkF m 121 #[.val (.int p0), .val (.int p1), .val (.int (0 : Int32)), .val (.ref b3), .val (.ref r5), .val (.ref b3)] [(.int (1 : Int32))])) t → Steps p.tables e below G0 t := fun t kt => K17 t (st18 _ kt)
    have K19 : ∀ t, Steps p.tables e below (T18.setTop (mkF m 129 #[.val (.int p0), .val (.int p1), .val (.int (0 : Int32)), .val (.ref b3), .val (.ref r5), .val (.ref b3)] [(.int (2 : Int32)), (.int p1), (.int (0 : Int32)), (.ref b3)])) t → Steps p.tables e below G0 t := by
      intro t kt
      refine K18 t ?_
      refine XS.ifNo X18.here hx rfl (hb hby at_121) rfl ((if0 _ _).trans (feq (by decide)).1) ?_
      show Steps p.tables e below (T18.setTop (mkF m 124 #[.val (.int p0), .val (.int p1), .val (.int (0 : Int32)), .val (.ref b3), .val (.ref r5), .val (.ref b3)] [])) _
      refine XS.aload X18.here hx rfl (hb hby at_124) rfl rfl ?_
      show Steps p.tables e below (T18.setTop (mkF m 126 #[.val (.int p0), .val (.int p1), .val (.int (0 : Int32)), .val (.ref b3), .val (.ref r5), .val (.ref b3)] [(.ref b3)])) _
      refine XS.iloadN X18.here hx rfl (hb hby at_126) rfl ?_
      show Steps p.tables e below (T18.setTop (mkF m 127 #[.val (.int p0), .val (.int p1), .val (.int (0 : Int32)), .val (.ref b3), .val (.ref r5), .val (.ref b3)] [(.int (0 : Int32)), (.ref b3)])) _
      refine XS.iloadN X18.here hx rfl (hb hby at_127) rfl ?_
      show Steps p.tables e below (T18.setTop (mkF m 128 #[.val (.int p0), .val (.int p1), .val (.int (0 : Int32)), .val (.ref b3), .val (.ref r5), .val (.ref b3)] [(.int p1), (.int (0 : Int32)), (.ref b3)])) _
      refine XS.iconst X18.here hx rfl (hb hby at_128) ?_
      show Steps p.tables e below (T18.setTop (mkF m 129 #[.val (.int p0), .val (.int p1), .val (.int (0 : Int32)), .val (.ref b3), .val (.ref r5), .val (.ref b3)] [(.int (2 : Int32)), (.int p1), (.int (0 : Int32)), (.ref b3)])) _
      exact kt
    obtain ⟨_, _, ⟨T20, L20, k20, n20⟩, -, X20, ⟨Lc20, hQ20, l20, y20, z20⟩, st20⟩ := Jvm.LawKit.callS X18 hx (y := (⟨"com/example/affordance/affordance/BodyHeldPinLaw", "same", "([BIII)Z"⟩ : MethodName)) hown (mvT hZ (hw _ (List.mem_of_getElem? (i := 35) rfl))) (mvT hZ (hw _ (List.mem_of_getElem? (i := 36) rfl))) (mvT hZ (hw _ (List.mem_of_getElem? (i := 37) rfl))) (mvT hZ (hw _ (List.mem_of_getElem? (i := 38) rfl))) (by decide) (backOf (W := 0) (rm6 l Z aa hw [] (b3) ((0 : Int32)) (p1) ((2 : Int32))  T5.heap n0 Z5 (Or.inl (by decide))) hZ (hw _ (List.mem_of_getElem? (i := 38) rfl)) (hw _ (List.mem_of_getElem? (i := 37) rfl)) (by decide) (by decide)) (g := (mkF m 129 #[.val (.int p0), .val (.int p1), .val (.int (0 : Int32)), .val (.ref b3), .val (.ref r5), .val (.ref b3)] [(.int (2 : Int32)), (.int p1), (.int (0 : Int32)), (.ref b3)])) rfl (by rw [hml]; rfl) (argsL := [(.ref b3), (.int (0 : Int32)), (.int p1), (.int (2 : Int32))]) (rest := []) (lenOf pd_P_BIIIQZ rfl) rfl (by show 2 * 0 + _ ≤ _; exact Nat.le_of_eq rfl) (hb hby at_129) (fun _ _ => ⟨rfl, e18, (by decide : 2 + 0 ≤ _), (by decide : 5 + 0 ≤ _)⟩)
    dsimp only [Pt.U, Pt.locs, Pt.cells, Pt.slots] at X20 l20 y20 z20 st20 hQ20
    subst l20 y20 z20
    obtain ⟨rfl, N20q, e20⟩ := hQ20
    have N20 := Fr.app N18 N20q
    have K20 : ∀ t, Steps p.tables e below (T20.setTop (mkF m 132 #[.val (.int p0), .val (.int p1), .val (.int (0 : Int32)), .val (.ref b3), .val (.ref r5), .val (.ref b3)] [(.int (1 : Int32))])) t → Steps p.tables e below G0 t := fun t kt => K19 t (st20 _ kt)
    have K21 : ∀ t, Steps p.tables e below (T20.setTop (mkF m 140 #[.val (.int p0), .val (.int p1), .val (.int (0 : Int32)), .val (.ref b3), .val (.ref r5), .val (.ref b3)] [(.int (3 : Int32)), (.int p1), (.int (0 : Int32)), (.ref b3)])) t → Steps p.tables e below G0 t := by
      intro t kt
      refine K20 t ?_
      refine XS.ifNo X20.here hx rfl (hb hby at_132) rfl ((if0 _ _).trans (feq (by decide)).1) ?_
      show Steps p.tables e below (T20.setTop (mkF m 135 #[.val (.int p0), .val (.int p1), .val (.int (0 : Int32)), .val (.ref b3), .val (.ref r5), .val (.ref b3)] [])) _
      refine XS.aload X20.here hx rfl (hb hby at_135) rfl rfl ?_
      show Steps p.tables e below (T20.setTop (mkF m 137 #[.val (.int p0), .val (.int p1), .val (.int (0 : Int32)), .val (.ref b3), .val (.ref r5), .val (.ref b3)] [(.ref b3)])) _
      refine XS.iloadN X20.here hx rfl (hb hby at_137) rfl ?_
      show Steps p.tables e below (T20.setTop (mkF m 138 #[.val (.int p0), .val (.int p1), .val (.int (0 : Int32)), .val (.ref b3), .val (.ref r5), .val (.ref b3)] [(.int (0 : Int32)), (.ref b3)])) _
      refine XS.iloadN X20.here hx rfl (hb hby at_138) rfl ?_
      show Steps p.tables e below (T20.setTop (mkF m 139 #[.val (.int p0), .val (.int p1), .val (.int (0 : Int32)), .val (.ref b3), .val (.ref r5), .val (.ref b3)] [(.int p1), (.int (0 : Int32)), (.ref b3)])) _
      refine XS.iconst X20.here hx rfl (hb hby at_139) ?_
      show Steps p.tables e below (T20.setTop (mkF m 140 #[.val (.int p0), .val (.int p1), .val (.int (0 : Int32)), .val (.ref b3), .val (.ref r5), .val (.ref b3)] [(.int (3 : Int32)), (.int p1), (.int (0 : Int32)), (.ref b3)])) _
      exact kt
    obtain ⟨_, _, ⟨T22, L22, k22, n22⟩, -, X22, ⟨Lc22, hQ22, l22, y22, z22⟩, st22⟩ := Jvm.LawKit.callS X20 hx (y := (⟨"com/example/affordance/affordance/BodyHeldPinLaw", "same", "([BIII)Z"⟩ : MethodName)) hown (mvT hZ (hw _ (List.mem_of_getElem? (i := 35) rfl))) (mvT hZ (hw _ (List.mem_of_getElem? (i := 36) rfl))) (mvT hZ (hw _ (List.mem_of_getElem? (i := 37) rfl))) (mvT hZ (hw _ (List.mem_of_getElem? (i := 38) rfl))) (by decide) (backOf (W := 0) (rm6 l Z aa hw [] (b3) ((0 : Int32)) (p1) ((3 : Int32))  T5.heap n0 Z5 (Or.inl (by decide))) hZ (hw _ (List.mem_of_getElem? (i := 38) rfl)) (hw _ (List.mem_of_getElem? (i := 37) rfl)) (by decide) (by decide)) (g := (mkF m 140 #[.val (.int p0), .val (.int p1), .val (.int (0 : Int32)), .val (.ref b3), .val (.ref r5), .val (.ref b3)] [(.int (3 : Int32)), (.int p1), (.int (0 : Int32)), (.ref b3)])) rfl (by rw [hml]; rfl) (argsL := [(.ref b3), (.int (0 : Int32)), (.int p1), (.int (3 : Int32))]) (rest := []) (lenOf pd_P_BIIIQZ rfl) rfl (by show 2 * 0 + _ ≤ _; exact Nat.le_of_eq rfl) (hb hby at_140) (fun _ _ => ⟨rfl, e20, (by decide : 2 + 0 ≤ _), (by decide : 5 + 0 ≤ _)⟩)
    dsimp only [Pt.U, Pt.locs, Pt.cells, Pt.slots] at X22 l22 y22 z22 st22 hQ22
    subst l22 y22 z22
    obtain ⟨rfl, N22q, e22⟩ := hQ22
    have N22 := Fr.app N20 N22q
    have K22 : ∀ t, Steps p.tables e below (T22.setTop (mkF m 143 #[.val (.int p0), .val (.int p1), .val (.int (0 : Int32)), .val (.ref b3), .val (.ref r5), .val (.ref b3)] [(.int (1 : Int32))])) t → Steps p.tables e below G0 t := fun t kt => K21 t (st22 _ kt)
    have K23 : ∀ t, Steps p.tables e below (T22.setTop (mkF m 151 #[.val (.int p0), .val (.int p1), .val (.int (0 : Int32)), .val (.ref b3), .val (.ref r5), .val (.ref b3)] [(.int (1 : Int32))])) t → Steps p.tables e below G0 t := by
      intro t kt
      refine K22 t ?_
      refine XS.ifNo X22.here hx rfl (hb hby at_143) rfl ((if0 _ _).trans (feq (by decide)).1) ?_
      show Steps p.tables e below (T22.setTop (mkF m 146 #[.val (.int p0), .val (.int p1), .val (.int (0 : Int32)), .val (.ref b3), .val (.ref r5), .val (.ref b3)] [])) _
      refine XS.iconst X22.here hx rfl (hb hby at_146) ?_
      show Steps p.tables e below (T22.setTop (mkF m 147 #[.val (.int p0), .val (.int p1), .val (.int (0 : Int32)), .val (.ref b3), .val (.ref r5), .val (.ref b3)] [(.int (1 : Int32))])) _
      refine XS.goto X22.here hx rfl (pc0 := 147) (pc' := 151) rfl (hb hby at_147) (by decide) (by decide) ?_
      show Steps p.tables e below (T22.setTop (mkF m 151 #[.val (.int p0), .val (.int p1), .val (.int (0 : Int32)), .val (.ref b3), .val (.ref r5), .val (.ref b3)] [(.int (1 : Int32))])) _
      exact kt
    obtain ⟨fs, hr, hrun, hended, hW, hsame⟩ := X22.leave (v := some (.int (1 : Int32))) (fun h => by rw [Bd.returns] at h; cases h)
    refine ⟨_, _, ?_, hrun, hended, _, _, rfl, ?_, ⟨_, rfl⟩, hW, hsame.mono (by decide) (by decide)⟩
    · rw [← hG0]
      refine K23 _ ?_
      exact retN X22 hx (t := .boolean) Bd.returns (by simp) (hb hby at_151) hr
    · show Q0 Z p0 p1 h0 n0 _ T22.heap _
      rw [e22]
      exact ⟨rfl, N22⟩
  ·
    rw [hn] at K1
    have K24 : ∀ t, Steps p.tables e below (s₁.setTop (mkF m 8 #[.val (.int p0), .val (.int p1), .val (.int (1 : Int32)), .unset, .unset, .unset] [(.int (1 : Int32))])) t → Steps p.tables e below G0 t := by
      intro t kt
      refine K1 t ?_
      refine XS.iloadN X0.here hx rfl (hb hby at_7) rfl ?_
      show Steps p.tables e below (s₁.setTop (mkF m 8 #[.val (.int p0), .val (.int p1), .val (.int (1 : Int32)), .unset, .unset, .unset] [(.int (1 : Int32))])) _
      exact kt
    obtain ⟨T25, h25, k25, X25, e25, E25, A25, st25⟩ := newP X0 hx hZ (hw _ (List.mem_of_getElem? (i := 1) rfl)) e0 (g := (mkF m 8 #[.val (.int p0), .val (.int p1), .val (.int (1 : Int32)), .unset, .unset, .unset] [(.int (1 : Int32))])) rfl (hb hby at_8) rfl (by decide) (cap := 1) (by decide) (by decide) (by decide) (by decide)
    obtain ⟨b25, g25⟩ : ∃ z, z = h0.size := ⟨_, rfl⟩
    rw [← g25] at A25 st25
    have V25 := Arv.new A25 (by decide)
    have gn25 : n0 ≤ b25 := Nat.le_trans Z0 (Nat.le_of_eq g25.symm)
    have Z25 : n0 ≤ h25.size := Nat.le_trans Z0 E25.1
    have K25 : ∀ t, Steps p.tables e below (T25.setTop (mkF m 10 #[.val (.int p0), .val (.int p1), .val (.int (1 : Int32)), .unset, .unset, .unset] [(.ref b25)])) t → Steps p.tables e below G0 t := fun t kt => K24 t (st25 _ kt)
    have VL25 : Arv Z h25 b25 k25 .byte (1 : Int32) [(.int (0 : Int32))] (.int (0 : Int32)) := V25.pad (pad_rep [] (.int (0 : Int32)) 1)
    have K26 : ∀ t, Steps p.tables e below (T25.setTop (mkF m 19 #[.val (.int p0), .val (.int p1), .val (.int (1 : Int32)), .val (.ref b25), .unset, .unset] [(.int (0 : Int32)), (.int p1), (.int (0 : Int32)), (.ref b25)])) t → Steps p.tables e below G0 t := by
      intro t kt
      refine K25 t ?_
      refine XS.astoreN X25.here hx rfl (hb hby at_10) rfl rfl (l' := #[.val (.int p0), .val (.int p1), .val (.int (1 : Int32)), .val (.ref b25), .unset, .unset]) rfl ?_
      show Steps p.tables e below (T25.setTop (mkF m 11 #[.val (.int p0), .val (.int p1), .val (.int (1 : Int32)), .val (.ref b25), .unset, .unset] [])) _
      refine XS.iloadN X25.here hx rfl (hb hby at_11) rfl ?_
      show Steps p.tables e below (T25.setTop (mkF m 12 #[.val (.int p0), .val (.int p1), .val (.int (1 : Int32)), .val (.ref b25), .unset, .unset] [(.int (1 : Int32))])) _
      refine XS.ifNo X25.here hx rfl (hb hby at_12) rfl ((if0 _ _).trans (tlt (by decide)).2.2.2) ?_
      show Steps p.tables e below (T25.setTop (mkF m 15 #[.val (.int p0), .val (.int p1), .val (.int (1 : Int32)), .val (.ref b25), .unset, .unset] [])) _
      refine XS.aloadN X25.here hx rfl (hb hby at_15) rfl rfl ?_
      show Steps p.tables e below (T25.setTop (mkF m 16 #[.val (.int p0), .val (.int p1), .val (.int (1 : Int32)), .val (.ref b25), .unset, .unset] [(.ref b25)])) _
      refine XS.iconst X25.here hx rfl (hb hby at_16) ?_
      show Steps p.tables e below (T25.setTop (mkF m 17 #[.val (.int p0), .val (.int p1), .val (.int (1 : Int32)), .val (.ref b25), .unset, .unset] [(.int (0 : Int32)), (.ref b25)])) _
      refine XS.iloadN X25.here hx rfl (hb hby at_17) rfl ?_
      show Steps p.tables e below (T25.setTop (mkF m 18 #[.val (.int p0), .val (.int p1), .val (.int (1 : Int32)), .val (.ref b25), .unset, .unset] [(.int p1), (.int (0 : Int32)), (.ref b25)])) _
      refine XS.iconst X25.here hx rfl (hb hby at_18) ?_
      show Steps p.tables e below (T25.setTop (mkF m 19 #[.val (.int p0), .val (.int p1), .val (.int (1 : Int32)), .val (.ref b25), .unset, .unset] [(.int (0 : Int32)), (.int p1), (.int (0 : Int32)), (.ref b25)])) _
      exact kt
    obtain ⟨_, _, ⟨T27, L27, k27, n27⟩, -, X27, ⟨Lc27, hQ27, l27, y27, z27⟩, st27⟩ := Jvm.LawKit.callS X25 hx (y := (⟨"com/example/affordance/affordance/BodyHeldPinLaw", "part", "(II)B"⟩ : MethodName)) hown (mvT hZ (hw _ (List.mem_of_getElem? (i := 39) rfl))) (mvT hZ (hw _ (List.mem_of_getElem? (i := 40) rfl))) (mvT hZ (hw _ (List.mem_of_getElem? (i := 37) rfl))) (mvT hZ (hw _ (List.mem_of_getElem? (i := 41) rfl))) (by decide) (backOf (W := 2) (rm7 l Z aa hw [] (p1) ((0 : Int32))  h25 n0 Z25 ) hZ (hw _ (List.mem_of_getElem? (i := 41) rfl)) (hw _ (List.mem_of_getElem? (i := 37) rfl)) (by decide) (by decide)) (g := (mkF m 19 #[.val (.int p0), .val (.int p1), .val (.int (1 : Int32)), .val (.ref b25), .unset, .unset] [(.int (0 : Int32)), (.int p1), (.int (0 : Int32)), (.ref b25)])) rfl (by rw [hml]; rfl) (argsL := [(.int p1), (.int (0 : Int32))]) (rest := [(.int (0 : Int32)), (.ref b25)]) (lenOf pd_PIIQB rfl) rfl (by show 2 * 0 + _ ≤ _; exact Nat.le_of_eq rfl) (hb hby at_19) (fun _ _ => ⟨rfl, e25, (by decide : 1 + 0 ≤ _), (by decide : 1 + 0 ≤ _)⟩)
    dsimp only [Pt.U, Pt.locs, Pt.cells, Pt.slots] at X27 l27 y27 z27 st27 hQ27
    subst l27 y27 z27
    obtain ⟨rfl, N27q, e27⟩ := hQ27
    have N27 := Fr.app N0 N27q
    have K27 : ∀ t, Steps p.tables e below (T27.setTop (mkF m 22 #[.val (.int p0), .val (.int p1), .val (.int (1 : Int32)), .val (.ref b25), .unset, .unset] [(.int (own_p p1 (0 : Int32))), (.int (0 : Int32)), (.ref b25)])) t → Steps p.tables e below G0 t := fun t kt => K26 t (st27 _ kt)
    obtain ⟨cl28, Ar28, qq28, S28, M28, H28, GG28⟩ := id VL25
    have hin28 : ¬ ((0 : Int32) < 0 ∨ cl28.slots.size ≤ ((0 : Int32)).toNatClampNeg) := inb_of S28 ⟨by decide, by decide⟩
    obtain ⟨T29, h29, X29, e29, W29, st29⟩ := stB X27 hx hZ e27 Ar28 (j := (0 : Int32)) hin28 (g := (mkF m 22 #[.val (.int p0), .val (.int p1), .val (.int (1 : Int32)), .val (.ref b25), .unset, .unset] [(.int (own_p p1 (0 : Int32))), (.int (0 : Int32)), (.ref b25)])) rfl rfl (hb hby at_22)
    have K29 : ∀ t, Steps p.tables e below (T29.setTop (mkF m 23 #[.val (.int p0), .val (.int p1), .val (.int (1 : Int32)), .val (.ref b25), .unset, .unset] [])) t → Steps p.tables e below G0 t := fun t kt => K27 t (st29 _ kt)
    have Z29 : n0 ≤ h29.size := Nat.le_trans Z25 (Keep.of_wr W29).1
    have VL29 : Arv Z h29 b25 k25 .byte (1 : Int32) [(.int (nar .byte (own_p p1 (0 : Int32))))] (.int (0 : Int32)) := Arv.set Ar28 qq28 S28 M28 H28 GG28 (fits_nar_byte _) W29 0 rfl (Nat.le_of_ble_eq_true rfl)
    have N29 := Fr.snoc X29 N27 gn25
    have K30 : ∀ t, Steps p.tables e below (T29.setTop (mkF m 63 #[.val (.int p0), .val (.int p1), .val (.int (1 : Int32)), .val (.ref b25), .unset, .unset] [(.ref b25)])) t → Steps p.tables e below G0 t := by
      intro t kt
      refine K29 t ?_
      refine XS.iloadN X29.here hx rfl (hb hby at_23) rfl ?_
      show Steps p.tables e below (T29.setTop (mkF m 24 #[.val (.int p0), .val (.int p1), .val (.int (1 : Int32)), .val (.ref b25), .unset, .unset] [(.int (1 : Int32))])) _
      refine XS.iconst X29.here hx rfl (hb hby at_24) ?_
      show Steps p.tables e below (T29.setTop (mkF m 25 #[.val (.int p0), .val (.int p1), .val (.int (1 : Int32)), .val (.ref b25), .unset, .unset] [(.int (1 : Int32)), (.int (1 : Int32))])) _
      refine XS.icmpYes X29.here hx rfl (pc0 := 25) (pc' := 36) rfl (hb hby at_25) rfl (flt (by decide)).2.2.2 (by decide) (by decide) ?_
      show Steps p.tables e below (T29.setTop (mkF m 36 #[.val (.int p0), .val (.int p1), .val (.int (1 : Int32)), .val (.ref b25), .unset, .unset] [])) _
      refine XS.iloadN X29.here hx rfl (hb hby at_36) rfl ?_
      show Steps p.tables e below (T29.setTop (mkF m 37 #[.val (.int p0), .val (.int p1), .val (.int (1 : Int32)), .val (.ref b25), .unset, .unset] [(.int (1 : Int32))])) _
      refine XS.iconst X29.here hx rfl (hb hby at_37) ?_
      show Steps p.tables e below (T29.setTop (mkF m 38 #[.val (.int p0), .val (.int p1), .val (.int (1 : Int32)), .val (.ref b25), .unset, .unset] [(.int (2 : Int32)), (.int (1 : Int32))])) _
      refine XS.icmpYes X29.here hx rfl (pc0 := 38) (pc' := 49) rfl (hb hby at_38) rfl (flt (by decide)).2.2.2 (by decide) (by decide) ?_
      show Steps p.tables e below (T29.setTop (mkF m 49 #[.val (.int p0), .val (.int p1), .val (.int (1 : Int32)), .val (.ref b25), .unset, .unset] [])) _
      refine XS.iloadN X29.here hx rfl (hb hby at_49) rfl ?_
      show Steps p.tables e below (T29.setTop (mkF m 50 #[.val (.int p0), .val (.int p1), .val (.int (1 : Int32)), .val (.ref b25), .unset, .unset] [(.int (1 : Int32))])) _
      refine XS.iconst X29.here hx rfl (hb hby at_50) ?_
      show Steps p.tables e below (T29.setTop (mkF m 51 #[.val (.int p0), .val (.int p1), .val (.int (1 : Int32)), .val (.ref b25), .unset, .unset] [(.int (3 : Int32)), (.int (1 : Int32))])) _
      refine XS.icmpYes X29.here hx rfl (pc0 := 51) (pc' := 62) rfl (hb hby at_51) rfl (flt (by decide)).2.2.2 (by decide) (by decide) ?_
      show Steps p.tables e below (T29.setTop (mkF m 62 #[.val (.int p0), .val (.int p1), .val (.int (1 : Int32)), .val (.ref b25), .unset, .unset] [])) _
      refine XS.aloadN X29.here hx rfl (hb hby at_62) rfl rfl ?_
      show Steps p.tables e below (T29.setTop (mkF m 63 #[.val (.int p0), .val (.int p1), .val (.int (1 : Int32)), .val (.ref b25), .unset, .unset] [(.ref b25)])) _
      exact kt
    obtain ⟨_, _, ⟨T31, L31, k31, n31⟩, -, X31, ⟨Lc31, hQ31, l31, y31, z31⟩, st31⟩ := Jvm.LawKit.callS X29 hx (y := (⟨"com/example/affordance/affordance/Body", "held", "([B)Lcom/example/affordance/affordance/Body;"⟩ : MethodName)) hown (mvT hZ (hw _ (List.mem_of_getElem? (i := 2) rfl))) (mvT hZ (hw _ (List.mem_of_getElem? (i := 3) rfl))) (mvT hZ (hw _ (List.mem_of_getElem? (i := 4) rfl))) (mvT hZ (hw _ (List.mem_of_getElem? (i := 5) rfl))) (by decide) (backOf (W := 0) (rm1 l Z aa hw [] (b25) _ (1 : Int32) _ _ h29 n0 Z29 VL29) hZ (hw _ (List.mem_of_getElem? (i := 5) rfl)) (hw _ (List.mem_of_getElem? (i := 4) rfl)) (by decide) (by decide)) (g := (mkF m 63 #[.val (.int p0), .val (.int p1), .val (.int (1 : Int32)), .val (.ref b25), .unset, .unset] [(.ref b25)])) rfl (by rw [hml]; rfl) (argsL := [(.ref b25)]) (rest := []) (lenOf pd_P_BQLcom_example_affordance_affordance_Body_ rfl) rfl (by show 2 * 0 + _ ≤ _; exact Nat.le_of_eq rfl) (hb hby at_63) (fun _ _ => ⟨rfl, e29, (by decide : 1 + 1 ≤ _), (by decide : 1 + 5 ≤ _)⟩)
    dsimp only [Pt.U, Pt.locs, Pt.cells, Pt.slots] at X31 l31 y31 z31 st31 hQ31
    subst l31 y31 z31
    obtain ⟨r31, rfl, N31q, KV31, EV31, FB31, FL31⟩ := hQ31
    have N31 := Fr.app N29 N31q
    have K31 : ∀ t, Steps p.tables e below (T31.setTop (mkF m 66 #[.val (.int p0), .val (.int p1), .val (.int (1 : Int32)), .val (.ref b25), .unset, .unset] [(.ref r31)])) t → Steps p.tables e below G0 t := fun t kt => K30 t (st31 _ kt)
    have Z31 : n0 ≤ T31.heap.size := Nat.le_trans Z29 KV31.1
    have K32 : ∀ t, Steps p.tables e below (T31.setTop (mkF m 70 #[.val (.int p0), .val (.int p1), .val (.int (1 : Int32)), .val (.ref b25), .val (.ref r31), .unset] [(.ref r31)])) t → Steps p.tables e below G0 t := by
      intro t kt
      refine K31 t ?_
      refine XS.astore X31.here hx rfl (hb hby at_66) rfl rfl (l' := #[.val (.int p0), .val (.int p1), .val (.int (1 : Int32)), .val (.ref b25), .val (.ref r31), .unset]) rfl ?_
      show Steps p.tables e below (T31.setTop (mkF m 68 #[.val (.int p0), .val (.int p1), .val (.int (1 : Int32)), .val (.ref b25), .val (.ref r31), .unset] [])) _
      refine XS.aload X31.here hx rfl (hb hby at_68) rfl rfl ?_
      show Steps p.tables e below (T31.setTop (mkF m 70 #[.val (.int p0), .val (.int p1), .val (.int (1 : Int32)), .val (.ref b25), .val (.ref r31), .unset] [(.ref r31)])) _
      exact kt
    obtain ⟨cq33, kq33, q33a, q33b, q33c⟩ := isOf hZ (rfl : T31.heap = _) EV31
    obtain ⟨_, _, ⟨T34, L34, k34, n34⟩, -, X34, ⟨Lc34, hQ34, l34, y34, z34⟩, st34⟩ := X31.virtualBack hx (y := (⟨"com/example/affordance/affordance/Body", "length", "()J"⟩ : MethodName)) (z := (⟨"com/example/affordance/affordance/Body", "length", "()J"⟩ : MethodName)) hown (mvT hZ (hw _ (List.mem_of_getElem? (i := 25) rfl))) (mvT hZ (hw _ (List.mem_of_getElem? (i := 26) rfl))) (notFace_of_selects (args := #[]) (mvT hZ (hw _ (List.mem_of_getElem? (i := 28) rfl)))) (mvT hZ (hw _ (List.mem_of_getElem? (i := 28) rfl))) (mvT hZ (hw _ (List.mem_of_getElem? (i := 27) rfl))) (by decide) (backOf (W := 0) (rm4 l Z aa hw [] (r31) ((1 : Int32)).toInt64 T31.heap n0 Z31 FL31) hZ (hw _ (List.mem_of_getElem? (i := 29) rfl)) (hw _ (List.mem_of_getElem? (i := 4) rfl)) (by decide) (by decide)) q33a q33c (g := (mkF m 70 #[.val (.int p0), .val (.int p1), .val (.int (1 : Int32)), .val (.ref b25), .val (.ref r31), .unset] [(.ref r31)])) rfl (by rw [hml]; rfl) (Steps.refl _) (argsL := []) (rest := []) (lenOf pd_PQJ rfl) rfl (by show 2 * 0 + _ ≤ _; exact Nat.le_of_eq rfl) (hb hby at_70) (fun _ _ => ⟨rfl, (rfl : T31.heap = _), (by decide : 2 + 0 ≤ _), (by decide : 6 + 0 ≤ _)⟩)
    dsimp only [Pt.U, Pt.locs, Pt.cells, Pt.slots] at X34 l34 y34 z34 st34 hQ34
    subst l34 y34 z34
    obtain ⟨rfl, N34q, e34⟩ := hQ34
    have N34 := Fr.app N31 N34q
    have K34 : ∀ t, Steps p.tables e below (T34.setTop (mkF m 73 #[.val (.int p0), .val (.int p1), .val (.int (1 : Int32)), .val (.ref b25), .val (.ref r31), .unset] [(.long ((1 : Int32)).toInt64)])) t → Steps p.tables e below G0 t := fun t kt => K32 t (st34.trans kt)
    have K35 : ∀ t, Steps p.tables e below (T34.setTop (mkF m 83 #[.val (.int p0), .val (.int p1), .val (.int (1 : Int32)), .val (.ref b25), .val (.ref r31), .unset] [(.ref r31)])) t → Steps p.tables e below G0 t := by
      intro t kt
      refine K34 t ?_
      refine XS.iloadN X34.here hx rfl (hb hby at_73) rfl ?_
      show Steps p.tables e below (T34.setTop (mkF m 74 #[.val (.int p0), .val (.int p1), .val (.int (1 : Int32)), .val (.ref b25), .val (.ref r31), .unset] [(.int (1 : Int32)), (.long ((1 : Int32)).toInt64)])) _
      refine XS.i2l X34.here hx rfl (hb hby at_74) rfl ?_
      show Steps p.tables e below (T34.setTop (mkF m 75 #[.val (.int p0), .val (.int p1), .val (.int (1 : Int32)), .val (.ref b25), .val (.ref r31), .unset] [(.long ((1 : Int32).toInt64)), (.long ((1 : Int32)).toInt64)])) _
      refine XS.lcmp X34.here hx rfl (hb hby at_75) rfl ?_
      show Steps p.tables e below (T34.setTop (mkF m 76 #[.val (.int p0), .val (.int p1), .val (.int (1 : Int32)), .val (.ref b25), .val (.ref r31), .unset] [(.int (lcmpW ((1 : Int32)).toInt64 ((1 : Int32).toInt64)))])) _
      refine XS.ifYes X34.here hx rfl (pc0 := 76) (pc' := 81) rfl (hb hby at_76) rfl ((if0 _ _).trans (teq ((lw_eq _ _).mpr rfl)).1) (by decide) (by decide) ?_
      show Steps p.tables e below (T34.setTop (mkF m 81 #[.val (.int p0), .val (.int p1), .val (.int (1 : Int32)), .val (.ref b25), .val (.ref r31), .unset] [])) _
      refine XS.aload X34.here hx rfl (hb hby at_81) rfl rfl ?_
      show Steps p.tables e below (T34.setTop (mkF m 83 #[.val (.int p0), .val (.int p1), .val (.int (1 : Int32)), .val (.ref b25), .val (.ref r31), .unset] [(.ref r31)])) _
      exact kt
    obtain ⟨cq36, kq36, q36a, q36b, q36c⟩ := isOf hZ e34 EV31
    obtain ⟨_, _, ⟨T37, L37, k37, n37⟩, -, X37, ⟨Lc37, hQ37, l37, y37, z37⟩, st37⟩ := X34.virtualBack hx (y := (⟨"com/example/affordance/affordance/Body", "bytes", "()[B"⟩ : MethodName)) (z := (⟨"com/example/affordance/affordance/Body", "bytes", "()[B"⟩ : MethodName)) hown (mvT hZ (hw _ (List.mem_of_getElem? (i := 30) rfl))) (mvT hZ (hw _ (List.mem_of_getElem? (i := 31) rfl))) (notFace_of_selects (args := #[]) (mvT hZ (hw _ (List.mem_of_getElem? (i := 33) rfl)))) (mvT hZ (hw _ (List.mem_of_getElem? (i := 33) rfl))) (mvT hZ (hw _ (List.mem_of_getElem? (i := 32) rfl))) (by decide) (backOf (W := 0) (rm5 l Z aa hw [] (r31) b25 T31.heap n0 Z31 FB31) hZ (hw _ (List.mem_of_getElem? (i := 34) rfl)) (hw _ (List.mem_of_getElem? (i := 4) rfl)) (by decide) (by decide)) q36a q36c (g := (mkF m 83 #[.val (.int p0), .val (.int p1), .val (.int (1 : Int32)), .val (.ref b25), .val (.ref r31), .unset] [(.ref r31)])) rfl (by rw [hml]; rfl) (Steps.refl _) (argsL := []) (rest := []) (lenOf pd_PQ_B rfl) rfl (by show 2 * 0 + _ ≤ _; exact Nat.le_of_eq rfl) (hb hby at_83) (fun _ _ => ⟨rfl, e34, (by decide : 2 + 0 ≤ _), (by decide : 6 + 0 ≤ _)⟩)
    dsimp only [Pt.U, Pt.locs, Pt.cells, Pt.slots] at X37 l37 y37 z37 st37 hQ37
    subst l37 y37 z37
    obtain ⟨rfl, N37q, e37⟩ := hQ37
    have N37 := Fr.app N34 N37q
    have K37 : ∀ t, Steps p.tables e below (T37.setTop (mkF m 86 #[.val (.int p0), .val (.int p1), .val (.int (1 : Int32)), .val (.ref b25), .val (.ref r31), .unset] [(.ref b25)])) t → Steps p.tables e below G0 t := fun t kt => K35 t (st37.trans kt)
    have K38 : ∀ t, Steps p.tables e below (T37.setTop (mkF m 95 #[.val (.int p0), .val (.int p1), .val (.int (1 : Int32)), .val (.ref b25), .val (.ref r31), .val (.ref b25)] [(.ref b25)])) t → Steps p.tables e below G0 t := by
      intro t kt
      refine K37 t ?_
      refine XS.astore X37.here hx rfl (hb hby at_86) rfl rfl (l' := #[.val (.int p0), .val (.int p1), .val (.int (1 : Int32)), .val (.ref b25), .val (.ref r31), .val (.ref b25)]) rfl ?_
      show Steps p.tables e below (T37.setTop (mkF m 88 #[.val (.int p0), .val (.int p1), .val (.int (1 : Int32)), .val (.ref b25), .val (.ref r31), .val (.ref b25)] [])) _
      refine XS.aload X37.here hx rfl (hb hby at_88) rfl rfl ?_
      show Steps p.tables e below (T37.setTop (mkF m 90 #[.val (.int p0), .val (.int p1), .val (.int (1 : Int32)), .val (.ref b25), .val (.ref r31), .val (.ref b25)] [(.ref b25)])) _
      refine XS.ifnullNo X37.here hx rfl (hb hby at_90) rfl ?_
      show Steps p.tables e below (T37.setTop (mkF m 93 #[.val (.int p0), .val (.int p1), .val (.int (1 : Int32)), .val (.ref b25), .val (.ref r31), .val (.ref b25)] [])) _
      refine XS.aload X37.here hx rfl (hb hby at_93) rfl rfl ?_
      show Steps p.tables e below (T37.setTop (mkF m 95 #[.val (.int p0), .val (.int p1), .val (.int (1 : Int32)), .val (.ref b25), .val (.ref r31), .val (.ref b25)] [(.ref b25)])) _
      exact kt
    have f39 := (VL29.keep KV31 (fun q => nomatch q))
    obtain ⟨cl40, Ar40, qq40, S40, M40, H40, GG40⟩ := id f39
    have K41 : ∀ t, Steps p.tables e below (T37.setTop (mkF m 107 #[.val (.int p0), .val (.int p1), .val (.int (1 : Int32)), .val (.ref b25), .val (.ref r31), .val (.ref b25)] [(.int (0 : Int32)), (.int p1), (.int (1 : Int32)), (.ref b25)])) t → Steps p.tables e below G0 t := by
      intro t kt
      refine K38 t ?_
      refine X37.arraylength hx (by rw [e37]; exact (Ar40).1) (State.isArrayOf_alike hZ.alike (Ar40).2.1) (g := (mkF m 95 #[.val (.int p0), .val (.int p1), .val (.int (1 : Int32)), .val (.ref b25), .val (.ref r31), .val (.ref b25)] [(.ref b25)])) rfl rfl (hb hby at_95) _ ?_
      rw [len_of S40 M40]
      show Steps p.tables e below (T37.setTop (mkF m 96 #[.val (.int p0), .val (.int p1), .val (.int (1 : Int32)), .val (.ref b25), .val (.ref r31), .val (.ref b25)] [(.int (1 : Int32))])) _
      refine XS.iloadN X37.here hx rfl (hb hby at_96) rfl ?_
      show Steps p.tables e below (T37.setTop (mkF m 97 #[.val (.int p0), .val (.int p1), .val (.int (1 : Int32)), .val (.ref b25), .val (.ref r31), .val (.ref b25)] [(.int (1 : Int32)), (.int (1 : Int32))])) _
      refine XS.icmpYes X37.here hx rfl (pc0 := 97) (pc' := 102) rfl (hb hby at_97) rfl (teq rfl).1 (by decide) (by decide) ?_
      show Steps p.tables e below (T37.setTop (mkF m 102 #[.val (.int p0), .val (.int p1), .val (.int (1 : Int32)), .val (.ref b25), .val (.ref r31), .val (.ref b25)] [])) _
      refine XS.aload X37.here hx rfl (hb hby at_102) rfl rfl ?_
      show Steps p.tables e below (T37.setTop (mkF m 104 #[.val (.int p0), .val (.int p1), .val (.int (1 : Int32)), .val (.ref b25), .val (.ref r31), .val (.ref b25)] [(.ref b25)])) _
      refine XS.iloadN X37.here hx rfl (hb hby at_104) rfl ?_
      show Steps p.tables e below (T37.setTop (mkF m 105 #[.val (.int p0), .val (.int p1), .val (.int (1 : Int32)), .val (.ref b25), .val (.ref r31), .val (.ref b25)] [(.int (1 : Int32)), (.ref b25)])) _
      refine XS.iloadN X37.here hx rfl (hb hby at_105) rfl ?_
      show Steps p.tables e below (T37.setTop (mkF m 106 #[.val (.int p0), .val (.int p1), .val (.int (1 : Int32)), .val (.ref b25), .val (.ref r31), .val (.ref b25)] [(.int p1), (.int (1 : Int32)), (.ref b25)])) _
      refine XS.iconst X37.here hx rfl (hb hby at_106) ?_
      show Steps p.tables e below (T37.setTop (mkF m 107 #[.val (.int p0), .val (.int p1), .val (.int (1 : Int32)), .val (.ref b25), .val (.ref r31), .val (.ref b25)] [(.int (0 : Int32)), (.int p1), (.int (1 : Int32)), (.ref b25)])) _
      exact kt
    obtain ⟨cl42, Ar42, qq42, S42, M42, H42, GG42⟩ := id f39
    have hin42 : ¬ ((0 : Int32) < 0 ∨ cl42.slots.size ≤ ((0 : Int32)).toNatClampNeg) := inb_of S42 ⟨by decide, by decide⟩
    obtain ⟨_, _, ⟨T43, L43, k43, n43⟩, -, X43, ⟨Lc43, hQ43, l43, y43, z43⟩, st43⟩ := Jvm.LawKit.callS X37 hx (y := (⟨"com/example/affordance/affordance/BodyHeldPinLaw", "same", "([BIII)Z"⟩ : MethodName)) hown (mvT hZ (hw _ (List.mem_of_getElem? (i := 35) rfl))) (mvT hZ (hw _ (List.mem_of_getElem? (i := 36) rfl))) (mvT hZ (hw _ (List.mem_of_getElem? (i := 37) rfl))) (mvT hZ (hw _ (List.mem_of_getElem? (i := 38) rfl))) (by decide) (backOf (W := 0) (rm6 l Z aa hw [] (b25) ((1 : Int32)) (p1) ((0 : Int32))  T31.heap n0 Z31 (Or.inr ⟨cl42, Ar42, hin42, Has.at H42 hin42 rfl⟩)) hZ (hw _ (List.mem_of_getElem? (i := 38) rfl)) (hw _ (List.mem_of_getElem? (i := 37) rfl)) (by decide) (by decide)) (g := (mkF m 107 #[.val (.int p0), .val (.int p1), .val (.int (1 : Int32)), .val (.ref b25), .val (.ref r31), .val (.ref b25)] [(.int (0 : Int32)), (.int p1), (.int (1 : Int32)), (.ref b25)])) rfl (by rw [hml]; rfl) (argsL := [(.ref b25), (.int (1 : Int32)), (.int p1), (.int (0 : Int32))]) (rest := []) (lenOf pd_P_BIIIQZ rfl) rfl (by show 2 * 0 + _ ≤ _; exact Nat.le_of_eq rfl) (hb hby at_107) (fun _ _ => ⟨rfl, e37, (by decide : 2 + 0 ≤ _), (by decide : 6 + 0 ≤ _)⟩)
    dsimp only [Pt.U, Pt.locs, Pt.cells, Pt.slots] at X43 l43 y43 z43 st43 hQ43
    subst l43 y43 z43
    obtain ⟨rfl, N43q, e43⟩ := hQ43
    have N43 := Fr.app N37 N43q
    have K43 : ∀ t, Steps p.tables e below (T43.setTop (mkF m 110 #[.val (.int p0), .val (.int p1), .val (.int (1 : Int32)), .val (.ref b25), .val (.ref r31), .val (.ref b25)] [(.int (1 : Int32))])) t → Steps p.tables e below G0 t := fun t kt => K41 t (st43 _ kt)
    have K44 : ∀ t, Steps p.tables e below (T43.setTop (mkF m 118 #[.val (.int p0), .val (.int p1), .val (.int (1 : Int32)), .val (.ref b25), .val (.ref r31), .val (.ref b25)] [(.int (1 : Int32)), (.int p1), (.int (1 : Int32)), (.ref b25)])) t → Steps p.tables e below G0 t := by
      intro t kt
      refine K43 t ?_
      refine XS.ifNo X43.here hx rfl (hb hby at_110) rfl ((if0 _ _).trans (feq (by decide)).1) ?_
      show Steps p.tables e below (T43.setTop (mkF m 113 #[.val (.int p0), .val (.int p1), .val (.int (1 : Int32)), .val (.ref b25), .val (.ref r31), .val (.ref b25)] [])) _
      refine XS.aload X43.here hx rfl (hb hby at_113) rfl rfl ?_
      show Steps p.tables e below (T43.setTop (mkF m 115 #[.val (.int p0), .val (.int p1), .val (.int (1 : Int32)), .val (.ref b25), .val (.ref r31), .val (.ref b25)] [(.ref b25)])) _
      refine XS.iloadN X43.here hx rfl (hb hby at_115) rfl ?_
      show Steps p.tables e below (T43.setTop (mkF m 116 #[.val (.int p0), .val (.int p1), .val (.int (1 : Int32)), .val (.ref b25), .val (.ref r31), .val (.ref b25)] [(.int (1 : Int32)), (.ref b25)])) _
      refine XS.iloadN X43.here hx rfl (hb hby at_116) rfl ?_
      show Steps p.tables e below (T43.setTop (mkF m 117 #[.val (.int p0), .val (.int p1), .val (.int (1 : Int32)), .val (.ref b25), .val (.ref r31), .val (.ref b25)] [(.int p1), (.int (1 : Int32)), (.ref b25)])) _
      refine XS.iconst X43.here hx rfl (hb hby at_117) ?_
      show Steps p.tables e below (T43.setTop (mkF m 118 #[.val (.int p0), .val (.int p1), .val (.int (1 : Int32)), .val (.ref b25), .val (.ref r31), .val (.ref b25)] [(.int (1 : Int32)), (.int p1), (.int (1 : Int32)), (.ref b25)])) _
      exact kt
    obtain ⟨_, _, ⟨T45, L45, k45, n45⟩, -, X45, ⟨Lc45, hQ45, l45, y45, z45⟩, st45⟩ := Jvm.LawKit.callS X43 hx (y := (⟨"com/example/affordance/affordance/BodyHeldPinLaw", "same", "([BIII)Z"⟩ : MethodName)) hown (mvT hZ (hw _ (List.mem_of_getElem? (i := 35) rfl))) (mvT hZ (hw _ (List.mem_of_getElem? (i := 36) rfl))) (mvT hZ (hw _ (List.mem_of_getElem? (i := 37) rfl))) (mvT hZ (hw _ (List.mem_of_getElem? (i := 38) rfl))) (by decide) (backOf (W := 0) (rm6 l Z aa hw [] (b25) ((1 : Int32)) (p1) ((1 : Int32))  T31.heap n0 Z31 (Or.inl (by decide))) hZ (hw _ (List.mem_of_getElem? (i := 38) rfl)) (hw _ (List.mem_of_getElem? (i := 37) rfl)) (by decide) (by decide)) (g := (mkF m 118 #[.val (.int p0), .val (.int p1), .val (.int (1 : Int32)), .val (.ref b25), .val (.ref r31), .val (.ref b25)] [(.int (1 : Int32)), (.int p1), (.int (1 : Int32)), (.ref b25)])) rfl (by rw [hml]; rfl) (argsL := [(.ref b25), (.int (1 : Int32)), (.int p1), (.int (1 : Int32))]) (rest := []) (lenOf pd_P_BIIIQZ rfl) rfl (by show 2 * 0 + _ ≤ _; exact Nat.le_of_eq rfl) (hb hby at_118) (fun _ _ => ⟨rfl, e43, (by decide : 2 + 0 ≤ _), (by decide : 6 + 0 ≤ _)⟩)
    dsimp only [Pt.U, Pt.locs, Pt.cells, Pt.slots] at X45 l45 y45 z45 st45 hQ45
    subst l45 y45 z45
    obtain ⟨rfl, N45q, e45⟩ := hQ45
    have N45 := Fr.app N43 N45q
    have K45 : ∀ t, Steps p.tables e below (T45.setTop (mkF m 121 #[.val (.int p0), .val (.int p1), .val (.int (1 : Int32)), .val (.ref b25), .val (.ref r31), .val (.ref b25)] [(.int (1 : Int32))])) t → Steps p.tables e below G0 t := fun t kt => K44 t (st45 _ kt)
    have K46 : ∀ t, Steps p.tables e below (T45.setTop (mkF m 129 #[.val (.int p0), .val (.int p1), .val (.int (1 : Int32)), .val (.ref b25), .val (.ref r31), .val (.ref b25)] [(.int (2 : Int32)), (.int p1), (.int (1 : Int32)), (.ref b25)])) t → Steps p.tables e below G0 t := by
      intro t kt
      refine K45 t ?_
      refine XS.ifNo X45.here hx rfl (hb hby at_121) rfl ((if0 _ _).trans (feq (by decide)).1) ?_
      show Steps p.tables e below (T45.setTop (mkF m 124 #[.val (.int p0), .val (.int p1), .val (.int (1 : Int32)), .val (.ref b25), .val (.ref r31), .val (.ref b25)] [])) _
      refine XS.aload X45.here hx rfl (hb hby at_124) rfl rfl ?_
      show Steps p.tables e below (T45.setTop (mkF m 126 #[.val (.int p0), .val (.int p1), .val (.int (1 : Int32)), .val (.ref b25), .val (.ref r31), .val (.ref b25)] [(.ref b25)])) _
      refine XS.iloadN X45.here hx rfl (hb hby at_126) rfl ?_
      show Steps p.tables e below (T45.setTop (mkF m 127 #[.val (.int p0), .val (.int p1), .val (.int (1 : Int32)), .val (.ref b25), .val (.ref r31), .val (.ref b25)] [(.int (1 : Int32)), (.ref b25)])) _
      refine XS.iloadN X45.here hx rfl (hb hby at_127) rfl ?_
      show Steps p.tables e below (T45.setTop (mkF m 128 #[.val (.int p0), .val (.int p1), .val (.int (1 : Int32)), .val (.ref b25), .val (.ref r31), .val (.ref b25)] [(.int p1), (.int (1 : Int32)), (.ref b25)])) _
      refine XS.iconst X45.here hx rfl (hb hby at_128) ?_
      show Steps p.tables e below (T45.setTop (mkF m 129 #[.val (.int p0), .val (.int p1), .val (.int (1 : Int32)), .val (.ref b25), .val (.ref r31), .val (.ref b25)] [(.int (2 : Int32)), (.int p1), (.int (1 : Int32)), (.ref b25)])) _
      exact kt
    obtain ⟨_, _, ⟨T47, L47, k47, n47⟩, -, X47, ⟨Lc47, hQ47, l47, y47, z47⟩, st47⟩ := Jvm.LawKit.callS X45 hx (y := (⟨"com/example/affordance/affordance/BodyHeldPinLaw", "same", "([BIII)Z"⟩ : MethodName)) hown (mvT hZ (hw _ (List.mem_of_getElem? (i := 35) rfl))) (mvT hZ (hw _ (List.mem_of_getElem? (i := 36) rfl))) (mvT hZ (hw _ (List.mem_of_getElem? (i := 37) rfl))) (mvT hZ (hw _ (List.mem_of_getElem? (i := 38) rfl))) (by decide) (backOf (W := 0) (rm6 l Z aa hw [] (b25) ((1 : Int32)) (p1) ((2 : Int32))  T31.heap n0 Z31 (Or.inl (by decide))) hZ (hw _ (List.mem_of_getElem? (i := 38) rfl)) (hw _ (List.mem_of_getElem? (i := 37) rfl)) (by decide) (by decide)) (g := (mkF m 129 #[.val (.int p0), .val (.int p1), .val (.int (1 : Int32)), .val (.ref b25), .val (.ref r31), .val (.ref b25)] [(.int (2 : Int32)), (.int p1), (.int (1 : Int32)), (.ref b25)])) rfl (by rw [hml]; rfl) (argsL := [(.ref b25), (.int (1 : Int32)), (.int p1), (.int (2 : Int32))]) (rest := []) (lenOf pd_P_BIIIQZ rfl) rfl (by show 2 * 0 + _ ≤ _; exact Nat.le_of_eq rfl) (hb hby at_129) (fun _ _ => ⟨rfl, e45, (by decide : 2 + 0 ≤ _), (by decide : 6 + 0 ≤ _)⟩)
    dsimp only [Pt.U, Pt.locs, Pt.cells, Pt.slots] at X47 l47 y47 z47 st47 hQ47
    subst l47 y47 z47
    obtain ⟨rfl, N47q, e47⟩ := hQ47
    have N47 := Fr.app N45 N47q
    have K47 : ∀ t, Steps p.tables e below (T47.setTop (mkF m 132 #[.val (.int p0), .val (.int p1), .val (.int (1 : Int32)), .val (.ref b25), .val (.ref r31), .val (.ref b25)] [(.int (1 : Int32))])) t → Steps p.tables e below G0 t := fun t kt => K46 t (st47 _ kt)
    have K48 : ∀ t, Steps p.tables e below (T47.setTop (mkF m 140 #[.val (.int p0), .val (.int p1), .val (.int (1 : Int32)), .val (.ref b25), .val (.ref r31), .val (.ref b25)] [(.int (3 : Int32)), (.int p1), (.int (1 : Int32)), (.ref b25)])) t → Steps p.tables e below G0 t := by
      intro t kt
      refine K47 t ?_
      refine XS.ifNo X47.here hx rfl (hb hby at_132) rfl ((if0 _ _).trans (feq (by decide)).1) ?_
      show Steps p.tables e below (T47.setTop (mkF m 135 #[.val (.int p0), .val (.int p1), .val (.int (1 : Int32)), .val (.ref b25), .val (.ref r31), .val (.ref b25)] [])) _
      refine XS.aload X47.here hx rfl (hb hby at_135) rfl rfl ?_
      show Steps p.tables e below (T47.setTop (mkF m 137 #[.val (.int p0), .val (.int p1), .val (.int (1 : Int32)), .val (.ref b25), .val (.ref r31), .val (.ref b25)] [(.ref b25)])) _
      refine XS.iloadN X47.here hx rfl (hb hby at_137) rfl ?_
      show Steps p.tables e below (T47.setTop (mkF m 138 #[.val (.int p0), .val (.int p1), .val (.int (1 : Int32)), .val (.ref b25), .val (.ref r31), .val (.ref b25)] [(.int (1 : Int32)), (.ref b25)])) _
      refine XS.iloadN X47.here hx rfl (hb hby at_138) rfl ?_
      show Steps p.tables e below (T47.setTop (mkF m 139 #[.val (.int p0), .val (.int p1), .val (.int (1 : Int32)), .val (.ref b25), .val (.ref r31), .val (.ref b25)] [(.int p1), (.int (1 : Int32)), (.ref b25)])) _
      refine XS.iconst X47.here hx rfl (hb hby at_139) ?_
      show Steps p.tables e below (T47.setTop (mkF m 140 #[.val (.int p0), .val (.int p1), .val (.int (1 : Int32)), .val (.ref b25), .val (.ref r31), .val (.ref b25)] [(.int (3 : Int32)), (.int p1), (.int (1 : Int32)), (.ref b25)])) _
      exact kt
    obtain ⟨_, _, ⟨T49, L49, k49, n49⟩, -, X49, ⟨Lc49, hQ49, l49, y49, z49⟩, st49⟩ := Jvm.LawKit.callS X47 hx (y := (⟨"com/example/affordance/affordance/BodyHeldPinLaw", "same", "([BIII)Z"⟩ : MethodName)) hown (mvT hZ (hw _ (List.mem_of_getElem? (i := 35) rfl))) (mvT hZ (hw _ (List.mem_of_getElem? (i := 36) rfl))) (mvT hZ (hw _ (List.mem_of_getElem? (i := 37) rfl))) (mvT hZ (hw _ (List.mem_of_getElem? (i := 38) rfl))) (by decide) (backOf (W := 0) (rm6 l Z aa hw [] (b25) ((1 : Int32)) (p1) ((3 : Int32))  T31.heap n0 Z31 (Or.inl (by decide))) hZ (hw _ (List.mem_of_getElem? (i := 38) rfl)) (hw _ (List.mem_of_getElem? (i := 37) rfl)) (by decide) (by decide)) (g := (mkF m 140 #[.val (.int p0), .val (.int p1), .val (.int (1 : Int32)), .val (.ref b25), .val (.ref r31), .val (.ref b25)] [(.int (3 : Int32)), (.int p1), (.int (1 : Int32)), (.ref b25)])) rfl (by rw [hml]; rfl) (argsL := [(.ref b25), (.int (1 : Int32)), (.int p1), (.int (3 : Int32))]) (rest := []) (lenOf pd_P_BIIIQZ rfl) rfl (by show 2 * 0 + _ ≤ _; exact Nat.le_of_eq rfl) (hb hby at_140) (fun _ _ => ⟨rfl, e47, (by decide : 2 + 0 ≤ _), (by decide : 6 + 0 ≤ _)⟩)
    dsimp only [Pt.U, Pt.locs, Pt.cells, Pt.slots] at X49 l49 y49 z49 st49 hQ49
    subst l49 y49 z49
    obtain ⟨rfl, N49q, e49⟩ := hQ49
    have N49 := Fr.app N47 N49q
    have K49 : ∀ t, Steps p.tables e below (T49.setTop (mkF m 143 #[.val (.int p0), .val (.int p1), .val (.int (1 : Int32)), .val (.ref b25), .val (.ref r31), .val (.ref b25)] [(.int (1 : Int32))])) t → Steps p.tables e below G0 t := fun t kt => K48 t (st49 _ kt)
    have K50 : ∀ t, Steps p.tables e below (T49.setTop (mkF m 151 #[.val (.int p0), .val (.int p1), .val (.int (1 : Int32)), .val (.ref b25), .val (.ref r31), .val (.ref b25)] [(.int (1 : Int32))])) t → Steps p.tables e below G0 t := by
      intro t kt
      refine K49 t ?_
      refine XS.ifNo X49.here hx rfl (hb hby at_143) rfl ((if0 _ _).trans (feq (by decide)).1) ?_
      show Steps p.tables e below (T49.setTop (mkF m 146 #[.val (.int p0), .val (.int p1), .val (.int (1 : Int32)), .val (.ref b25), .val (.ref r31), .val (.ref b25)] [])) _
      refine XS.iconst X49.here hx rfl (hb hby at_146) ?_
      show Steps p.tables e below (T49.setTop (mkF m 147 #[.val (.int p0), .val (.int p1), .val (.int (1 : Int32)), .val (.ref b25), .val (.ref r31), .val (.ref b25)] [(.int (1 : Int32))])) _
      refine XS.goto X49.here hx rfl (pc0 := 147) (pc' := 151) rfl (hb hby at_147) (by decide) (by decide) ?_
      show Steps p.tables e below (T49.setTop (mkF m 151 #[.val (.int p0), .val (.int p1), .val (.int (1 : Int32)), .val (.ref b25), .val (.ref r31), .val (.ref b25)] [(.int (1 : Int32))])) _
      exact kt
    obtain ⟨fs, hr, hrun, hended, hW, hsame⟩ := X49.leave (v := some (.int (1 : Int32))) (fun h => by rw [Bd.returns] at h; cases h)
    refine ⟨_, _, ?_, hrun, hended, _, _, rfl, ?_, ⟨_, rfl⟩, hW, hsame.mono (by decide) (by decide)⟩
    · rw [← hG0]
      refine K50 _ ?_
      exact retN X49 hx (t := .boolean) Bd.returns (by simp) (hb hby at_151) hr
    · show Q0 Z p0 p1 h0 n0 _ T49.heap _
      rw [e49]
      exact ⟨rfl, N49⟩
  ·
    rw [hn] at K1
    have K51 : ∀ t, Steps p.tables e below (s₁.setTop (mkF m 8 #[.val (.int p0), .val (.int p1), .val (.int (2 : Int32)), .unset, .unset, .unset] [(.int (2 : Int32))])) t → Steps p.tables e below G0 t := by
      intro t kt
      refine K1 t ?_
      refine XS.iloadN X0.here hx rfl (hb hby at_7) rfl ?_
      show Steps p.tables e below (s₁.setTop (mkF m 8 #[.val (.int p0), .val (.int p1), .val (.int (2 : Int32)), .unset, .unset, .unset] [(.int (2 : Int32))])) _
      exact kt
    obtain ⟨T52, h52, k52, X52, e52, E52, A52, st52⟩ := newP X0 hx hZ (hw _ (List.mem_of_getElem? (i := 1) rfl)) e0 (g := (mkF m 8 #[.val (.int p0), .val (.int p1), .val (.int (2 : Int32)), .unset, .unset, .unset] [(.int (2 : Int32))])) rfl (hb hby at_8) rfl (by decide) (cap := 2) (by decide) (by decide) (by decide) (by decide)
    obtain ⟨b52, g52⟩ : ∃ z, z = h0.size := ⟨_, rfl⟩
    rw [← g52] at A52 st52
    have V52 := Arv.new A52 (by decide)
    have gn52 : n0 ≤ b52 := Nat.le_trans Z0 (Nat.le_of_eq g52.symm)
    have Z52 : n0 ≤ h52.size := Nat.le_trans Z0 E52.1
    have K52 : ∀ t, Steps p.tables e below (T52.setTop (mkF m 10 #[.val (.int p0), .val (.int p1), .val (.int (2 : Int32)), .unset, .unset, .unset] [(.ref b52)])) t → Steps p.tables e below G0 t := fun t kt => K51 t (st52 _ kt)
    have VL52 : Arv Z h52 b52 k52 .byte (2 : Int32) [(.int (0 : Int32)), (.int (0 : Int32))] (.int (0 : Int32)) := V52.pad (pad_rep [] (.int (0 : Int32)) 2)
    have K53 : ∀ t, Steps p.tables e below (T52.setTop (mkF m 19 #[.val (.int p0), .val (.int p1), .val (.int (2 : Int32)), .val (.ref b52), .unset, .unset] [(.int (0 : Int32)), (.int p1), (.int (0 : Int32)), (.ref b52)])) t → Steps p.tables e below G0 t := by
      intro t kt
      refine K52 t ?_
      refine XS.astoreN X52.here hx rfl (hb hby at_10) rfl rfl (l' := #[.val (.int p0), .val (.int p1), .val (.int (2 : Int32)), .val (.ref b52), .unset, .unset]) rfl ?_
      show Steps p.tables e below (T52.setTop (mkF m 11 #[.val (.int p0), .val (.int p1), .val (.int (2 : Int32)), .val (.ref b52), .unset, .unset] [])) _
      refine XS.iloadN X52.here hx rfl (hb hby at_11) rfl ?_
      show Steps p.tables e below (T52.setTop (mkF m 12 #[.val (.int p0), .val (.int p1), .val (.int (2 : Int32)), .val (.ref b52), .unset, .unset] [(.int (2 : Int32))])) _
      refine XS.ifNo X52.here hx rfl (hb hby at_12) rfl ((if0 _ _).trans (tlt (by decide)).2.2.2) ?_
      show Steps p.tables e below (T52.setTop (mkF m 15 #[.val (.int p0), .val (.int p1), .val (.int (2 : Int32)), .val (.ref b52), .unset, .unset] [])) _
      refine XS.aloadN X52.here hx rfl (hb hby at_15) rfl rfl ?_
      show Steps p.tables e below (T52.setTop (mkF m 16 #[.val (.int p0), .val (.int p1), .val (.int (2 : Int32)), .val (.ref b52), .unset, .unset] [(.ref b52)])) _
      refine XS.iconst X52.here hx rfl (hb hby at_16) ?_
      show Steps p.tables e below (T52.setTop (mkF m 17 #[.val (.int p0), .val (.int p1), .val (.int (2 : Int32)), .val (.ref b52), .unset, .unset] [(.int (0 : Int32)), (.ref b52)])) _
      refine XS.iloadN X52.here hx rfl (hb hby at_17) rfl ?_
      show Steps p.tables e below (T52.setTop (mkF m 18 #[.val (.int p0), .val (.int p1), .val (.int (2 : Int32)), .val (.ref b52), .unset, .unset] [(.int p1), (.int (0 : Int32)), (.ref b52)])) _
      refine XS.iconst X52.here hx rfl (hb hby at_18) ?_
      show Steps p.tables e below (T52.setTop (mkF m 19 #[.val (.int p0), .val (.int p1), .val (.int (2 : Int32)), .val (.ref b52), .unset, .unset] [(.int (0 : Int32)), (.int p1), (.int (0 : Int32)), (.ref b52)])) _
      exact kt
    obtain ⟨_, _, ⟨T54, L54, k54, n54⟩, -, X54, ⟨Lc54, hQ54, l54, y54, z54⟩, st54⟩ := Jvm.LawKit.callS X52 hx (y := (⟨"com/example/affordance/affordance/BodyHeldPinLaw", "part", "(II)B"⟩ : MethodName)) hown (mvT hZ (hw _ (List.mem_of_getElem? (i := 39) rfl))) (mvT hZ (hw _ (List.mem_of_getElem? (i := 40) rfl))) (mvT hZ (hw _ (List.mem_of_getElem? (i := 37) rfl))) (mvT hZ (hw _ (List.mem_of_getElem? (i := 41) rfl))) (by decide) (backOf (W := 2) (rm7 l Z aa hw [] (p1) ((0 : Int32))  h52 n0 Z52 ) hZ (hw _ (List.mem_of_getElem? (i := 41) rfl)) (hw _ (List.mem_of_getElem? (i := 37) rfl)) (by decide) (by decide)) (g := (mkF m 19 #[.val (.int p0), .val (.int p1), .val (.int (2 : Int32)), .val (.ref b52), .unset, .unset] [(.int (0 : Int32)), (.int p1), (.int (0 : Int32)), (.ref b52)])) rfl (by rw [hml]; rfl) (argsL := [(.int p1), (.int (0 : Int32))]) (rest := [(.int (0 : Int32)), (.ref b52)]) (lenOf pd_PIIQB rfl) rfl (by show 2 * 0 + _ ≤ _; exact Nat.le_of_eq rfl) (hb hby at_19) (fun _ _ => ⟨rfl, e52, (by decide : 1 + 0 ≤ _), (by decide : 2 + 0 ≤ _)⟩)
    dsimp only [Pt.U, Pt.locs, Pt.cells, Pt.slots] at X54 l54 y54 z54 st54 hQ54
    subst l54 y54 z54
    obtain ⟨rfl, N54q, e54⟩ := hQ54
    have N54 := Fr.app N0 N54q
    have K54 : ∀ t, Steps p.tables e below (T54.setTop (mkF m 22 #[.val (.int p0), .val (.int p1), .val (.int (2 : Int32)), .val (.ref b52), .unset, .unset] [(.int (own_p p1 (0 : Int32))), (.int (0 : Int32)), (.ref b52)])) t → Steps p.tables e below G0 t := fun t kt => K53 t (st54 _ kt)
    obtain ⟨cl55, Ar55, qq55, S55, M55, H55, GG55⟩ := id VL52
    have hin55 : ¬ ((0 : Int32) < 0 ∨ cl55.slots.size ≤ ((0 : Int32)).toNatClampNeg) := inb_of S55 ⟨by decide, by decide⟩
    obtain ⟨T56, h56, X56, e56, W56, st56⟩ := stB X54 hx hZ e54 Ar55 (j := (0 : Int32)) hin55 (g := (mkF m 22 #[.val (.int p0), .val (.int p1), .val (.int (2 : Int32)), .val (.ref b52), .unset, .unset] [(.int (own_p p1 (0 : Int32))), (.int (0 : Int32)), (.ref b52)])) rfl rfl (hb hby at_22)
    have K56 : ∀ t, Steps p.tables e below (T56.setTop (mkF m 23 #[.val (.int p0), .val (.int p1), .val (.int (2 : Int32)), .val (.ref b52), .unset, .unset] [])) t → Steps p.tables e below G0 t := fun t kt => K54 t (st56 _ kt)
    have Z56 : n0 ≤ h56.size := Nat.le_trans Z52 (Keep.of_wr W56).1
    have VL56 : Arv Z h56 b52 k52 .byte (2 : Int32) [(.int (nar .byte (own_p p1 (0 : Int32)))), (.int (0 : Int32))] (.int (0 : Int32)) := Arv.set Ar55 qq55 S55 M55 H55 GG55 (fits_nar_byte _) W56 0 rfl (Nat.le_of_ble_eq_true rfl)
    have N56 := Fr.snoc X56 N54 gn52
    have K57 : ∀ t, Steps p.tables e below (T56.setTop (mkF m 32 #[.val (.int p0), .val (.int p1), .val (.int (2 : Int32)), .val (.ref b52), .unset, .unset] [(.int (1 : Int32)), (.int p1), (.int (1 : Int32)), (.ref b52)])) t → Steps p.tables e below G0 t := by
      intro t kt
      refine K56 t ?_
      refine XS.iloadN X56.here hx rfl (hb hby at_23) rfl ?_
      show Steps p.tables e below (T56.setTop (mkF m 24 #[.val (.int p0), .val (.int p1), .val (.int (2 : Int32)), .val (.ref b52), .unset, .unset] [(.int (2 : Int32))])) _
      refine XS.iconst X56.here hx rfl (hb hby at_24) ?_
      show Steps p.tables e below (T56.setTop (mkF m 25 #[.val (.int p0), .val (.int p1), .val (.int (2 : Int32)), .val (.ref b52), .unset, .unset] [(.int (1 : Int32)), (.int (2 : Int32))])) _
      refine XS.icmpNo X56.here hx rfl (hb hby at_25) rfl (tlt (by decide)).2.2.2 ?_
      show Steps p.tables e below (T56.setTop (mkF m 28 #[.val (.int p0), .val (.int p1), .val (.int (2 : Int32)), .val (.ref b52), .unset, .unset] [])) _
      refine XS.aloadN X56.here hx rfl (hb hby at_28) rfl rfl ?_
      show Steps p.tables e below (T56.setTop (mkF m 29 #[.val (.int p0), .val (.int p1), .val (.int (2 : Int32)), .val (.ref b52), .unset, .unset] [(.ref b52)])) _
      refine XS.iconst X56.here hx rfl (hb hby at_29) ?_
      show Steps p.tables e below (T56.setTop (mkF m 30 #[.val (.int p0), .val (.int p1), .val (.int (2 : Int32)), .val (.ref b52), .unset, .unset] [(.int (1 : Int32)), (.ref b52)])) _
      refine XS.iloadN X56.here hx rfl (hb hby at_30) rfl ?_
      show Steps p.tables e below (T56.setTop (mkF m 31 #[.val (.int p0), .val (.int p1), .val (.int (2 : Int32)), .val (.ref b52), .unset, .unset] [(.int p1), (.int (1 : Int32)), (.ref b52)])) _
      refine XS.iconst X56.here hx rfl (hb hby at_31) ?_
      show Steps p.tables e below (T56.setTop (mkF m 32 #[.val (.int p0), .val (.int p1), .val (.int (2 : Int32)), .val (.ref b52), .unset, .unset] [(.int (1 : Int32)), (.int p1), (.int (1 : Int32)), (.ref b52)])) _
      exact kt
    obtain ⟨_, _, ⟨T58, L58, k58, n58⟩, -, X58, ⟨Lc58, hQ58, l58, y58, z58⟩, st58⟩ := Jvm.LawKit.callS X56 hx (y := (⟨"com/example/affordance/affordance/BodyHeldPinLaw", "part", "(II)B"⟩ : MethodName)) hown (mvT hZ (hw _ (List.mem_of_getElem? (i := 39) rfl))) (mvT hZ (hw _ (List.mem_of_getElem? (i := 40) rfl))) (mvT hZ (hw _ (List.mem_of_getElem? (i := 37) rfl))) (mvT hZ (hw _ (List.mem_of_getElem? (i := 41) rfl))) (by decide) (backOf (W := 2) (rm7 l Z aa hw [] (p1) ((1 : Int32))  h56 n0 Z56 ) hZ (hw _ (List.mem_of_getElem? (i := 41) rfl)) (hw _ (List.mem_of_getElem? (i := 37) rfl)) (by decide) (by decide)) (g := (mkF m 32 #[.val (.int p0), .val (.int p1), .val (.int (2 : Int32)), .val (.ref b52), .unset, .unset] [(.int (1 : Int32)), (.int p1), (.int (1 : Int32)), (.ref b52)])) rfl (by rw [hml]; rfl) (argsL := [(.int p1), (.int (1 : Int32))]) (rest := [(.int (1 : Int32)), (.ref b52)]) (lenOf pd_PIIQB rfl) rfl (by show 2 * 0 + _ ≤ _; exact Nat.le_of_eq rfl) (hb hby at_32) (fun _ _ => ⟨rfl, e56, (by decide : 1 + 0 ≤ _), (by decide : 2 + 0 ≤ _)⟩)
    dsimp only [Pt.U, Pt.locs, Pt.cells, Pt.slots] at X58 l58 y58 z58 st58 hQ58
    subst l58 y58 z58
    obtain ⟨rfl, N58q, e58⟩ := hQ58
    have N58 := Fr.app N56 N58q
    have K58 : ∀ t, Steps p.tables e below (T58.setTop (mkF m 35 #[.val (.int p0), .val (.int p1), .val (.int (2 : Int32)), .val (.ref b52), .unset, .unset] [(.int (own_p p1 (1 : Int32))), (.int (1 : Int32)), (.ref b52)])) t → Steps p.tables e below G0 t := fun t kt => K57 t (st58 _ kt)
    obtain ⟨cl59, Ar59, qq59, S59, M59, H59, GG59⟩ := id VL56
    have hin59 : ¬ ((1 : Int32) < 0 ∨ cl59.slots.size ≤ ((1 : Int32)).toNatClampNeg) := inb_of S59 ⟨by decide, by decide⟩
    obtain ⟨T60, h60, X60, e60, W60, st60⟩ := stB X58 hx hZ e58 Ar59 (j := (1 : Int32)) hin59 (g := (mkF m 35 #[.val (.int p0), .val (.int p1), .val (.int (2 : Int32)), .val (.ref b52), .unset, .unset] [(.int (own_p p1 (1 : Int32))), (.int (1 : Int32)), (.ref b52)])) rfl rfl (hb hby at_35)
    have K60 : ∀ t, Steps p.tables e below (T60.setTop (mkF m 36 #[.val (.int p0), .val (.int p1), .val (.int (2 : Int32)), .val (.ref b52), .unset, .unset] [])) t → Steps p.tables e below G0 t := fun t kt => K58 t (st60 _ kt)
    have Z60 : n0 ≤ h60.size := Nat.le_trans Z56 (Keep.of_wr W60).1
    have VL60 : Arv Z h60 b52 k52 .byte (2 : Int32) [(.int (nar .byte (own_p p1 (0 : Int32)))), (.int (nar .byte (own_p p1 (1 : Int32))))] (.int (0 : Int32)) := Arv.set Ar59 qq59 S59 M59 H59 GG59 (fits_nar_byte _) W60 1 rfl (Nat.le_of_ble_eq_true rfl)
    have N60 := Fr.snoc X60 N58 gn52
    have K61 : ∀ t, Steps p.tables e below (T60.setTop (mkF m 63 #[.val (.int p0), .val (.int p1), .val (.int (2 : Int32)), .val (.ref b52), .unset, .unset] [(.ref b52)])) t → Steps p.tables e below G0 t := by
      intro t kt
      refine K60 t ?_
      refine XS.iloadN X60.here hx rfl (hb hby at_36) rfl ?_
      show Steps p.tables e below (T60.setTop (mkF m 37 #[.val (.int p0), .val (.int p1), .val (.int (2 : Int32)), .val (.ref b52), .unset, .unset] [(.int (2 : Int32))])) _
      refine XS.iconst X60.here hx rfl (hb hby at_37) ?_
      show Steps p.tables e below (T60.setTop (mkF m 38 #[.val (.int p0), .val (.int p1), .val (.int (2 : Int32)), .val (.ref b52), .unset, .unset] [(.int (2 : Int32)), (.int (2 : Int32))])) _
      refine XS.icmpYes X60.here hx rfl (pc0 := 38) (pc' := 49) rfl (hb hby at_38) rfl (flt (by decide)).2.2.2 (by decide) (by decide) ?_
      show Steps p.tables e below (T60.setTop (mkF m 49 #[.val (.int p0), .val (.int p1), .val (.int (2 : Int32)), .val (.ref b52), .unset, .unset] [])) _
      refine XS.iloadN X60.here hx rfl (hb hby at_49) rfl ?_
      show Steps p.tables e below (T60.setTop (mkF m 50 #[.val (.int p0), .val (.int p1), .val (.int (2 : Int32)), .val (.ref b52), .unset, .unset] [(.int (2 : Int32))])) _
      refine XS.iconst X60.here hx rfl (hb hby at_50) ?_
      show Steps p.tables e below (T60.setTop (mkF m 51 #[.val (.int p0), .val (.int p1), .val (.int (2 : Int32)), .val (.ref b52), .unset, .unset] [(.int (3 : Int32)), (.int (2 : Int32))])) _
      refine XS.icmpYes X60.here hx rfl (pc0 := 51) (pc' := 62) rfl (hb hby at_51) rfl (flt (by decide)).2.2.2 (by decide) (by decide) ?_
      show Steps p.tables e below (T60.setTop (mkF m 62 #[.val (.int p0), .val (.int p1), .val (.int (2 : Int32)), .val (.ref b52), .unset, .unset] [])) _
      refine XS.aloadN X60.here hx rfl (hb hby at_62) rfl rfl ?_
      show Steps p.tables e below (T60.setTop (mkF m 63 #[.val (.int p0), .val (.int p1), .val (.int (2 : Int32)), .val (.ref b52), .unset, .unset] [(.ref b52)])) _
      exact kt
    obtain ⟨_, _, ⟨T62, L62, k62, n62⟩, -, X62, ⟨Lc62, hQ62, l62, y62, z62⟩, st62⟩ := Jvm.LawKit.callS X60 hx (y := (⟨"com/example/affordance/affordance/Body", "held", "([B)Lcom/example/affordance/affordance/Body;"⟩ : MethodName)) hown (mvT hZ (hw _ (List.mem_of_getElem? (i := 2) rfl))) (mvT hZ (hw _ (List.mem_of_getElem? (i := 3) rfl))) (mvT hZ (hw _ (List.mem_of_getElem? (i := 4) rfl))) (mvT hZ (hw _ (List.mem_of_getElem? (i := 5) rfl))) (by decide) (backOf (W := 0) (rm1 l Z aa hw [] (b52) _ (2 : Int32) _ _ h60 n0 Z60 VL60) hZ (hw _ (List.mem_of_getElem? (i := 5) rfl)) (hw _ (List.mem_of_getElem? (i := 4) rfl)) (by decide) (by decide)) (g := (mkF m 63 #[.val (.int p0), .val (.int p1), .val (.int (2 : Int32)), .val (.ref b52), .unset, .unset] [(.ref b52)])) rfl (by rw [hml]; rfl) (argsL := [(.ref b52)]) (rest := []) (lenOf pd_P_BQLcom_example_affordance_affordance_Body_ rfl) rfl (by show 2 * 0 + _ ≤ _; exact Nat.le_of_eq rfl) (hb hby at_63) (fun _ _ => ⟨rfl, e60, (by decide : 1 + 1 ≤ _), (by decide : 2 + 5 ≤ _)⟩)
    dsimp only [Pt.U, Pt.locs, Pt.cells, Pt.slots] at X62 l62 y62 z62 st62 hQ62
    subst l62 y62 z62
    obtain ⟨r62, rfl, N62q, KV62, EV62, FB62, FL62⟩ := hQ62
    have N62 := Fr.app N60 N62q
    have K62 : ∀ t, Steps p.tables e below (T62.setTop (mkF m 66 #[.val (.int p0), .val (.int p1), .val (.int (2 : Int32)), .val (.ref b52), .unset, .unset] [(.ref r62)])) t → Steps p.tables e below G0 t := fun t kt => K61 t (st62 _ kt)
    have Z62 : n0 ≤ T62.heap.size := Nat.le_trans Z60 KV62.1
    have K63 : ∀ t, Steps p.tables e below (T62.setTop (mkF m 70 #[.val (.int p0), .val (.int p1), .val (.int (2 : Int32)), .val (.ref b52), .val (.ref r62), .unset] [(.ref r62)])) t → Steps p.tables e below G0 t := by
      intro t kt
      refine K62 t ?_
      refine XS.astore X62.here hx rfl (hb hby at_66) rfl rfl (l' := #[.val (.int p0), .val (.int p1), .val (.int (2 : Int32)), .val (.ref b52), .val (.ref r62), .unset]) rfl ?_
      show Steps p.tables e below (T62.setTop (mkF m 68 #[.val (.int p0), .val (.int p1), .val (.int (2 : Int32)), .val (.ref b52), .val (.ref r62), .unset] [])) _
      refine XS.aload X62.here hx rfl (hb hby at_68) rfl rfl ?_
      show Steps p.tables e below (T62.setTop (mkF m 70 #[.val (.int p0), .val (.int p1), .val (.int (2 : Int32)), .val (.ref b52), .val (.ref r62), .unset] [(.ref r62)])) _
      exact kt
    obtain ⟨cq64, kq64, q64a, q64b, q64c⟩ := isOf hZ (rfl : T62.heap = _) EV62
    obtain ⟨_, _, ⟨T65, L65, k65, n65⟩, -, X65, ⟨Lc65, hQ65, l65, y65, z65⟩, st65⟩ := X62.virtualBack hx (y := (⟨"com/example/affordance/affordance/Body", "length", "()J"⟩ : MethodName)) (z := (⟨"com/example/affordance/affordance/Body", "length", "()J"⟩ : MethodName)) hown (mvT hZ (hw _ (List.mem_of_getElem? (i := 25) rfl))) (mvT hZ (hw _ (List.mem_of_getElem? (i := 26) rfl))) (notFace_of_selects (args := #[]) (mvT hZ (hw _ (List.mem_of_getElem? (i := 28) rfl)))) (mvT hZ (hw _ (List.mem_of_getElem? (i := 28) rfl))) (mvT hZ (hw _ (List.mem_of_getElem? (i := 27) rfl))) (by decide) (backOf (W := 0) (rm4 l Z aa hw [] (r62) ((2 : Int32)).toInt64 T62.heap n0 Z62 FL62) hZ (hw _ (List.mem_of_getElem? (i := 29) rfl)) (hw _ (List.mem_of_getElem? (i := 4) rfl)) (by decide) (by decide)) q64a q64c (g := (mkF m 70 #[.val (.int p0), .val (.int p1), .val (.int (2 : Int32)), .val (.ref b52), .val (.ref r62), .unset] [(.ref r62)])) rfl (by rw [hml]; rfl) (Steps.refl _) (argsL := []) (rest := []) (lenOf pd_PQJ rfl) rfl (by show 2 * 0 + _ ≤ _; exact Nat.le_of_eq rfl) (hb hby at_70) (fun _ _ => ⟨rfl, (rfl : T62.heap = _), (by decide : 2 + 0 ≤ _), (by decide : 7 + 0 ≤ _)⟩)
    dsimp only [Pt.U, Pt.locs, Pt.cells, Pt.slots] at X65 l65 y65 z65 st65 hQ65
    subst l65 y65 z65
    obtain ⟨rfl, N65q, e65⟩ := hQ65
    have N65 := Fr.app N62 N65q
    have K65 : ∀ t, Steps p.tables e below (T65.setTop (mkF m 73 #[.val (.int p0), .val (.int p1), .val (.int (2 : Int32)), .val (.ref b52), .val (.ref r62), .unset] [(.long ((2 : Int32)).toInt64)])) t → Steps p.tables e below G0 t := fun t kt => K63 t (st65.trans kt)
    have K66 : ∀ t, Steps p.tables e below (T65.setTop (mkF m 83 #[.val (.int p0), .val (.int p1), .val (.int (2 : Int32)), .val (.ref b52), .val (.ref r62), .unset] [(.ref r62)])) t → Steps p.tables e below G0 t := by
      intro t kt
      refine K65 t ?_
      refine XS.iloadN X65.here hx rfl (hb hby at_73) rfl ?_
      show Steps p.tables e below (T65.setTop (mkF m 74 #[.val (.int p0), .val (.int p1), .val (.int (2 : Int32)), .val (.ref b52), .val (.ref r62), .unset] [(.int (2 : Int32)), (.long ((2 : Int32)).toInt64)])) _
      refine XS.i2l X65.here hx rfl (hb hby at_74) rfl ?_
      show Steps p.tables e below (T65.setTop (mkF m 75 #[.val (.int p0), .val (.int p1), .val (.int (2 : Int32)), .val (.ref b52), .val (.ref r62), .unset] [(.long ((2 : Int32).toInt64)), (.long ((2 : Int32)).toInt64)])) _
      refine XS.lcmp X65.here hx rfl (hb hby at_75) rfl ?_
      show Steps p.tables e below (T65.setTop (mkF m 76 #[.val (.int p0), .val (.int p1), .val (.int (2 : Int32)), .val (.ref b52), .val (.ref r62), .unset] [(.int (lcmpW ((2 : Int32)).toInt64 ((2 : Int32).toInt64)))])) _
      refine XS.ifYes X65.here hx rfl (pc0 := 76) (pc' := 81) rfl (hb hby at_76) rfl ((if0 _ _).trans (teq ((lw_eq _ _).mpr rfl)).1) (by decide) (by decide) ?_
      show Steps p.tables e below (T65.setTop (mkF m 81 #[.val (.int p0), .val (.int p1), .val (.int (2 : Int32)), .val (.ref b52), .val (.ref r62), .unset] [])) _
      refine XS.aload X65.here hx rfl (hb hby at_81) rfl rfl ?_
      show Steps p.tables e below (T65.setTop (mkF m 83 #[.val (.int p0), .val (.int p1), .val (.int (2 : Int32)), .val (.ref b52), .val (.ref r62), .unset] [(.ref r62)])) _
      exact kt
    obtain ⟨cq67, kq67, q67a, q67b, q67c⟩ := isOf hZ e65 EV62
    obtain ⟨_, _, ⟨T68, L68, k68, n68⟩, -, X68, ⟨Lc68, hQ68, l68, y68, z68⟩, st68⟩ := X65.virtualBack hx (y := (⟨"com/example/affordance/affordance/Body", "bytes", "()[B"⟩ : MethodName)) (z := (⟨"com/example/affordance/affordance/Body", "bytes", "()[B"⟩ : MethodName)) hown (mvT hZ (hw _ (List.mem_of_getElem? (i := 30) rfl))) (mvT hZ (hw _ (List.mem_of_getElem? (i := 31) rfl))) (notFace_of_selects (args := #[]) (mvT hZ (hw _ (List.mem_of_getElem? (i := 33) rfl)))) (mvT hZ (hw _ (List.mem_of_getElem? (i := 33) rfl))) (mvT hZ (hw _ (List.mem_of_getElem? (i := 32) rfl))) (by decide) (backOf (W := 0) (rm5 l Z aa hw [] (r62) b52 T62.heap n0 Z62 FB62) hZ (hw _ (List.mem_of_getElem? (i := 34) rfl)) (hw _ (List.mem_of_getElem? (i := 4) rfl)) (by decide) (by decide)) q67a q67c (g := (mkF m 83 #[.val (.int p0), .val (.int p1), .val (.int (2 : Int32)), .val (.ref b52), .val (.ref r62), .unset] [(.ref r62)])) rfl (by rw [hml]; rfl) (Steps.refl _) (argsL := []) (rest := []) (lenOf pd_PQ_B rfl) rfl (by show 2 * 0 + _ ≤ _; exact Nat.le_of_eq rfl) (hb hby at_83) (fun _ _ => ⟨rfl, e65, (by decide : 2 + 0 ≤ _), (by decide : 7 + 0 ≤ _)⟩)
    dsimp only [Pt.U, Pt.locs, Pt.cells, Pt.slots] at X68 l68 y68 z68 st68 hQ68
    subst l68 y68 z68
    obtain ⟨rfl, N68q, e68⟩ := hQ68
    have N68 := Fr.app N65 N68q
    have K68 : ∀ t, Steps p.tables e below (T68.setTop (mkF m 86 #[.val (.int p0), .val (.int p1), .val (.int (2 : Int32)), .val (.ref b52), .val (.ref r62), .unset] [(.ref b52)])) t → Steps p.tables e below G0 t := fun t kt => K66 t (st68.trans kt)
    have K69 : ∀ t, Steps p.tables e below (T68.setTop (mkF m 95 #[.val (.int p0), .val (.int p1), .val (.int (2 : Int32)), .val (.ref b52), .val (.ref r62), .val (.ref b52)] [(.ref b52)])) t → Steps p.tables e below G0 t := by
      intro t kt
      refine K68 t ?_
      refine XS.astore X68.here hx rfl (hb hby at_86) rfl rfl (l' := #[.val (.int p0), .val (.int p1), .val (.int (2 : Int32)), .val (.ref b52), .val (.ref r62), .val (.ref b52)]) rfl ?_
      show Steps p.tables e below (T68.setTop (mkF m 88 #[.val (.int p0), .val (.int p1), .val (.int (2 : Int32)), .val (.ref b52), .val (.ref r62), .val (.ref b52)] [])) _
      refine XS.aload X68.here hx rfl (hb hby at_88) rfl rfl ?_
      show Steps p.tables e below (T68.setTop (mkF m 90 #[.val (.int p0), .val (.int p1), .val (.int (2 : Int32)), .val (.ref b52), .val (.ref r62), .val (.ref b52)] [(.ref b52)])) _
      refine XS.ifnullNo X68.here hx rfl (hb hby at_90) rfl ?_
      show Steps p.tables e below (T68.setTop (mkF m 93 #[.val (.int p0), .val (.int p1), .val (.int (2 : Int32)), .val (.ref b52), .val (.ref r62), .val (.ref b52)] [])) _
      refine XS.aload X68.here hx rfl (hb hby at_93) rfl rfl ?_
      show Steps p.tables e below (T68.setTop (mkF m 95 #[.val (.int p0), .val (.int p1), .val (.int (2 : Int32)), .val (.ref b52), .val (.ref r62), .val (.ref b52)] [(.ref b52)])) _
      exact kt
    have f70 := (VL60.keep KV62 (fun q => nomatch q))
    obtain ⟨cl71, Ar71, qq71, S71, M71, H71, GG71⟩ := id f70
    have K72 : ∀ t, Steps p.tables e below (T68.setTop (mkF m 107 #[.val (.int p0), .val (.int p1), .val (.int (2 : Int32)), .val (.ref b52), .val (.ref r62), .val (.ref b52)] [(.int (0 : Int32)), (.int p1), (.int (2 : Int32)), (.ref b52)])) t → Steps p.tables e below G0 t := by
      intro t kt
      refine K69 t ?_
      refine X68.arraylength hx (by rw [e68]; exact (Ar71).1) (State.isArrayOf_alike hZ.alike (Ar71).2.1) (g := (mkF m 95 #[.val (.int p0), .val (.int p1), .val (.int (2 : Int32)), .val (.ref b52), .val (.ref r62), .val (.ref b52)] [(.ref b52)])) rfl rfl (hb hby at_95) _ ?_
      rw [len_of S71 M71]
      show Steps p.tables e below (T68.setTop (mkF m 96 #[.val (.int p0), .val (.int p1), .val (.int (2 : Int32)), .val (.ref b52), .val (.ref r62), .val (.ref b52)] [(.int (2 : Int32))])) _
      refine XS.iloadN X68.here hx rfl (hb hby at_96) rfl ?_
      show Steps p.tables e below (T68.setTop (mkF m 97 #[.val (.int p0), .val (.int p1), .val (.int (2 : Int32)), .val (.ref b52), .val (.ref r62), .val (.ref b52)] [(.int (2 : Int32)), (.int (2 : Int32))])) _
      refine XS.icmpYes X68.here hx rfl (pc0 := 97) (pc' := 102) rfl (hb hby at_97) rfl (teq rfl).1 (by decide) (by decide) ?_
      show Steps p.tables e below (T68.setTop (mkF m 102 #[.val (.int p0), .val (.int p1), .val (.int (2 : Int32)), .val (.ref b52), .val (.ref r62), .val (.ref b52)] [])) _
      refine XS.aload X68.here hx rfl (hb hby at_102) rfl rfl ?_
      show Steps p.tables e below (T68.setTop (mkF m 104 #[.val (.int p0), .val (.int p1), .val (.int (2 : Int32)), .val (.ref b52), .val (.ref r62), .val (.ref b52)] [(.ref b52)])) _
      refine XS.iloadN X68.here hx rfl (hb hby at_104) rfl ?_
      show Steps p.tables e below (T68.setTop (mkF m 105 #[.val (.int p0), .val (.int p1), .val (.int (2 : Int32)), .val (.ref b52), .val (.ref r62), .val (.ref b52)] [(.int (2 : Int32)), (.ref b52)])) _
      refine XS.iloadN X68.here hx rfl (hb hby at_105) rfl ?_
      show Steps p.tables e below (T68.setTop (mkF m 106 #[.val (.int p0), .val (.int p1), .val (.int (2 : Int32)), .val (.ref b52), .val (.ref r62), .val (.ref b52)] [(.int p1), (.int (2 : Int32)), (.ref b52)])) _
      refine XS.iconst X68.here hx rfl (hb hby at_106) ?_
      show Steps p.tables e below (T68.setTop (mkF m 107 #[.val (.int p0), .val (.int p1), .val (.int (2 : Int32)), .val (.ref b52), .val (.ref r62), .val (.ref b52)] [(.int (0 : Int32)), (.int p1), (.int (2 : Int32)), (.ref b52)])) _
      exact kt
    obtain ⟨cl73, Ar73, qq73, S73, M73, H73, GG73⟩ := id f70
    have hin73 : ¬ ((0 : Int32) < 0 ∨ cl73.slots.size ≤ ((0 : Int32)).toNatClampNeg) := inb_of S73 ⟨by decide, by decide⟩
    obtain ⟨_, _, ⟨T74, L74, k74, n74⟩, -, X74, ⟨Lc74, hQ74, l74, y74, z74⟩, st74⟩ := Jvm.LawKit.callS X68 hx (y := (⟨"com/example/affordance/affordance/BodyHeldPinLaw", "same", "([BIII)Z"⟩ : MethodName)) hown (mvT hZ (hw _ (List.mem_of_getElem? (i := 35) rfl))) (mvT hZ (hw _ (List.mem_of_getElem? (i := 36) rfl))) (mvT hZ (hw _ (List.mem_of_getElem? (i := 37) rfl))) (mvT hZ (hw _ (List.mem_of_getElem? (i := 38) rfl))) (by decide) (backOf (W := 0) (rm6 l Z aa hw [] (b52) ((2 : Int32)) (p1) ((0 : Int32))  T62.heap n0 Z62 (Or.inr ⟨cl73, Ar73, hin73, Has.at H73 hin73 rfl⟩)) hZ (hw _ (List.mem_of_getElem? (i := 38) rfl)) (hw _ (List.mem_of_getElem? (i := 37) rfl)) (by decide) (by decide)) (g := (mkF m 107 #[.val (.int p0), .val (.int p1), .val (.int (2 : Int32)), .val (.ref b52), .val (.ref r62), .val (.ref b52)] [(.int (0 : Int32)), (.int p1), (.int (2 : Int32)), (.ref b52)])) rfl (by rw [hml]; rfl) (argsL := [(.ref b52), (.int (2 : Int32)), (.int p1), (.int (0 : Int32))]) (rest := []) (lenOf pd_P_BIIIQZ rfl) rfl (by show 2 * 0 + _ ≤ _; exact Nat.le_of_eq rfl) (hb hby at_107) (fun _ _ => ⟨rfl, e68, (by decide : 2 + 0 ≤ _), (by decide : 7 + 0 ≤ _)⟩)
    dsimp only [Pt.U, Pt.locs, Pt.cells, Pt.slots] at X74 l74 y74 z74 st74 hQ74
    subst l74 y74 z74
    obtain ⟨rfl, N74q, e74⟩ := hQ74
    have N74 := Fr.app N68 N74q
    have K74 : ∀ t, Steps p.tables e below (T74.setTop (mkF m 110 #[.val (.int p0), .val (.int p1), .val (.int (2 : Int32)), .val (.ref b52), .val (.ref r62), .val (.ref b52)] [(.int (1 : Int32))])) t → Steps p.tables e below G0 t := fun t kt => K72 t (st74 _ kt)
    have K75 : ∀ t, Steps p.tables e below (T74.setTop (mkF m 118 #[.val (.int p0), .val (.int p1), .val (.int (2 : Int32)), .val (.ref b52), .val (.ref r62), .val (.ref b52)] [(.int (1 : Int32)), (.int p1), (.int (2 : Int32)), (.ref b52)])) t → Steps p.tables e below G0 t := by
      intro t kt
      refine K74 t ?_
      refine XS.ifNo X74.here hx rfl (hb hby at_110) rfl ((if0 _ _).trans (feq (by decide)).1) ?_
      show Steps p.tables e below (T74.setTop (mkF m 113 #[.val (.int p0), .val (.int p1), .val (.int (2 : Int32)), .val (.ref b52), .val (.ref r62), .val (.ref b52)] [])) _
      refine XS.aload X74.here hx rfl (hb hby at_113) rfl rfl ?_
      show Steps p.tables e below (T74.setTop (mkF m 115 #[.val (.int p0), .val (.int p1), .val (.int (2 : Int32)), .val (.ref b52), .val (.ref r62), .val (.ref b52)] [(.ref b52)])) _
      refine XS.iloadN X74.here hx rfl (hb hby at_115) rfl ?_
      show Steps p.tables e below (T74.setTop (mkF m 116 #[.val (.int p0), .val (.int p1), .val (.int (2 : Int32)), .val (.ref b52), .val (.ref r62), .val (.ref b52)] [(.int (2 : Int32)), (.ref b52)])) _
      refine XS.iloadN X74.here hx rfl (hb hby at_116) rfl ?_
      show Steps p.tables e below (T74.setTop (mkF m 117 #[.val (.int p0), .val (.int p1), .val (.int (2 : Int32)), .val (.ref b52), .val (.ref r62), .val (.ref b52)] [(.int p1), (.int (2 : Int32)), (.ref b52)])) _
      refine XS.iconst X74.here hx rfl (hb hby at_117) ?_
      show Steps p.tables e below (T74.setTop (mkF m 118 #[.val (.int p0), .val (.int p1), .val (.int (2 : Int32)), .val (.ref b52), .val (.ref r62), .val (.ref b52)] [(.int (1 : Int32)), (.int p1), (.int (2 : Int32)), (.ref b52)])) _
      exact kt
    obtain ⟨cl76, Ar76, qq76, S76, M76, H76, GG76⟩ := id f70
    have hin76 : ¬ ((1 : Int32) < 0 ∨ cl76.slots.size ≤ ((1 : Int32)).toNatClampNeg) := inb_of S76 ⟨by decide, by decide⟩
    obtain ⟨_, _, ⟨T77, L77, k77, n77⟩, -, X77, ⟨Lc77, hQ77, l77, y77, z77⟩, st77⟩ := Jvm.LawKit.callS X74 hx (y := (⟨"com/example/affordance/affordance/BodyHeldPinLaw", "same", "([BIII)Z"⟩ : MethodName)) hown (mvT hZ (hw _ (List.mem_of_getElem? (i := 35) rfl))) (mvT hZ (hw _ (List.mem_of_getElem? (i := 36) rfl))) (mvT hZ (hw _ (List.mem_of_getElem? (i := 37) rfl))) (mvT hZ (hw _ (List.mem_of_getElem? (i := 38) rfl))) (by decide) (backOf (W := 0) (rm6 l Z aa hw [] (b52) ((2 : Int32)) (p1) ((1 : Int32))  T62.heap n0 Z62 (Or.inr ⟨cl76, Ar76, hin76, Has.at H76 hin76 rfl⟩)) hZ (hw _ (List.mem_of_getElem? (i := 38) rfl)) (hw _ (List.mem_of_getElem? (i := 37) rfl)) (by decide) (by decide)) (g := (mkF m 118 #[.val (.int p0), .val (.int p1), .val (.int (2 : Int32)), .val (.ref b52), .val (.ref r62), .val (.ref b52)] [(.int (1 : Int32)), (.int p1), (.int (2 : Int32)), (.ref b52)])) rfl (by rw [hml]; rfl) (argsL := [(.ref b52), (.int (2 : Int32)), (.int p1), (.int (1 : Int32))]) (rest := []) (lenOf pd_P_BIIIQZ rfl) rfl (by show 2 * 0 + _ ≤ _; exact Nat.le_of_eq rfl) (hb hby at_118) (fun _ _ => ⟨rfl, e74, (by decide : 2 + 0 ≤ _), (by decide : 7 + 0 ≤ _)⟩)
    dsimp only [Pt.U, Pt.locs, Pt.cells, Pt.slots] at X77 l77 y77 z77 st77 hQ77
    subst l77 y77 z77
    obtain ⟨rfl, N77q, e77⟩ := hQ77
    have N77 := Fr.app N74 N77q
    have K77 : ∀ t, Steps p.tables e below (T77.setTop (mkF m 121 #[.val (.int p0), .val (.int p1), .val (.int (2 : Int32)), .val (.ref b52), .val (.ref r62), .val (.ref b52)] [(.int (1 : Int32))])) t → Steps p.tables e below G0 t := fun t kt => K75 t (st77 _ kt)
    have K78 : ∀ t, Steps p.tables e below (T77.setTop (mkF m 129 #[.val (.int p0), .val (.int p1), .val (.int (2 : Int32)), .val (.ref b52), .val (.ref r62), .val (.ref b52)] [(.int (2 : Int32)), (.int p1), (.int (2 : Int32)), (.ref b52)])) t → Steps p.tables e below G0 t := by
      intro t kt
      refine K77 t ?_
      refine XS.ifNo X77.here hx rfl (hb hby at_121) rfl ((if0 _ _).trans (feq (by decide)).1) ?_
      show Steps p.tables e below (T77.setTop (mkF m 124 #[.val (.int p0), .val (.int p1), .val (.int (2 : Int32)), .val (.ref b52), .val (.ref r62), .val (.ref b52)] [])) _
      refine XS.aload X77.here hx rfl (hb hby at_124) rfl rfl ?_
      show Steps p.tables e below (T77.setTop (mkF m 126 #[.val (.int p0), .val (.int p1), .val (.int (2 : Int32)), .val (.ref b52), .val (.ref r62), .val (.ref b52)] [(.ref b52)])) _
      refine XS.iloadN X77.here hx rfl (hb hby at_126) rfl ?_
      show Steps p.tables e below (T77.setTop (mkF m 127 #[.val (.int p0), .val (.int p1), .val (.int (2 : Int32)), .val (.ref b52), .val (.ref r62), .val (.ref b52)] [(.int (2 : Int32)), (.ref b52)])) _
      refine XS.iloadN X77.here hx rfl (hb hby at_127) rfl ?_
      show Steps p.tables e below (T77.setTop (mkF m 128 #[.val (.int p0), .val (.int p1), .val (.int (2 : Int32)), .val (.ref b52), .val (.ref r62), .val (.ref b52)] [(.int p1), (.int (2 : Int32)), (.ref b52)])) _
      refine XS.iconst X77.here hx rfl (hb hby at_128) ?_
      show Steps p.tables e below (T77.setTop (mkF m 129 #[.val (.int p0), .val (.int p1), .val (.int (2 : Int32)), .val (.ref b52), .val (.ref r62), .val (.ref b52)] [(.int (2 : Int32)), (.int p1), (.int (2 : Int32)), (.ref b52)])) _
      exact kt
    obtain ⟨_, _, ⟨T79, L79, k79, n79⟩, -, X79, ⟨Lc79, hQ79, l79, y79, z79⟩, st79⟩ := Jvm.LawKit.callS X77 hx (y := (⟨"com/example/affordance/affordance/BodyHeldPinLaw", "same", "([BIII)Z"⟩ : MethodName)) hown (mvT hZ (hw _ (List.mem_of_getElem? (i := 35) rfl))) (mvT hZ (hw _ (List.mem_of_getElem? (i := 36) rfl))) (mvT hZ (hw _ (List.mem_of_getElem? (i := 37) rfl))) (mvT hZ (hw _ (List.mem_of_getElem? (i := 38) rfl))) (by decide) (backOf (W := 0) (rm6 l Z aa hw [] (b52) ((2 : Int32)) (p1) ((2 : Int32))  T62.heap n0 Z62 (Or.inl (by decide))) hZ (hw _ (List.mem_of_getElem? (i := 38) rfl)) (hw _ (List.mem_of_getElem? (i := 37) rfl)) (by decide) (by decide)) (g := (mkF m 129 #[.val (.int p0), .val (.int p1), .val (.int (2 : Int32)), .val (.ref b52), .val (.ref r62), .val (.ref b52)] [(.int (2 : Int32)), (.int p1), (.int (2 : Int32)), (.ref b52)])) rfl (by rw [hml]; rfl) (argsL := [(.ref b52), (.int (2 : Int32)), (.int p1), (.int (2 : Int32))]) (rest := []) (lenOf pd_P_BIIIQZ rfl) rfl (by show 2 * 0 + _ ≤ _; exact Nat.le_of_eq rfl) (hb hby at_129) (fun _ _ => ⟨rfl, e77, (by decide : 2 + 0 ≤ _), (by decide : 7 + 0 ≤ _)⟩)
    dsimp only [Pt.U, Pt.locs, Pt.cells, Pt.slots] at X79 l79 y79 z79 st79 hQ79
    subst l79 y79 z79
    obtain ⟨rfl, N79q, e79⟩ := hQ79
    have N79 := Fr.app N77 N79q
    have K79 : ∀ t, Steps p.tables e below (T79.setTop (mkF m 132 #[.val (.int p0), .val (.int p1), .val (.int (2 : Int32)), .val (.ref b52), .val (.ref r62), .val (.ref b52)] [(.int (1 : Int32))])) t → Steps p.tables e below G0 t := fun t kt => K78 t (st79 _ kt)
    have K80 : ∀ t, Steps p.tables e below (T79.setTop (mkF m 140 #[.val (.int p0), .val (.int p1), .val (.int (2 : Int32)), .val (.ref b52), .val (.ref r62), .val (.ref b52)] [(.int (3 : Int32)), (.int p1), (.int (2 : Int32)), (.ref b52)])) t → Steps p.tables e below G0 t := by
      intro t kt
      refine K79 t ?_
      refine XS.ifNo X79.here hx rfl (hb hby at_132) rfl ((if0 _ _).trans (feq (by decide)).1) ?_
      show Steps p.tables e below (T79.setTop (mkF m 135 #[.val (.int p0), .val (.int p1), .val (.int (2 : Int32)), .val (.ref b52), .val (.ref r62), .val (.ref b52)] [])) _
      refine XS.aload X79.here hx rfl (hb hby at_135) rfl rfl ?_
      show Steps p.tables e below (T79.setTop (mkF m 137 #[.val (.int p0), .val (.int p1), .val (.int (2 : Int32)), .val (.ref b52), .val (.ref r62), .val (.ref b52)] [(.ref b52)])) _
      refine XS.iloadN X79.here hx rfl (hb hby at_137) rfl ?_
      show Steps p.tables e below (T79.setTop (mkF m 138 #[.val (.int p0), .val (.int p1), .val (.int (2 : Int32)), .val (.ref b52), .val (.ref r62), .val (.ref b52)] [(.int (2 : Int32)), (.ref b52)])) _
      refine XS.iloadN X79.here hx rfl (hb hby at_138) rfl ?_
      show Steps p.tables e below (T79.setTop (mkF m 139 #[.val (.int p0), .val (.int p1), .val (.int (2 : Int32)), .val (.ref b52), .val (.ref r62), .val (.ref b52)] [(.int p1), (.int (2 : Int32)), (.ref b52)])) _
      refine XS.iconst X79.here hx rfl (hb hby at_139) ?_
      show Steps p.tables e below (T79.setTop (mkF m 140 #[.val (.int p0), .val (.int p1), .val (.int (2 : Int32)), .val (.ref b52), .val (.ref r62), .val (.ref b52)] [(.int (3 : Int32)), (.int p1), (.int (2 : Int32)), (.ref b52)])) _
      exact kt
    obtain ⟨_, _, ⟨T81, L81, k81, n81⟩, -, X81, ⟨Lc81, hQ81, l81, y81, z81⟩, st81⟩ := Jvm.LawKit.callS X79 hx (y := (⟨"com/example/affordance/affordance/BodyHeldPinLaw", "same", "([BIII)Z"⟩ : MethodName)) hown (mvT hZ (hw _ (List.mem_of_getElem? (i := 35) rfl))) (mvT hZ (hw _ (List.mem_of_getElem? (i := 36) rfl))) (mvT hZ (hw _ (List.mem_of_getElem? (i := 37) rfl))) (mvT hZ (hw _ (List.mem_of_getElem? (i := 38) rfl))) (by decide) (backOf (W := 0) (rm6 l Z aa hw [] (b52) ((2 : Int32)) (p1) ((3 : Int32))  T62.heap n0 Z62 (Or.inl (by decide))) hZ (hw _ (List.mem_of_getElem? (i := 38) rfl)) (hw _ (List.mem_of_getElem? (i := 37) rfl)) (by decide) (by decide)) (g := (mkF m 140 #[.val (.int p0), .val (.int p1), .val (.int (2 : Int32)), .val (.ref b52), .val (.ref r62), .val (.ref b52)] [(.int (3 : Int32)), (.int p1), (.int (2 : Int32)), (.ref b52)])) rfl (by rw [hml]; rfl) (argsL := [(.ref b52), (.int (2 : Int32)), (.int p1), (.int (3 : Int32))]) (rest := []) (lenOf pd_P_BIIIQZ rfl) rfl (by show 2 * 0 + _ ≤ _; exact Nat.le_of_eq rfl) (hb hby at_140) (fun _ _ => ⟨rfl, e79, (by decide : 2 + 0 ≤ _), (by decide : 7 + 0 ≤ _)⟩)
    dsimp only [Pt.U, Pt.locs, Pt.cells, Pt.slots] at X81 l81 y81 z81 st81 hQ81
    subst l81 y81 z81
    obtain ⟨rfl, N81q, e81⟩ := hQ81
    have N81 := Fr.app N79 N81q
    have K81 : ∀ t, Steps p.tables e below (T81.setTop (mkF m 143 #[.val (.int p0), .val (.int p1), .val (.int (2 : Int32)), .val (.ref b52), .val (.ref r62), .val (.ref b52)] [(.int (1 : Int32))])) t → Steps p.tables e below G0 t := fun t kt => K80 t (st81 _ kt)
    have K82 : ∀ t, Steps p.tables e below (T81.setTop (mkF m 151 #[.val (.int p0), .val (.int p1), .val (.int (2 : Int32)), .val (.ref b52), .val (.ref r62), .val (.ref b52)] [(.int (1 : Int32))])) t → Steps p.tables e below G0 t := by
      intro t kt
      refine K81 t ?_
      refine XS.ifNo X81.here hx rfl (hb hby at_143) rfl ((if0 _ _).trans (feq (by decide)).1) ?_
      show Steps p.tables e below (T81.setTop (mkF m 146 #[.val (.int p0), .val (.int p1), .val (.int (2 : Int32)), .val (.ref b52), .val (.ref r62), .val (.ref b52)] [])) _
      refine XS.iconst X81.here hx rfl (hb hby at_146) ?_
      show Steps p.tables e below (T81.setTop (mkF m 147 #[.val (.int p0), .val (.int p1), .val (.int (2 : Int32)), .val (.ref b52), .val (.ref r62), .val (.ref b52)] [(.int (1 : Int32))])) _
      refine XS.goto X81.here hx rfl (pc0 := 147) (pc' := 151) rfl (hb hby at_147) (by decide) (by decide) ?_
      show Steps p.tables e below (T81.setTop (mkF m 151 #[.val (.int p0), .val (.int p1), .val (.int (2 : Int32)), .val (.ref b52), .val (.ref r62), .val (.ref b52)] [(.int (1 : Int32))])) _
      exact kt
    obtain ⟨fs, hr, hrun, hended, hW, hsame⟩ := X81.leave (v := some (.int (1 : Int32))) (fun h => by rw [Bd.returns] at h; cases h)
    refine ⟨_, _, ?_, hrun, hended, _, _, rfl, ?_, ⟨_, rfl⟩, hW, hsame.mono (by decide) (by decide)⟩
    · rw [← hG0]
      refine K82 _ ?_
      exact retN X81 hx (t := .boolean) Bd.returns (by simp) (hb hby at_151) hr
    · show Q0 Z p0 p1 h0 n0 _ T81.heap _
      rw [e81]
      exact ⟨rfl, N81⟩
  ·
    rw [hn] at K1
    have K83 : ∀ t, Steps p.tables e below (s₁.setTop (mkF m 8 #[.val (.int p0), .val (.int p1), .val (.int (3 : Int32)), .unset, .unset, .unset] [(.int (3 : Int32))])) t → Steps p.tables e below G0 t := by
      intro t kt
      refine K1 t ?_
      refine XS.iloadN X0.here hx rfl (hb hby at_7) rfl ?_
      show Steps p.tables e below (s₁.setTop (mkF m 8 #[.val (.int p0), .val (.int p1), .val (.int (3 : Int32)), .unset, .unset, .unset] [(.int (3 : Int32))])) _
      exact kt
    obtain ⟨T84, h84, k84, X84, e84, E84, A84, st84⟩ := newP X0 hx hZ (hw _ (List.mem_of_getElem? (i := 1) rfl)) e0 (g := (mkF m 8 #[.val (.int p0), .val (.int p1), .val (.int (3 : Int32)), .unset, .unset, .unset] [(.int (3 : Int32))])) rfl (hb hby at_8) rfl (by decide) (cap := 3) (by decide) (by decide) (by decide) (by decide)
    obtain ⟨b84, g84⟩ : ∃ z, z = h0.size := ⟨_, rfl⟩
    rw [← g84] at A84 st84
    have V84 := Arv.new A84 (by decide)
    have gn84 : n0 ≤ b84 := Nat.le_trans Z0 (Nat.le_of_eq g84.symm)
    have Z84 : n0 ≤ h84.size := Nat.le_trans Z0 E84.1
    have K84 : ∀ t, Steps p.tables e below (T84.setTop (mkF m 10 #[.val (.int p0), .val (.int p1), .val (.int (3 : Int32)), .unset, .unset, .unset] [(.ref b84)])) t → Steps p.tables e below G0 t := fun t kt => K83 t (st84 _ kt)
    have VL84 : Arv Z h84 b84 k84 .byte (3 : Int32) [(.int (0 : Int32)), (.int (0 : Int32)), (.int (0 : Int32))] (.int (0 : Int32)) := V84.pad (pad_rep [] (.int (0 : Int32)) 3)
    have K85 : ∀ t, Steps p.tables e below (T84.setTop (mkF m 19 #[.val (.int p0), .val (.int p1), .val (.int (3 : Int32)), .val (.ref b84), .unset, .unset] [(.int (0 : Int32)), (.int p1), (.int (0 : Int32)), (.ref b84)])) t → Steps p.tables e below G0 t := by
      intro t kt
      refine K84 t ?_
      refine XS.astoreN X84.here hx rfl (hb hby at_10) rfl rfl (l' := #[.val (.int p0), .val (.int p1), .val (.int (3 : Int32)), .val (.ref b84), .unset, .unset]) rfl ?_
      show Steps p.tables e below (T84.setTop (mkF m 11 #[.val (.int p0), .val (.int p1), .val (.int (3 : Int32)), .val (.ref b84), .unset, .unset] [])) _
      refine XS.iloadN X84.here hx rfl (hb hby at_11) rfl ?_
      show Steps p.tables e below (T84.setTop (mkF m 12 #[.val (.int p0), .val (.int p1), .val (.int (3 : Int32)), .val (.ref b84), .unset, .unset] [(.int (3 : Int32))])) _
      refine XS.ifNo X84.here hx rfl (hb hby at_12) rfl ((if0 _ _).trans (tlt (by decide)).2.2.2) ?_
      show Steps p.tables e below (T84.setTop (mkF m 15 #[.val (.int p0), .val (.int p1), .val (.int (3 : Int32)), .val (.ref b84), .unset, .unset] [])) _
      refine XS.aloadN X84.here hx rfl (hb hby at_15) rfl rfl ?_
      show Steps p.tables e below (T84.setTop (mkF m 16 #[.val (.int p0), .val (.int p1), .val (.int (3 : Int32)), .val (.ref b84), .unset, .unset] [(.ref b84)])) _
      refine XS.iconst X84.here hx rfl (hb hby at_16) ?_
      show Steps p.tables e below (T84.setTop (mkF m 17 #[.val (.int p0), .val (.int p1), .val (.int (3 : Int32)), .val (.ref b84), .unset, .unset] [(.int (0 : Int32)), (.ref b84)])) _
      refine XS.iloadN X84.here hx rfl (hb hby at_17) rfl ?_
      show Steps p.tables e below (T84.setTop (mkF m 18 #[.val (.int p0), .val (.int p1), .val (.int (3 : Int32)), .val (.ref b84), .unset, .unset] [(.int p1), (.int (0 : Int32)), (.ref b84)])) _
      refine XS.iconst X84.here hx rfl (hb hby at_18) ?_
      show Steps p.tables e below (T84.setTop (mkF m 19 #[.val (.int p0), .val (.int p1), .val (.int (3 : Int32)), .val (.ref b84), .unset, .unset] [(.int (0 : Int32)), (.int p1), (.int (0 : Int32)), (.ref b84)])) _
      exact kt
    obtain ⟨_, _, ⟨T86, L86, k86, n86⟩, -, X86, ⟨Lc86, hQ86, l86, y86, z86⟩, st86⟩ := Jvm.LawKit.callS X84 hx (y := (⟨"com/example/affordance/affordance/BodyHeldPinLaw", "part", "(II)B"⟩ : MethodName)) hown (mvT hZ (hw _ (List.mem_of_getElem? (i := 39) rfl))) (mvT hZ (hw _ (List.mem_of_getElem? (i := 40) rfl))) (mvT hZ (hw _ (List.mem_of_getElem? (i := 37) rfl))) (mvT hZ (hw _ (List.mem_of_getElem? (i := 41) rfl))) (by decide) (backOf (W := 2) (rm7 l Z aa hw [] (p1) ((0 : Int32))  h84 n0 Z84 ) hZ (hw _ (List.mem_of_getElem? (i := 41) rfl)) (hw _ (List.mem_of_getElem? (i := 37) rfl)) (by decide) (by decide)) (g := (mkF m 19 #[.val (.int p0), .val (.int p1), .val (.int (3 : Int32)), .val (.ref b84), .unset, .unset] [(.int (0 : Int32)), (.int p1), (.int (0 : Int32)), (.ref b84)])) rfl (by rw [hml]; rfl) (argsL := [(.int p1), (.int (0 : Int32))]) (rest := [(.int (0 : Int32)), (.ref b84)]) (lenOf pd_PIIQB rfl) rfl (by show 2 * 0 + _ ≤ _; exact Nat.le_of_eq rfl) (hb hby at_19) (fun _ _ => ⟨rfl, e84, (by decide : 1 + 0 ≤ _), (by decide : 3 + 0 ≤ _)⟩)
    dsimp only [Pt.U, Pt.locs, Pt.cells, Pt.slots] at X86 l86 y86 z86 st86 hQ86
    subst l86 y86 z86
    obtain ⟨rfl, N86q, e86⟩ := hQ86
    have N86 := Fr.app N0 N86q
    have K86 : ∀ t, Steps p.tables e below (T86.setTop (mkF m 22 #[.val (.int p0), .val (.int p1), .val (.int (3 : Int32)), .val (.ref b84), .unset, .unset] [(.int (own_p p1 (0 : Int32))), (.int (0 : Int32)), (.ref b84)])) t → Steps p.tables e below G0 t := fun t kt => K85 t (st86 _ kt)
    obtain ⟨cl87, Ar87, qq87, S87, M87, H87, GG87⟩ := id VL84
    have hin87 : ¬ ((0 : Int32) < 0 ∨ cl87.slots.size ≤ ((0 : Int32)).toNatClampNeg) := inb_of S87 ⟨by decide, by decide⟩
    obtain ⟨T88, h88, X88, e88, W88, st88⟩ := stB X86 hx hZ e86 Ar87 (j := (0 : Int32)) hin87 (g := (mkF m 22 #[.val (.int p0), .val (.int p1), .val (.int (3 : Int32)), .val (.ref b84), .unset, .unset] [(.int (own_p p1 (0 : Int32))), (.int (0 : Int32)), (.ref b84)])) rfl rfl (hb hby at_22)
    have K88 : ∀ t, Steps p.tables e below (T88.setTop (mkF m 23 #[.val (.int p0), .val (.int p1), .val (.int (3 : Int32)), .val (.ref b84), .unset, .unset] [])) t → Steps p.tables e below G0 t := fun t kt => K86 t (st88 _ kt)
    have Z88 : n0 ≤ h88.size := Nat.le_trans Z84 (Keep.of_wr W88).1
    have VL88 : Arv Z h88 b84 k84 .byte (3 : Int32) [(.int (nar .byte (own_p p1 (0 : Int32)))), (.int (0 : Int32)), (.int (0 : Int32))] (.int (0 : Int32)) := Arv.set Ar87 qq87 S87 M87 H87 GG87 (fits_nar_byte _) W88 0 rfl (Nat.le_of_ble_eq_true rfl)
    have N88 := Fr.snoc X88 N86 gn84
    have K89 : ∀ t, Steps p.tables e below (T88.setTop (mkF m 32 #[.val (.int p0), .val (.int p1), .val (.int (3 : Int32)), .val (.ref b84), .unset, .unset] [(.int (1 : Int32)), (.int p1), (.int (1 : Int32)), (.ref b84)])) t → Steps p.tables e below G0 t := by
      intro t kt
      refine K88 t ?_
      refine XS.iloadN X88.here hx rfl (hb hby at_23) rfl ?_
      show Steps p.tables e below (T88.setTop (mkF m 24 #[.val (.int p0), .val (.int p1), .val (.int (3 : Int32)), .val (.ref b84), .unset, .unset] [(.int (3 : Int32))])) _
      refine XS.iconst X88.here hx rfl (hb hby at_24) ?_
      show Steps p.tables e below (T88.setTop (mkF m 25 #[.val (.int p0), .val (.int p1), .val (.int (3 : Int32)), .val (.ref b84), .unset, .unset] [(.int (1 : Int32)), (.int (3 : Int32))])) _
      refine XS.icmpNo X88.here hx rfl (hb hby at_25) rfl (tlt (by decide)).2.2.2 ?_
      show Steps p.tables e below (T88.setTop (mkF m 28 #[.val (.int p0), .val (.int p1), .val (.int (3 : Int32)), .val (.ref b84), .unset, .unset] [])) _
      refine XS.aloadN X88.here hx rfl (hb hby at_28) rfl rfl ?_
      show Steps p.tables e below (T88.setTop (mkF m 29 #[.val (.int p0), .val (.int p1), .val (.int (3 : Int32)), .val (.ref b84), .unset, .unset] [(.ref b84)])) _
      refine XS.iconst X88.here hx rfl (hb hby at_29) ?_
      show Steps p.tables e below (T88.setTop (mkF m 30 #[.val (.int p0), .val (.int p1), .val (.int (3 : Int32)), .val (.ref b84), .unset, .unset] [(.int (1 : Int32)), (.ref b84)])) _
      refine XS.iloadN X88.here hx rfl (hb hby at_30) rfl ?_
      show Steps p.tables e below (T88.setTop (mkF m 31 #[.val (.int p0), .val (.int p1), .val (.int (3 : Int32)), .val (.ref b84), .unset, .unset] [(.int p1), (.int (1 : Int32)), (.ref b84)])) _
      refine XS.iconst X88.here hx rfl (hb hby at_31) ?_
      show Steps p.tables e below (T88.setTop (mkF m 32 #[.val (.int p0), .val (.int p1), .val (.int (3 : Int32)), .val (.ref b84), .unset, .unset] [(.int (1 : Int32)), (.int p1), (.int (1 : Int32)), (.ref b84)])) _
      exact kt
    obtain ⟨_, _, ⟨T90, L90, k90, n90⟩, -, X90, ⟨Lc90, hQ90, l90, y90, z90⟩, st90⟩ := Jvm.LawKit.callS X88 hx (y := (⟨"com/example/affordance/affordance/BodyHeldPinLaw", "part", "(II)B"⟩ : MethodName)) hown (mvT hZ (hw _ (List.mem_of_getElem? (i := 39) rfl))) (mvT hZ (hw _ (List.mem_of_getElem? (i := 40) rfl))) (mvT hZ (hw _ (List.mem_of_getElem? (i := 37) rfl))) (mvT hZ (hw _ (List.mem_of_getElem? (i := 41) rfl))) (by decide) (backOf (W := 2) (rm7 l Z aa hw [] (p1) ((1 : Int32))  h88 n0 Z88 ) hZ (hw _ (List.mem_of_getElem? (i := 41) rfl)) (hw _ (List.mem_of_getElem? (i := 37) rfl)) (by decide) (by decide)) (g := (mkF m 32 #[.val (.int p0), .val (.int p1), .val (.int (3 : Int32)), .val (.ref b84), .unset, .unset] [(.int (1 : Int32)), (.int p1), (.int (1 : Int32)), (.ref b84)])) rfl (by rw [hml]; rfl) (argsL := [(.int p1), (.int (1 : Int32))]) (rest := [(.int (1 : Int32)), (.ref b84)]) (lenOf pd_PIIQB rfl) rfl (by show 2 * 0 + _ ≤ _; exact Nat.le_of_eq rfl) (hb hby at_32) (fun _ _ => ⟨rfl, e88, (by decide : 1 + 0 ≤ _), (by decide : 3 + 0 ≤ _)⟩)
    dsimp only [Pt.U, Pt.locs, Pt.cells, Pt.slots] at X90 l90 y90 z90 st90 hQ90
    subst l90 y90 z90
    obtain ⟨rfl, N90q, e90⟩ := hQ90
    have N90 := Fr.app N88 N90q
    have K90 : ∀ t, Steps p.tables e below (T90.setTop (mkF m 35 #[.val (.int p0), .val (.int p1), .val (.int (3 : Int32)), .val (.ref b84), .unset, .unset] [(.int (own_p p1 (1 : Int32))), (.int (1 : Int32)), (.ref b84)])) t → Steps p.tables e below G0 t := fun t kt => K89 t (st90 _ kt)
    obtain ⟨cl91, Ar91, qq91, S91, M91, H91, GG91⟩ := id VL88
    have hin91 : ¬ ((1 : Int32) < 0 ∨ cl91.slots.size ≤ ((1 : Int32)).toNatClampNeg) := inb_of S91 ⟨by decide, by decide⟩
    obtain ⟨T92, h92, X92, e92, W92, st92⟩ := stB X90 hx hZ e90 Ar91 (j := (1 : Int32)) hin91 (g := (mkF m 35 #[.val (.int p0), .val (.int p1), .val (.int (3 : Int32)), .val (.ref b84), .unset, .unset] [(.int (own_p p1 (1 : Int32))), (.int (1 : Int32)), (.ref b84)])) rfl rfl (hb hby at_35)
    have K92 : ∀ t, Steps p.tables e below (T92.setTop (mkF m 36 #[.val (.int p0), .val (.int p1), .val (.int (3 : Int32)), .val (.ref b84), .unset, .unset] [])) t → Steps p.tables e below G0 t := fun t kt => K90 t (st92 _ kt)
    have Z92 : n0 ≤ h92.size := Nat.le_trans Z88 (Keep.of_wr W92).1
    have VL92 : Arv Z h92 b84 k84 .byte (3 : Int32) [(.int (nar .byte (own_p p1 (0 : Int32)))), (.int (nar .byte (own_p p1 (1 : Int32)))), (.int (0 : Int32))] (.int (0 : Int32)) := Arv.set Ar91 qq91 S91 M91 H91 GG91 (fits_nar_byte _) W92 1 rfl (Nat.le_of_ble_eq_true rfl)
    have N92 := Fr.snoc X92 N90 gn84
    have K93 : ∀ t, Steps p.tables e below (T92.setTop (mkF m 45 #[.val (.int p0), .val (.int p1), .val (.int (3 : Int32)), .val (.ref b84), .unset, .unset] [(.int (2 : Int32)), (.int p1), (.int (2 : Int32)), (.ref b84)])) t → Steps p.tables e below G0 t := by
      intro t kt
      refine K92 t ?_
      refine XS.iloadN X92.here hx rfl (hb hby at_36) rfl ?_
      show Steps p.tables e below (T92.setTop (mkF m 37 #[.val (.int p0), .val (.int p1), .val (.int (3 : Int32)), .val (.ref b84), .unset, .unset] [(.int (3 : Int32))])) _
      refine XS.iconst X92.here hx rfl (hb hby at_37) ?_
      show Steps p.tables e below (T92.setTop (mkF m 38 #[.val (.int p0), .val (.int p1), .val (.int (3 : Int32)), .val (.ref b84), .unset, .unset] [(.int (2 : Int32)), (.int (3 : Int32))])) _
      refine XS.icmpNo X92.here hx rfl (hb hby at_38) rfl (tlt (by decide)).2.2.2 ?_
      show Steps p.tables e below (T92.setTop (mkF m 41 #[.val (.int p0), .val (.int p1), .val (.int (3 : Int32)), .val (.ref b84), .unset, .unset] [])) _
      refine XS.aloadN X92.here hx rfl (hb hby at_41) rfl rfl ?_
      show Steps p.tables e below (T92.setTop (mkF m 42 #[.val (.int p0), .val (.int p1), .val (.int (3 : Int32)), .val (.ref b84), .unset, .unset] [(.ref b84)])) _
      refine XS.iconst X92.here hx rfl (hb hby at_42) ?_
      show Steps p.tables e below (T92.setTop (mkF m 43 #[.val (.int p0), .val (.int p1), .val (.int (3 : Int32)), .val (.ref b84), .unset, .unset] [(.int (2 : Int32)), (.ref b84)])) _
      refine XS.iloadN X92.here hx rfl (hb hby at_43) rfl ?_
      show Steps p.tables e below (T92.setTop (mkF m 44 #[.val (.int p0), .val (.int p1), .val (.int (3 : Int32)), .val (.ref b84), .unset, .unset] [(.int p1), (.int (2 : Int32)), (.ref b84)])) _
      refine XS.iconst X92.here hx rfl (hb hby at_44) ?_
      show Steps p.tables e below (T92.setTop (mkF m 45 #[.val (.int p0), .val (.int p1), .val (.int (3 : Int32)), .val (.ref b84), .unset, .unset] [(.int (2 : Int32)), (.int p1), (.int (2 : Int32)), (.ref b84)])) _
      exact kt
    obtain ⟨_, _, ⟨T94, L94, k94, n94⟩, -, X94, ⟨Lc94, hQ94, l94, y94, z94⟩, st94⟩ := Jvm.LawKit.callS X92 hx (y := (⟨"com/example/affordance/affordance/BodyHeldPinLaw", "part", "(II)B"⟩ : MethodName)) hown (mvT hZ (hw _ (List.mem_of_getElem? (i := 39) rfl))) (mvT hZ (hw _ (List.mem_of_getElem? (i := 40) rfl))) (mvT hZ (hw _ (List.mem_of_getElem? (i := 37) rfl))) (mvT hZ (hw _ (List.mem_of_getElem? (i := 41) rfl))) (by decide) (backOf (W := 2) (rm7 l Z aa hw [] (p1) ((2 : Int32))  h92 n0 Z92 ) hZ (hw _ (List.mem_of_getElem? (i := 41) rfl)) (hw _ (List.mem_of_getElem? (i := 37) rfl)) (by decide) (by decide)) (g := (mkF m 45 #[.val (.int p0), .val (.int p1), .val (.int (3 : Int32)), .val (.ref b84), .unset, .unset] [(.int (2 : Int32)), (.int p1), (.int (2 : Int32)), (.ref b84)])) rfl (by rw [hml]; rfl) (argsL := [(.int p1), (.int (2 : Int32))]) (rest := [(.int (2 : Int32)), (.ref b84)]) (lenOf pd_PIIQB rfl) rfl (by show 2 * 0 + _ ≤ _; exact Nat.le_of_eq rfl) (hb hby at_45) (fun _ _ => ⟨rfl, e92, (by decide : 1 + 0 ≤ _), (by decide : 3 + 0 ≤ _)⟩)
    dsimp only [Pt.U, Pt.locs, Pt.cells, Pt.slots] at X94 l94 y94 z94 st94 hQ94
    subst l94 y94 z94
    obtain ⟨rfl, N94q, e94⟩ := hQ94
    have N94 := Fr.app N92 N94q
    have K94 : ∀ t, Steps p.tables e below (T94.setTop (mkF m 48 #[.val (.int p0), .val (.int p1), .val (.int (3 : Int32)), .val (.ref b84), .unset, .unset] [(.int (own_p p1 (2 : Int32))), (.int (2 : Int32)), (.ref b84)])) t → Steps p.tables e below G0 t := fun t kt => K93 t (st94 _ kt)
    obtain ⟨cl95, Ar95, qq95, S95, M95, H95, GG95⟩ := id VL92
    have hin95 : ¬ ((2 : Int32) < 0 ∨ cl95.slots.size ≤ ((2 : Int32)).toNatClampNeg) := inb_of S95 ⟨by decide, by decide⟩
    obtain ⟨T96, h96, X96, e96, W96, st96⟩ := stB X94 hx hZ e94 Ar95 (j := (2 : Int32)) hin95 (g := (mkF m 48 #[.val (.int p0), .val (.int p1), .val (.int (3 : Int32)), .val (.ref b84), .unset, .unset] [(.int (own_p p1 (2 : Int32))), (.int (2 : Int32)), (.ref b84)])) rfl rfl (hb hby at_48)
    have K96 : ∀ t, Steps p.tables e below (T96.setTop (mkF m 49 #[.val (.int p0), .val (.int p1), .val (.int (3 : Int32)), .val (.ref b84), .unset, .unset] [])) t → Steps p.tables e below G0 t := fun t kt => K94 t (st96 _ kt)
    have Z96 : n0 ≤ h96.size := Nat.le_trans Z92 (Keep.of_wr W96).1
    have VL96 : Arv Z h96 b84 k84 .byte (3 : Int32) [(.int (nar .byte (own_p p1 (0 : Int32)))), (.int (nar .byte (own_p p1 (1 : Int32)))), (.int (nar .byte (own_p p1 (2 : Int32))))] (.int (0 : Int32)) := Arv.set Ar95 qq95 S95 M95 H95 GG95 (fits_nar_byte _) W96 2 rfl (Nat.le_of_ble_eq_true rfl)
    have N96 := Fr.snoc X96 N94 gn84
    have K97 : ∀ t, Steps p.tables e below (T96.setTop (mkF m 63 #[.val (.int p0), .val (.int p1), .val (.int (3 : Int32)), .val (.ref b84), .unset, .unset] [(.ref b84)])) t → Steps p.tables e below G0 t := by
      intro t kt
      refine K96 t ?_
      refine XS.iloadN X96.here hx rfl (hb hby at_49) rfl ?_
      show Steps p.tables e below (T96.setTop (mkF m 50 #[.val (.int p0), .val (.int p1), .val (.int (3 : Int32)), .val (.ref b84), .unset, .unset] [(.int (3 : Int32))])) _
      refine XS.iconst X96.here hx rfl (hb hby at_50) ?_
      show Steps p.tables e below (T96.setTop (mkF m 51 #[.val (.int p0), .val (.int p1), .val (.int (3 : Int32)), .val (.ref b84), .unset, .unset] [(.int (3 : Int32)), (.int (3 : Int32))])) _
      refine XS.icmpYes X96.here hx rfl (pc0 := 51) (pc' := 62) rfl (hb hby at_51) rfl (flt (by decide)).2.2.2 (by decide) (by decide) ?_
      show Steps p.tables e below (T96.setTop (mkF m 62 #[.val (.int p0), .val (.int p1), .val (.int (3 : Int32)), .val (.ref b84), .unset, .unset] [])) _
      refine XS.aloadN X96.here hx rfl (hb hby at_62) rfl rfl ?_
      show Steps p.tables e below (T96.setTop (mkF m 63 #[.val (.int p0), .val (.int p1), .val (.int (3 : Int32)), .val (.ref b84), .unset, .unset] [(.ref b84)])) _
      exact kt
    obtain ⟨_, _, ⟨T98, L98, k98, n98⟩, -, X98, ⟨Lc98, hQ98, l98, y98, z98⟩, st98⟩ := Jvm.LawKit.callS X96 hx (y := (⟨"com/example/affordance/affordance/Body", "held", "([B)Lcom/example/affordance/affordance/Body;"⟩ : MethodName)) hown (mvT hZ (hw _ (List.mem_of_getElem? (i := 2) rfl))) (mvT hZ (hw _ (List.mem_of_getElem? (i := 3) rfl))) (mvT hZ (hw _ (List.mem_of_getElem? (i := 4) rfl))) (mvT hZ (hw _ (List.mem_of_getElem? (i := 5) rfl))) (by decide) (backOf (W := 0) (rm1 l Z aa hw [] (b84) _ (3 : Int32) _ _ h96 n0 Z96 VL96) hZ (hw _ (List.mem_of_getElem? (i := 5) rfl)) (hw _ (List.mem_of_getElem? (i := 4) rfl)) (by decide) (by decide)) (g := (mkF m 63 #[.val (.int p0), .val (.int p1), .val (.int (3 : Int32)), .val (.ref b84), .unset, .unset] [(.ref b84)])) rfl (by rw [hml]; rfl) (argsL := [(.ref b84)]) (rest := []) (lenOf pd_P_BQLcom_example_affordance_affordance_Body_ rfl) rfl (by show 2 * 0 + _ ≤ _; exact Nat.le_of_eq rfl) (hb hby at_63) (fun _ _ => ⟨rfl, e96, (by decide : 1 + 1 ≤ _), (by decide : 3 + 5 ≤ _)⟩)
    dsimp only [Pt.U, Pt.locs, Pt.cells, Pt.slots] at X98 l98 y98 z98 st98 hQ98
    subst l98 y98 z98
    obtain ⟨r98, rfl, N98q, KV98, EV98, FB98, FL98⟩ := hQ98
    have N98 := Fr.app N96 N98q
    have K98 : ∀ t, Steps p.tables e below (T98.setTop (mkF m 66 #[.val (.int p0), .val (.int p1), .val (.int (3 : Int32)), .val (.ref b84), .unset, .unset] [(.ref r98)])) t → Steps p.tables e below G0 t := fun t kt => K97 t (st98 _ kt)
    have Z98 : n0 ≤ T98.heap.size := Nat.le_trans Z96 KV98.1
    have K99 : ∀ t, Steps p.tables e below (T98.setTop (mkF m 70 #[.val (.int p0), .val (.int p1), .val (.int (3 : Int32)), .val (.ref b84), .val (.ref r98), .unset] [(.ref r98)])) t → Steps p.tables e below G0 t := by
      intro t kt
      refine K98 t ?_
      refine XS.astore X98.here hx rfl (hb hby at_66) rfl rfl (l' := #[.val (.int p0), .val (.int p1), .val (.int (3 : Int32)), .val (.ref b84), .val (.ref r98), .unset]) rfl ?_
      show Steps p.tables e below (T98.setTop (mkF m 68 #[.val (.int p0), .val (.int p1), .val (.int (3 : Int32)), .val (.ref b84), .val (.ref r98), .unset] [])) _
      refine XS.aload X98.here hx rfl (hb hby at_68) rfl rfl ?_
      show Steps p.tables e below (T98.setTop (mkF m 70 #[.val (.int p0), .val (.int p1), .val (.int (3 : Int32)), .val (.ref b84), .val (.ref r98), .unset] [(.ref r98)])) _
      exact kt
    obtain ⟨cq100, kq100, q100a, q100b, q100c⟩ := isOf hZ (rfl : T98.heap = _) EV98
    obtain ⟨_, _, ⟨T101, L101, k101, n101⟩, -, X101, ⟨Lc101, hQ101, l101, y101, z101⟩, st101⟩ := X98.virtualBack hx (y := (⟨"com/example/affordance/affordance/Body", "length", "()J"⟩ : MethodName)) (z := (⟨"com/example/affordance/affordance/Body", "length", "()J"⟩ : MethodName)) hown (mvT hZ (hw _ (List.mem_of_getElem? (i := 25) rfl))) (mvT hZ (hw _ (List.mem_of_getElem? (i := 26) rfl))) (notFace_of_selects (args := #[]) (mvT hZ (hw _ (List.mem_of_getElem? (i := 28) rfl)))) (mvT hZ (hw _ (List.mem_of_getElem? (i := 28) rfl))) (mvT hZ (hw _ (List.mem_of_getElem? (i := 27) rfl))) (by decide) (backOf (W := 0) (rm4 l Z aa hw [] (r98) ((3 : Int32)).toInt64 T98.heap n0 Z98 FL98) hZ (hw _ (List.mem_of_getElem? (i := 29) rfl)) (hw _ (List.mem_of_getElem? (i := 4) rfl)) (by decide) (by decide)) q100a q100c (g := (mkF m 70 #[.val (.int p0), .val (.int p1), .val (.int (3 : Int32)), .val (.ref b84), .val (.ref r98), .unset] [(.ref r98)])) rfl (by rw [hml]; rfl) (Steps.refl _) (argsL := []) (rest := []) (lenOf pd_PQJ rfl) rfl (by show 2 * 0 + _ ≤ _; exact Nat.le_of_eq rfl) (hb hby at_70) (fun _ _ => ⟨rfl, (rfl : T98.heap = _), (by decide : 2 + 0 ≤ _), (by decide : 8 + 0 ≤ _)⟩)
    dsimp only [Pt.U, Pt.locs, Pt.cells, Pt.slots] at X101 l101 y101 z101 st101 hQ101
    subst l101 y101 z101
    obtain ⟨rfl, N101q, e101⟩ := hQ101
    have N101 := Fr.app N98 N101q
    have K101 : ∀ t, Steps p.tables e below (T101.setTop (mkF m 73 #[.val (.int p0), .val (.int p1), .val (.int (3 : Int32)), .val (.ref b84), .val (.ref r98), .unset] [(.long ((3 : Int32)).toInt64)])) t → Steps p.tables e below G0 t := fun t kt => K99 t (st101.trans kt)
    have K102 : ∀ t, Steps p.tables e below (T101.setTop (mkF m 83 #[.val (.int p0), .val (.int p1), .val (.int (3 : Int32)), .val (.ref b84), .val (.ref r98), .unset] [(.ref r98)])) t → Steps p.tables e below G0 t := by
      intro t kt
      refine K101 t ?_
      refine XS.iloadN X101.here hx rfl (hb hby at_73) rfl ?_
      show Steps p.tables e below (T101.setTop (mkF m 74 #[.val (.int p0), .val (.int p1), .val (.int (3 : Int32)), .val (.ref b84), .val (.ref r98), .unset] [(.int (3 : Int32)), (.long ((3 : Int32)).toInt64)])) _
      refine XS.i2l X101.here hx rfl (hb hby at_74) rfl ?_
      show Steps p.tables e below (T101.setTop (mkF m 75 #[.val (.int p0), .val (.int p1), .val (.int (3 : Int32)), .val (.ref b84), .val (.ref r98), .unset] [(.long ((3 : Int32).toInt64)), (.long ((3 : Int32)).toInt64)])) _
      refine XS.lcmp X101.here hx rfl (hb hby at_75) rfl ?_
      show Steps p.tables e below (T101.setTop (mkF m 76 #[.val (.int p0), .val (.int p1), .val (.int (3 : Int32)), .val (.ref b84), .val (.ref r98), .unset] [(.int (lcmpW ((3 : Int32)).toInt64 ((3 : Int32).toInt64)))])) _
      refine XS.ifYes X101.here hx rfl (pc0 := 76) (pc' := 81) rfl (hb hby at_76) rfl ((if0 _ _).trans (teq ((lw_eq _ _).mpr rfl)).1) (by decide) (by decide) ?_
      show Steps p.tables e below (T101.setTop (mkF m 81 #[.val (.int p0), .val (.int p1), .val (.int (3 : Int32)), .val (.ref b84), .val (.ref r98), .unset] [])) _
      refine XS.aload X101.here hx rfl (hb hby at_81) rfl rfl ?_
      show Steps p.tables e below (T101.setTop (mkF m 83 #[.val (.int p0), .val (.int p1), .val (.int (3 : Int32)), .val (.ref b84), .val (.ref r98), .unset] [(.ref r98)])) _
      exact kt
    obtain ⟨cq103, kq103, q103a, q103b, q103c⟩ := isOf hZ e101 EV98
    obtain ⟨_, _, ⟨T104, L104, k104, n104⟩, -, X104, ⟨Lc104, hQ104, l104, y104, z104⟩, st104⟩ := X101.virtualBack hx (y := (⟨"com/example/affordance/affordance/Body", "bytes", "()[B"⟩ : MethodName)) (z := (⟨"com/example/affordance/affordance/Body", "bytes", "()[B"⟩ : MethodName)) hown (mvT hZ (hw _ (List.mem_of_getElem? (i := 30) rfl))) (mvT hZ (hw _ (List.mem_of_getElem? (i := 31) rfl))) (notFace_of_selects (args := #[]) (mvT hZ (hw _ (List.mem_of_getElem? (i := 33) rfl)))) (mvT hZ (hw _ (List.mem_of_getElem? (i := 33) rfl))) (mvT hZ (hw _ (List.mem_of_getElem? (i := 32) rfl))) (by decide) (backOf (W := 0) (rm5 l Z aa hw [] (r98) b84 T98.heap n0 Z98 FB98) hZ (hw _ (List.mem_of_getElem? (i := 34) rfl)) (hw _ (List.mem_of_getElem? (i := 4) rfl)) (by decide) (by decide)) q103a q103c (g := (mkF m 83 #[.val (.int p0), .val (.int p1), .val (.int (3 : Int32)), .val (.ref b84), .val (.ref r98), .unset] [(.ref r98)])) rfl (by rw [hml]; rfl) (Steps.refl _) (argsL := []) (rest := []) (lenOf pd_PQ_B rfl) rfl (by show 2 * 0 + _ ≤ _; exact Nat.le_of_eq rfl) (hb hby at_83) (fun _ _ => ⟨rfl, e101, (by decide : 2 + 0 ≤ _), (by decide : 8 + 0 ≤ _)⟩)
    dsimp only [Pt.U, Pt.locs, Pt.cells, Pt.slots] at X104 l104 y104 z104 st104 hQ104
    subst l104 y104 z104
    obtain ⟨rfl, N104q, e104⟩ := hQ104
    have N104 := Fr.app N101 N104q
    have K104 : ∀ t, Steps p.tables e below (T104.setTop (mkF m 86 #[.val (.int p0), .val (.int p1), .val (.int (3 : Int32)), .val (.ref b84), .val (.ref r98), .unset] [(.ref b84)])) t → Steps p.tables e below G0 t := fun t kt => K102 t (st104.trans kt)
    have K105 : ∀ t, Steps p.tables e below (T104.setTop (mkF m 95 #[.val (.int p0), .val (.int p1), .val (.int (3 : Int32)), .val (.ref b84), .val (.ref r98), .val (.ref b84)] [(.ref b84)])) t → Steps p.tables e below G0 t := by
      intro t kt
      refine K104 t ?_
      refine XS.astore X104.here hx rfl (hb hby at_86) rfl rfl (l' := #[.val (.int p0), .val (.int p1), .val (.int (3 : Int32)), .val (.ref b84), .val (.ref r98), .val (.ref b84)]) rfl ?_
      show Steps p.tables e below (T104.setTop (mkF m 88 #[.val (.int p0), .val (.int p1), .val (.int (3 : Int32)), .val (.ref b84), .val (.ref r98), .val (.ref b84)] [])) _
      refine XS.aload X104.here hx rfl (hb hby at_88) rfl rfl ?_
      show Steps p.tables e below (T104.setTop (mkF m 90 #[.val (.int p0), .val (.int p1), .val (.int (3 : Int32)), .val (.ref b84), .val (.ref r98), .val (.ref b84)] [(.ref b84)])) _
      refine XS.ifnullNo X104.here hx rfl (hb hby at_90) rfl ?_
      show Steps p.tables e below (T104.setTop (mkF m 93 #[.val (.int p0), .val (.int p1), .val (.int (3 : Int32)), .val (.ref b84), .val (.ref r98), .val (.ref b84)] [])) _
      refine XS.aload X104.here hx rfl (hb hby at_93) rfl rfl ?_
      show Steps p.tables e below (T104.setTop (mkF m 95 #[.val (.int p0), .val (.int p1), .val (.int (3 : Int32)), .val (.ref b84), .val (.ref r98), .val (.ref b84)] [(.ref b84)])) _
      exact kt
    have f106 := (VL96.keep KV98 (fun q => nomatch q))
    obtain ⟨cl107, Ar107, qq107, S107, M107, H107, GG107⟩ := id f106
    have K108 : ∀ t, Steps p.tables e below (T104.setTop (mkF m 107 #[.val (.int p0), .val (.int p1), .val (.int (3 : Int32)), .val (.ref b84), .val (.ref r98), .val (.ref b84)] [(.int (0 : Int32)), (.int p1), (.int (3 : Int32)), (.ref b84)])) t → Steps p.tables e below G0 t := by
      intro t kt
      refine K105 t ?_
      refine X104.arraylength hx (by rw [e104]; exact (Ar107).1) (State.isArrayOf_alike hZ.alike (Ar107).2.1) (g := (mkF m 95 #[.val (.int p0), .val (.int p1), .val (.int (3 : Int32)), .val (.ref b84), .val (.ref r98), .val (.ref b84)] [(.ref b84)])) rfl rfl (hb hby at_95) _ ?_
      rw [len_of S107 M107]
      show Steps p.tables e below (T104.setTop (mkF m 96 #[.val (.int p0), .val (.int p1), .val (.int (3 : Int32)), .val (.ref b84), .val (.ref r98), .val (.ref b84)] [(.int (3 : Int32))])) _
      refine XS.iloadN X104.here hx rfl (hb hby at_96) rfl ?_
      show Steps p.tables e below (T104.setTop (mkF m 97 #[.val (.int p0), .val (.int p1), .val (.int (3 : Int32)), .val (.ref b84), .val (.ref r98), .val (.ref b84)] [(.int (3 : Int32)), (.int (3 : Int32))])) _
      refine XS.icmpYes X104.here hx rfl (pc0 := 97) (pc' := 102) rfl (hb hby at_97) rfl (teq rfl).1 (by decide) (by decide) ?_
      show Steps p.tables e below (T104.setTop (mkF m 102 #[.val (.int p0), .val (.int p1), .val (.int (3 : Int32)), .val (.ref b84), .val (.ref r98), .val (.ref b84)] [])) _
      refine XS.aload X104.here hx rfl (hb hby at_102) rfl rfl ?_
      show Steps p.tables e below (T104.setTop (mkF m 104 #[.val (.int p0), .val (.int p1), .val (.int (3 : Int32)), .val (.ref b84), .val (.ref r98), .val (.ref b84)] [(.ref b84)])) _
      refine XS.iloadN X104.here hx rfl (hb hby at_104) rfl ?_
      show Steps p.tables e below (T104.setTop (mkF m 105 #[.val (.int p0), .val (.int p1), .val (.int (3 : Int32)), .val (.ref b84), .val (.ref r98), .val (.ref b84)] [(.int (3 : Int32)), (.ref b84)])) _
      refine XS.iloadN X104.here hx rfl (hb hby at_105) rfl ?_
      show Steps p.tables e below (T104.setTop (mkF m 106 #[.val (.int p0), .val (.int p1), .val (.int (3 : Int32)), .val (.ref b84), .val (.ref r98), .val (.ref b84)] [(.int p1), (.int (3 : Int32)), (.ref b84)])) _
      refine XS.iconst X104.here hx rfl (hb hby at_106) ?_
      show Steps p.tables e below (T104.setTop (mkF m 107 #[.val (.int p0), .val (.int p1), .val (.int (3 : Int32)), .val (.ref b84), .val (.ref r98), .val (.ref b84)] [(.int (0 : Int32)), (.int p1), (.int (3 : Int32)), (.ref b84)])) _
      exact kt
    obtain ⟨cl109, Ar109, qq109, S109, M109, H109, GG109⟩ := id f106
    have hin109 : ¬ ((0 : Int32) < 0 ∨ cl109.slots.size ≤ ((0 : Int32)).toNatClampNeg) := inb_of S109 ⟨by decide, by decide⟩
    obtain ⟨_, _, ⟨T110, L110, k110, n110⟩, -, X110, ⟨Lc110, hQ110, l110, y110, z110⟩, st110⟩ := Jvm.LawKit.callS X104 hx (y := (⟨"com/example/affordance/affordance/BodyHeldPinLaw", "same", "([BIII)Z"⟩ : MethodName)) hown (mvT hZ (hw _ (List.mem_of_getElem? (i := 35) rfl))) (mvT hZ (hw _ (List.mem_of_getElem? (i := 36) rfl))) (mvT hZ (hw _ (List.mem_of_getElem? (i := 37) rfl))) (mvT hZ (hw _ (List.mem_of_getElem? (i := 38) rfl))) (by decide) (backOf (W := 0) (rm6 l Z aa hw [] (b84) ((3 : Int32)) (p1) ((0 : Int32))  T98.heap n0 Z98 (Or.inr ⟨cl109, Ar109, hin109, Has.at H109 hin109 rfl⟩)) hZ (hw _ (List.mem_of_getElem? (i := 38) rfl)) (hw _ (List.mem_of_getElem? (i := 37) rfl)) (by decide) (by decide)) (g := (mkF m 107 #[.val (.int p0), .val (.int p1), .val (.int (3 : Int32)), .val (.ref b84), .val (.ref r98), .val (.ref b84)] [(.int (0 : Int32)), (.int p1), (.int (3 : Int32)), (.ref b84)])) rfl (by rw [hml]; rfl) (argsL := [(.ref b84), (.int (3 : Int32)), (.int p1), (.int (0 : Int32))]) (rest := []) (lenOf pd_P_BIIIQZ rfl) rfl (by show 2 * 0 + _ ≤ _; exact Nat.le_of_eq rfl) (hb hby at_107) (fun _ _ => ⟨rfl, e104, (by decide : 2 + 0 ≤ _), (by decide : 8 + 0 ≤ _)⟩)
    dsimp only [Pt.U, Pt.locs, Pt.cells, Pt.slots] at X110 l110 y110 z110 st110 hQ110
    subst l110 y110 z110
    obtain ⟨rfl, N110q, e110⟩ := hQ110
    have N110 := Fr.app N104 N110q
    have K110 : ∀ t, Steps p.tables e below (T110.setTop (mkF m 110 #[.val (.int p0), .val (.int p1), .val (.int (3 : Int32)), .val (.ref b84), .val (.ref r98), .val (.ref b84)] [(.int (1 : Int32))])) t → Steps p.tables e below G0 t := fun t kt => K108 t (st110 _ kt)
    have K111 : ∀ t, Steps p.tables e below (T110.setTop (mkF m 118 #[.val (.int p0), .val (.int p1), .val (.int (3 : Int32)), .val (.ref b84), .val (.ref r98), .val (.ref b84)] [(.int (1 : Int32)), (.int p1), (.int (3 : Int32)), (.ref b84)])) t → Steps p.tables e below G0 t := by
      intro t kt
      refine K110 t ?_
      refine XS.ifNo X110.here hx rfl (hb hby at_110) rfl ((if0 _ _).trans (feq (by decide)).1) ?_
      show Steps p.tables e below (T110.setTop (mkF m 113 #[.val (.int p0), .val (.int p1), .val (.int (3 : Int32)), .val (.ref b84), .val (.ref r98), .val (.ref b84)] [])) _
      refine XS.aload X110.here hx rfl (hb hby at_113) rfl rfl ?_
      show Steps p.tables e below (T110.setTop (mkF m 115 #[.val (.int p0), .val (.int p1), .val (.int (3 : Int32)), .val (.ref b84), .val (.ref r98), .val (.ref b84)] [(.ref b84)])) _
      refine XS.iloadN X110.here hx rfl (hb hby at_115) rfl ?_
      show Steps p.tables e below (T110.setTop (mkF m 116 #[.val (.int p0), .val (.int p1), .val (.int (3 : Int32)), .val (.ref b84), .val (.ref r98), .val (.ref b84)] [(.int (3 : Int32)), (.ref b84)])) _
      refine XS.iloadN X110.here hx rfl (hb hby at_116) rfl ?_
      show Steps p.tables e below (T110.setTop (mkF m 117 #[.val (.int p0), .val (.int p1), .val (.int (3 : Int32)), .val (.ref b84), .val (.ref r98), .val (.ref b84)] [(.int p1), (.int (3 : Int32)), (.ref b84)])) _
      refine XS.iconst X110.here hx rfl (hb hby at_117) ?_
      show Steps p.tables e below (T110.setTop (mkF m 118 #[.val (.int p0), .val (.int p1), .val (.int (3 : Int32)), .val (.ref b84), .val (.ref r98), .val (.ref b84)] [(.int (1 : Int32)), (.int p1), (.int (3 : Int32)), (.ref b84)])) _
      exact kt
    obtain ⟨cl112, Ar112, qq112, S112, M112, H112, GG112⟩ := id f106
    have hin112 : ¬ ((1 : Int32) < 0 ∨ cl112.slots.size ≤ ((1 : Int32)).toNatClampNeg) := inb_of S112 ⟨by decide, by decide⟩
    obtain ⟨_, _, ⟨T113, L113, k113, n113⟩, -, X113, ⟨Lc113, hQ113, l113, y113, z113⟩, st113⟩ := Jvm.LawKit.callS X110 hx (y := (⟨"com/example/affordance/affordance/BodyHeldPinLaw", "same", "([BIII)Z"⟩ : MethodName)) hown (mvT hZ (hw _ (List.mem_of_getElem? (i := 35) rfl))) (mvT hZ (hw _ (List.mem_of_getElem? (i := 36) rfl))) (mvT hZ (hw _ (List.mem_of_getElem? (i := 37) rfl))) (mvT hZ (hw _ (List.mem_of_getElem? (i := 38) rfl))) (by decide) (backOf (W := 0) (rm6 l Z aa hw [] (b84) ((3 : Int32)) (p1) ((1 : Int32))  T98.heap n0 Z98 (Or.inr ⟨cl112, Ar112, hin112, Has.at H112 hin112 rfl⟩)) hZ (hw _ (List.mem_of_getElem? (i := 38) rfl)) (hw _ (List.mem_of_getElem? (i := 37) rfl)) (by decide) (by decide)) (g := (mkF m 118 #[.val (.int p0), .val (.int p1), .val (.int (3 : Int32)), .val (.ref b84), .val (.ref r98), .val (.ref b84)] [(.int (1 : Int32)), (.int p1), (.int (3 : Int32)), (.ref b84)])) rfl (by rw [hml]; rfl) (argsL := [(.ref b84), (.int (3 : Int32)), (.int p1), (.int (1 : Int32))]) (rest := []) (lenOf pd_P_BIIIQZ rfl) rfl (by show 2 * 0 + _ ≤ _; exact Nat.le_of_eq rfl) (hb hby at_118) (fun _ _ => ⟨rfl, e110, (by decide : 2 + 0 ≤ _), (by decide : 8 + 0 ≤ _)⟩)
    dsimp only [Pt.U, Pt.locs, Pt.cells, Pt.slots] at X113 l113 y113 z113 st113 hQ113
    subst l113 y113 z113
    obtain ⟨rfl, N113q, e113⟩ := hQ113
    have N113 := Fr.app N110 N113q
    have K113 : ∀ t, Steps p.tables e below (T113.setTop (mkF m 121 #[.val (.int p0), .val (.int p1), .val (.int (3 : Int32)), .val (.ref b84), .val (.ref r98), .val (.ref b84)] [(.int (1 : Int32))])) t → Steps p.tables e below G0 t := fun t kt => K111 t (st113 _ kt)
    have K114 : ∀ t, Steps p.tables e below (T113.setTop (mkF m 129 #[.val (.int p0), .val (.int p1), .val (.int (3 : Int32)), .val (.ref b84), .val (.ref r98), .val (.ref b84)] [(.int (2 : Int32)), (.int p1), (.int (3 : Int32)), (.ref b84)])) t → Steps p.tables e below G0 t := by
      intro t kt
      refine K113 t ?_
      refine XS.ifNo X113.here hx rfl (hb hby at_121) rfl ((if0 _ _).trans (feq (by decide)).1) ?_
      show Steps p.tables e below (T113.setTop (mkF m 124 #[.val (.int p0), .val (.int p1), .val (.int (3 : Int32)), .val (.ref b84), .val (.ref r98), .val (.ref b84)] [])) _
      refine XS.aload X113.here hx rfl (hb hby at_124) rfl rfl ?_
      show Steps p.tables e below (T113.setTop (mkF m 126 #[.val (.int p0), .val (.int p1), .val (.int (3 : Int32)), .val (.ref b84), .val (.ref r98), .val (.ref b84)] [(.ref b84)])) _
      refine XS.iloadN X113.here hx rfl (hb hby at_126) rfl ?_
      show Steps p.tables e below (T113.setTop (mkF m 127 #[.val (.int p0), .val (.int p1), .val (.int (3 : Int32)), .val (.ref b84), .val (.ref r98), .val (.ref b84)] [(.int (3 : Int32)), (.ref b84)])) _
      refine XS.iloadN X113.here hx rfl (hb hby at_127) rfl ?_
      show Steps p.tables e below (T113.setTop (mkF m 128 #[.val (.int p0), .val (.int p1), .val (.int (3 : Int32)), .val (.ref b84), .val (.ref r98), .val (.ref b84)] [(.int p1), (.int (3 : Int32)), (.ref b84)])) _
      refine XS.iconst X113.here hx rfl (hb hby at_128) ?_
      show Steps p.tables e below (T113.setTop (mkF m 129 #[.val (.int p0), .val (.int p1), .val (.int (3 : Int32)), .val (.ref b84), .val (.ref r98), .val (.ref b84)] [(.int (2 : Int32)), (.int p1), (.int (3 : Int32)), (.ref b84)])) _
      exact kt
    obtain ⟨cl115, Ar115, qq115, S115, M115, H115, GG115⟩ := id f106
    have hin115 : ¬ ((2 : Int32) < 0 ∨ cl115.slots.size ≤ ((2 : Int32)).toNatClampNeg) := inb_of S115 ⟨by decide, by decide⟩
    obtain ⟨_, _, ⟨T116, L116, k116, n116⟩, -, X116, ⟨Lc116, hQ116, l116, y116, z116⟩, st116⟩ := Jvm.LawKit.callS X113 hx (y := (⟨"com/example/affordance/affordance/BodyHeldPinLaw", "same", "([BIII)Z"⟩ : MethodName)) hown (mvT hZ (hw _ (List.mem_of_getElem? (i := 35) rfl))) (mvT hZ (hw _ (List.mem_of_getElem? (i := 36) rfl))) (mvT hZ (hw _ (List.mem_of_getElem? (i := 37) rfl))) (mvT hZ (hw _ (List.mem_of_getElem? (i := 38) rfl))) (by decide) (backOf (W := 0) (rm6 l Z aa hw [] (b84) ((3 : Int32)) (p1) ((2 : Int32))  T98.heap n0 Z98 (Or.inr ⟨cl115, Ar115, hin115, Has.at H115 hin115 rfl⟩)) hZ (hw _ (List.mem_of_getElem? (i := 38) rfl)) (hw _ (List.mem_of_getElem? (i := 37) rfl)) (by decide) (by decide)) (g := (mkF m 129 #[.val (.int p0), .val (.int p1), .val (.int (3 : Int32)), .val (.ref b84), .val (.ref r98), .val (.ref b84)] [(.int (2 : Int32)), (.int p1), (.int (3 : Int32)), (.ref b84)])) rfl (by rw [hml]; rfl) (argsL := [(.ref b84), (.int (3 : Int32)), (.int p1), (.int (2 : Int32))]) (rest := []) (lenOf pd_P_BIIIQZ rfl) rfl (by show 2 * 0 + _ ≤ _; exact Nat.le_of_eq rfl) (hb hby at_129) (fun _ _ => ⟨rfl, e113, (by decide : 2 + 0 ≤ _), (by decide : 8 + 0 ≤ _)⟩)
    dsimp only [Pt.U, Pt.locs, Pt.cells, Pt.slots] at X116 l116 y116 z116 st116 hQ116
    subst l116 y116 z116
    obtain ⟨rfl, N116q, e116⟩ := hQ116
    have N116 := Fr.app N113 N116q
    have K116 : ∀ t, Steps p.tables e below (T116.setTop (mkF m 132 #[.val (.int p0), .val (.int p1), .val (.int (3 : Int32)), .val (.ref b84), .val (.ref r98), .val (.ref b84)] [(.int (1 : Int32))])) t → Steps p.tables e below G0 t := fun t kt => K114 t (st116 _ kt)
    have K117 : ∀ t, Steps p.tables e below (T116.setTop (mkF m 140 #[.val (.int p0), .val (.int p1), .val (.int (3 : Int32)), .val (.ref b84), .val (.ref r98), .val (.ref b84)] [(.int (3 : Int32)), (.int p1), (.int (3 : Int32)), (.ref b84)])) t → Steps p.tables e below G0 t := by
      intro t kt
      refine K116 t ?_
      refine XS.ifNo X116.here hx rfl (hb hby at_132) rfl ((if0 _ _).trans (feq (by decide)).1) ?_
      show Steps p.tables e below (T116.setTop (mkF m 135 #[.val (.int p0), .val (.int p1), .val (.int (3 : Int32)), .val (.ref b84), .val (.ref r98), .val (.ref b84)] [])) _
      refine XS.aload X116.here hx rfl (hb hby at_135) rfl rfl ?_
      show Steps p.tables e below (T116.setTop (mkF m 137 #[.val (.int p0), .val (.int p1), .val (.int (3 : Int32)), .val (.ref b84), .val (.ref r98), .val (.ref b84)] [(.ref b84)])) _
      refine XS.iloadN X116.here hx rfl (hb hby at_137) rfl ?_
      show Steps p.tables e below (T116.setTop (mkF m 138 #[.val (.int p0), .val (.int p1), .val (.int (3 : Int32)), .val (.ref b84), .val (.ref r98), .val (.ref b84)] [(.int (3 : Int32)), (.ref b84)])) _
      refine XS.iloadN X116.here hx rfl (hb hby at_138) rfl ?_
      show Steps p.tables e below (T116.setTop (mkF m 139 #[.val (.int p0), .val (.int p1), .val (.int (3 : Int32)), .val (.ref b84), .val (.ref r98), .val (.ref b84)] [(.int p1), (.int (3 : Int32)), (.ref b84)])) _
      refine XS.iconst X116.here hx rfl (hb hby at_139) ?_
      show Steps p.tables e below (T116.setTop (mkF m 140 #[.val (.int p0), .val (.int p1), .val (.int (3 : Int32)), .val (.ref b84), .val (.ref r98), .val (.ref b84)] [(.int (3 : Int32)), (.int p1), (.int (3 : Int32)), (.ref b84)])) _
      exact kt
    obtain ⟨_, _, ⟨T118, L118, k118, n118⟩, -, X118, ⟨Lc118, hQ118, l118, y118, z118⟩, st118⟩ := Jvm.LawKit.callS X116 hx (y := (⟨"com/example/affordance/affordance/BodyHeldPinLaw", "same", "([BIII)Z"⟩ : MethodName)) hown (mvT hZ (hw _ (List.mem_of_getElem? (i := 35) rfl))) (mvT hZ (hw _ (List.mem_of_getElem? (i := 36) rfl))) (mvT hZ (hw _ (List.mem_of_getElem? (i := 37) rfl))) (mvT hZ (hw _ (List.mem_of_getElem? (i := 38) rfl))) (by decide) (backOf (W := 0) (rm6 l Z aa hw [] (b84) ((3 : Int32)) (p1) ((3 : Int32))  T98.heap n0 Z98 (Or.inl (by decide))) hZ (hw _ (List.mem_of_getElem? (i := 38) rfl)) (hw _ (List.mem_of_getElem? (i := 37) rfl)) (by decide) (by decide)) (g := (mkF m 140 #[.val (.int p0), .val (.int p1), .val (.int (3 : Int32)), .val (.ref b84), .val (.ref r98), .val (.ref b84)] [(.int (3 : Int32)), (.int p1), (.int (3 : Int32)), (.ref b84)])) rfl (by rw [hml]; rfl) (argsL := [(.ref b84), (.int (3 : Int32)), (.int p1), (.int (3 : Int32))]) (rest := []) (lenOf pd_P_BIIIQZ rfl) rfl (by show 2 * 0 + _ ≤ _; exact Nat.le_of_eq rfl) (hb hby at_140) (fun _ _ => ⟨rfl, e116, (by decide : 2 + 0 ≤ _), (by decide : 8 + 0 ≤ _)⟩)
    dsimp only [Pt.U, Pt.locs, Pt.cells, Pt.slots] at X118 l118 y118 z118 st118 hQ118
    subst l118 y118 z118
    obtain ⟨rfl, N118q, e118⟩ := hQ118
    have N118 := Fr.app N116 N118q
    have K118 : ∀ t, Steps p.tables e below (T118.setTop (mkF m 143 #[.val (.int p0), .val (.int p1), .val (.int (3 : Int32)), .val (.ref b84), .val (.ref r98), .val (.ref b84)] [(.int (1 : Int32))])) t → Steps p.tables e below G0 t := fun t kt => K117 t (st118 _ kt)
    have K119 : ∀ t, Steps p.tables e below (T118.setTop (mkF m 151 #[.val (.int p0), .val (.int p1), .val (.int (3 : Int32)), .val (.ref b84), .val (.ref r98), .val (.ref b84)] [(.int (1 : Int32))])) t → Steps p.tables e below G0 t := by
      intro t kt
      refine K118 t ?_
      refine XS.ifNo X118.here hx rfl (hb hby at_143) rfl ((if0 _ _).trans (feq (by decide)).1) ?_
      show Steps p.tables e below (T118.setTop (mkF m 146 #[.val (.int p0), .val (.int p1), .val (.int (3 : Int32)), .val (.ref b84), .val (.ref r98), .val (.ref b84)] [])) _
      refine XS.iconst X118.here hx rfl (hb hby at_146) ?_
      show Steps p.tables e below (T118.setTop (mkF m 147 #[.val (.int p0), .val (.int p1), .val (.int (3 : Int32)), .val (.ref b84), .val (.ref r98), .val (.ref b84)] [(.int (1 : Int32))])) _
      refine XS.goto X118.here hx rfl (pc0 := 147) (pc' := 151) rfl (hb hby at_147) (by decide) (by decide) ?_
      show Steps p.tables e below (T118.setTop (mkF m 151 #[.val (.int p0), .val (.int p1), .val (.int (3 : Int32)), .val (.ref b84), .val (.ref r98), .val (.ref b84)] [(.int (1 : Int32))])) _
      exact kt
    obtain ⟨fs, hr, hrun, hended, hW, hsame⟩ := X118.leave (v := some (.int (1 : Int32))) (fun h => by rw [Bd.returns] at h; cases h)
    refine ⟨_, _, ?_, hrun, hended, _, _, rfl, ?_, ⟨_, rfl⟩, hW, hsame.mono (by decide) (by decide)⟩
    · rw [← hG0]
      refine K119 _ ?_
      exact retN X118 hx (t := .boolean) Bd.returns (by simp) (hb hby at_151) hr
    · show Q0 Z p0 p1 h0 n0 _ T118.heap _
      rw [e118]
      exact ⟨rfl, N118⟩
  ·
    rw [hn] at K1
    have K120 : ∀ t, Steps p.tables e below (s₁.setTop (mkF m 8 #[.val (.int p0), .val (.int p1), .val (.int (4 : Int32)), .unset, .unset, .unset] [(.int (4 : Int32))])) t → Steps p.tables e below G0 t := by
      intro t kt
      refine K1 t ?_
      refine XS.iloadN X0.here hx rfl (hb hby at_7) rfl ?_
      show Steps p.tables e below (s₁.setTop (mkF m 8 #[.val (.int p0), .val (.int p1), .val (.int (4 : Int32)), .unset, .unset, .unset] [(.int (4 : Int32))])) _
      exact kt
    obtain ⟨T121, h121, k121, X121, e121, E121, A121, st121⟩ := newP X0 hx hZ (hw _ (List.mem_of_getElem? (i := 1) rfl)) e0 (g := (mkF m 8 #[.val (.int p0), .val (.int p1), .val (.int (4 : Int32)), .unset, .unset, .unset] [(.int (4 : Int32))])) rfl (hb hby at_8) rfl (by decide) (cap := 4) (by decide) (by decide) (by decide) (by decide)
    obtain ⟨b121, g121⟩ : ∃ z, z = h0.size := ⟨_, rfl⟩
    rw [← g121] at A121 st121
    have V121 := Arv.new A121 (by decide)
    have gn121 : n0 ≤ b121 := Nat.le_trans Z0 (Nat.le_of_eq g121.symm)
    have Z121 : n0 ≤ h121.size := Nat.le_trans Z0 E121.1
    have K121 : ∀ t, Steps p.tables e below (T121.setTop (mkF m 10 #[.val (.int p0), .val (.int p1), .val (.int (4 : Int32)), .unset, .unset, .unset] [(.ref b121)])) t → Steps p.tables e below G0 t := fun t kt => K120 t (st121 _ kt)
    have VL121 : Arv Z h121 b121 k121 .byte (4 : Int32) [(.int (0 : Int32)), (.int (0 : Int32)), (.int (0 : Int32)), (.int (0 : Int32))] (.int (0 : Int32)) := V121.pad (pad_rep [] (.int (0 : Int32)) 4)
    have K122 : ∀ t, Steps p.tables e below (T121.setTop (mkF m 19 #[.val (.int p0), .val (.int p1), .val (.int (4 : Int32)), .val (.ref b121), .unset, .unset] [(.int (0 : Int32)), (.int p1), (.int (0 : Int32)), (.ref b121)])) t → Steps p.tables e below G0 t := by
      intro t kt
      refine K121 t ?_
      refine XS.astoreN X121.here hx rfl (hb hby at_10) rfl rfl (l' := #[.val (.int p0), .val (.int p1), .val (.int (4 : Int32)), .val (.ref b121), .unset, .unset]) rfl ?_
      show Steps p.tables e below (T121.setTop (mkF m 11 #[.val (.int p0), .val (.int p1), .val (.int (4 : Int32)), .val (.ref b121), .unset, .unset] [])) _
      refine XS.iloadN X121.here hx rfl (hb hby at_11) rfl ?_
      show Steps p.tables e below (T121.setTop (mkF m 12 #[.val (.int p0), .val (.int p1), .val (.int (4 : Int32)), .val (.ref b121), .unset, .unset] [(.int (4 : Int32))])) _
      refine XS.ifNo X121.here hx rfl (hb hby at_12) rfl ((if0 _ _).trans (tlt (by decide)).2.2.2) ?_
      show Steps p.tables e below (T121.setTop (mkF m 15 #[.val (.int p0), .val (.int p1), .val (.int (4 : Int32)), .val (.ref b121), .unset, .unset] [])) _
      refine XS.aloadN X121.here hx rfl (hb hby at_15) rfl rfl ?_
      show Steps p.tables e below (T121.setTop (mkF m 16 #[.val (.int p0), .val (.int p1), .val (.int (4 : Int32)), .val (.ref b121), .unset, .unset] [(.ref b121)])) _
      refine XS.iconst X121.here hx rfl (hb hby at_16) ?_
      show Steps p.tables e below (T121.setTop (mkF m 17 #[.val (.int p0), .val (.int p1), .val (.int (4 : Int32)), .val (.ref b121), .unset, .unset] [(.int (0 : Int32)), (.ref b121)])) _
      refine XS.iloadN X121.here hx rfl (hb hby at_17) rfl ?_
      show Steps p.tables e below (T121.setTop (mkF m 18 #[.val (.int p0), .val (.int p1), .val (.int (4 : Int32)), .val (.ref b121), .unset, .unset] [(.int p1), (.int (0 : Int32)), (.ref b121)])) _
      refine XS.iconst X121.here hx rfl (hb hby at_18) ?_
      show Steps p.tables e below (T121.setTop (mkF m 19 #[.val (.int p0), .val (.int p1), .val (.int (4 : Int32)), .val (.ref b121), .unset, .unset] [(.int (0 : Int32)), (.int p1), (.int (0 : Int32)), (.ref b121)])) _
      exact kt
    obtain ⟨_, _, ⟨T123, L123, k123, n123⟩, -, X123, ⟨Lc123, hQ123, l123, y123, z123⟩, st123⟩ := Jvm.LawKit.callS X121 hx (y := (⟨"com/example/affordance/affordance/BodyHeldPinLaw", "part", "(II)B"⟩ : MethodName)) hown (mvT hZ (hw _ (List.mem_of_getElem? (i := 39) rfl))) (mvT hZ (hw _ (List.mem_of_getElem? (i := 40) rfl))) (mvT hZ (hw _ (List.mem_of_getElem? (i := 37) rfl))) (mvT hZ (hw _ (List.mem_of_getElem? (i := 41) rfl))) (by decide) (backOf (W := 2) (rm7 l Z aa hw [] (p1) ((0 : Int32))  h121 n0 Z121 ) hZ (hw _ (List.mem_of_getElem? (i := 41) rfl)) (hw _ (List.mem_of_getElem? (i := 37) rfl)) (by decide) (by decide)) (g := (mkF m 19 #[.val (.int p0), .val (.int p1), .val (.int (4 : Int32)), .val (.ref b121), .unset, .unset] [(.int (0 : Int32)), (.int p1), (.int (0 : Int32)), (.ref b121)])) rfl (by rw [hml]; rfl) (argsL := [(.int p1), (.int (0 : Int32))]) (rest := [(.int (0 : Int32)), (.ref b121)]) (lenOf pd_PIIQB rfl) rfl (by show 2 * 0 + _ ≤ _; exact Nat.le_of_eq rfl) (hb hby at_19) (fun _ _ => ⟨rfl, e121, (by decide : 1 + 0 ≤ _), (by decide : 4 + 0 ≤ _)⟩)
    dsimp only [Pt.U, Pt.locs, Pt.cells, Pt.slots] at X123 l123 y123 z123 st123 hQ123
    subst l123 y123 z123
    obtain ⟨rfl, N123q, e123⟩ := hQ123
    have N123 := Fr.app N0 N123q
    have K123 : ∀ t, Steps p.tables e below (T123.setTop (mkF m 22 #[.val (.int p0), .val (.int p1), .val (.int (4 : Int32)), .val (.ref b121), .unset, .unset] [(.int (own_p p1 (0 : Int32))), (.int (0 : Int32)), (.ref b121)])) t → Steps p.tables e below G0 t := fun t kt => K122 t (st123 _ kt)
    obtain ⟨cl124, Ar124, qq124, S124, M124, H124, GG124⟩ := id VL121
    have hin124 : ¬ ((0 : Int32) < 0 ∨ cl124.slots.size ≤ ((0 : Int32)).toNatClampNeg) := inb_of S124 ⟨by decide, by decide⟩
    obtain ⟨T125, h125, X125, e125, W125, st125⟩ := stB X123 hx hZ e123 Ar124 (j := (0 : Int32)) hin124 (g := (mkF m 22 #[.val (.int p0), .val (.int p1), .val (.int (4 : Int32)), .val (.ref b121), .unset, .unset] [(.int (own_p p1 (0 : Int32))), (.int (0 : Int32)), (.ref b121)])) rfl rfl (hb hby at_22)
    have K125 : ∀ t, Steps p.tables e below (T125.setTop (mkF m 23 #[.val (.int p0), .val (.int p1), .val (.int (4 : Int32)), .val (.ref b121), .unset, .unset] [])) t → Steps p.tables e below G0 t := fun t kt => K123 t (st125 _ kt)
    have Z125 : n0 ≤ h125.size := Nat.le_trans Z121 (Keep.of_wr W125).1
    have VL125 : Arv Z h125 b121 k121 .byte (4 : Int32) [(.int (nar .byte (own_p p1 (0 : Int32)))), (.int (0 : Int32)), (.int (0 : Int32)), (.int (0 : Int32))] (.int (0 : Int32)) := Arv.set Ar124 qq124 S124 M124 H124 GG124 (fits_nar_byte _) W125 0 rfl (Nat.le_of_ble_eq_true rfl)
    have N125 := Fr.snoc X125 N123 gn121
    have K126 : ∀ t, Steps p.tables e below (T125.setTop (mkF m 32 #[.val (.int p0), .val (.int p1), .val (.int (4 : Int32)), .val (.ref b121), .unset, .unset] [(.int (1 : Int32)), (.int p1), (.int (1 : Int32)), (.ref b121)])) t → Steps p.tables e below G0 t := by
      intro t kt
      refine K125 t ?_
      refine XS.iloadN X125.here hx rfl (hb hby at_23) rfl ?_
      show Steps p.tables e below (T125.setTop (mkF m 24 #[.val (.int p0), .val (.int p1), .val (.int (4 : Int32)), .val (.ref b121), .unset, .unset] [(.int (4 : Int32))])) _
      refine XS.iconst X125.here hx rfl (hb hby at_24) ?_
      show Steps p.tables e below (T125.setTop (mkF m 25 #[.val (.int p0), .val (.int p1), .val (.int (4 : Int32)), .val (.ref b121), .unset, .unset] [(.int (1 : Int32)), (.int (4 : Int32))])) _
      refine XS.icmpNo X125.here hx rfl (hb hby at_25) rfl (tlt (by decide)).2.2.2 ?_
      show Steps p.tables e below (T125.setTop (mkF m 28 #[.val (.int p0), .val (.int p1), .val (.int (4 : Int32)), .val (.ref b121), .unset, .unset] [])) _
      refine XS.aloadN X125.here hx rfl (hb hby at_28) rfl rfl ?_
      show Steps p.tables e below (T125.setTop (mkF m 29 #[.val (.int p0), .val (.int p1), .val (.int (4 : Int32)), .val (.ref b121), .unset, .unset] [(.ref b121)])) _
      refine XS.iconst X125.here hx rfl (hb hby at_29) ?_
      show Steps p.tables e below (T125.setTop (mkF m 30 #[.val (.int p0), .val (.int p1), .val (.int (4 : Int32)), .val (.ref b121), .unset, .unset] [(.int (1 : Int32)), (.ref b121)])) _
      refine XS.iloadN X125.here hx rfl (hb hby at_30) rfl ?_
      show Steps p.tables e below (T125.setTop (mkF m 31 #[.val (.int p0), .val (.int p1), .val (.int (4 : Int32)), .val (.ref b121), .unset, .unset] [(.int p1), (.int (1 : Int32)), (.ref b121)])) _
      refine XS.iconst X125.here hx rfl (hb hby at_31) ?_
      show Steps p.tables e below (T125.setTop (mkF m 32 #[.val (.int p0), .val (.int p1), .val (.int (4 : Int32)), .val (.ref b121), .unset, .unset] [(.int (1 : Int32)), (.int p1), (.int (1 : Int32)), (.ref b121)])) _
      exact kt
    obtain ⟨_, _, ⟨T127, L127, k127, n127⟩, -, X127, ⟨Lc127, hQ127, l127, y127, z127⟩, st127⟩ := Jvm.LawKit.callS X125 hx (y := (⟨"com/example/affordance/affordance/BodyHeldPinLaw", "part", "(II)B"⟩ : MethodName)) hown (mvT hZ (hw _ (List.mem_of_getElem? (i := 39) rfl))) (mvT hZ (hw _ (List.mem_of_getElem? (i := 40) rfl))) (mvT hZ (hw _ (List.mem_of_getElem? (i := 37) rfl))) (mvT hZ (hw _ (List.mem_of_getElem? (i := 41) rfl))) (by decide) (backOf (W := 2) (rm7 l Z aa hw [] (p1) ((1 : Int32))  h125 n0 Z125 ) hZ (hw _ (List.mem_of_getElem? (i := 41) rfl)) (hw _ (List.mem_of_getElem? (i := 37) rfl)) (by decide) (by decide)) (g := (mkF m 32 #[.val (.int p0), .val (.int p1), .val (.int (4 : Int32)), .val (.ref b121), .unset, .unset] [(.int (1 : Int32)), (.int p1), (.int (1 : Int32)), (.ref b121)])) rfl (by rw [hml]; rfl) (argsL := [(.int p1), (.int (1 : Int32))]) (rest := [(.int (1 : Int32)), (.ref b121)]) (lenOf pd_PIIQB rfl) rfl (by show 2 * 0 + _ ≤ _; exact Nat.le_of_eq rfl) (hb hby at_32) (fun _ _ => ⟨rfl, e125, (by decide : 1 + 0 ≤ _), (by decide : 4 + 0 ≤ _)⟩)
    dsimp only [Pt.U, Pt.locs, Pt.cells, Pt.slots] at X127 l127 y127 z127 st127 hQ127
    subst l127 y127 z127
    obtain ⟨rfl, N127q, e127⟩ := hQ127
    have N127 := Fr.app N125 N127q
    have K127 : ∀ t, Steps p.tables e below (T127.setTop (mkF m 35 #[.val (.int p0), .val (.int p1), .val (.int (4 : Int32)), .val (.ref b121), .unset, .unset] [(.int (own_p p1 (1 : Int32))), (.int (1 : Int32)), (.ref b121)])) t → Steps p.tables e below G0 t := fun t kt => K126 t (st127 _ kt)
    obtain ⟨cl128, Ar128, qq128, S128, M128, H128, GG128⟩ := id VL125
    have hin128 : ¬ ((1 : Int32) < 0 ∨ cl128.slots.size ≤ ((1 : Int32)).toNatClampNeg) := inb_of S128 ⟨by decide, by decide⟩
    obtain ⟨T129, h129, X129, e129, W129, st129⟩ := stB X127 hx hZ e127 Ar128 (j := (1 : Int32)) hin128 (g := (mkF m 35 #[.val (.int p0), .val (.int p1), .val (.int (4 : Int32)), .val (.ref b121), .unset, .unset] [(.int (own_p p1 (1 : Int32))), (.int (1 : Int32)), (.ref b121)])) rfl rfl (hb hby at_35)
    have K129 : ∀ t, Steps p.tables e below (T129.setTop (mkF m 36 #[.val (.int p0), .val (.int p1), .val (.int (4 : Int32)), .val (.ref b121), .unset, .unset] [])) t → Steps p.tables e below G0 t := fun t kt => K127 t (st129 _ kt)
    have Z129 : n0 ≤ h129.size := Nat.le_trans Z125 (Keep.of_wr W129).1
    have VL129 : Arv Z h129 b121 k121 .byte (4 : Int32) [(.int (nar .byte (own_p p1 (0 : Int32)))), (.int (nar .byte (own_p p1 (1 : Int32)))), (.int (0 : Int32)), (.int (0 : Int32))] (.int (0 : Int32)) := Arv.set Ar128 qq128 S128 M128 H128 GG128 (fits_nar_byte _) W129 1 rfl (Nat.le_of_ble_eq_true rfl)
    have N129 := Fr.snoc X129 N127 gn121
    have K130 : ∀ t, Steps p.tables e below (T129.setTop (mkF m 45 #[.val (.int p0), .val (.int p1), .val (.int (4 : Int32)), .val (.ref b121), .unset, .unset] [(.int (2 : Int32)), (.int p1), (.int (2 : Int32)), (.ref b121)])) t → Steps p.tables e below G0 t := by
      intro t kt
      refine K129 t ?_
      refine XS.iloadN X129.here hx rfl (hb hby at_36) rfl ?_
      show Steps p.tables e below (T129.setTop (mkF m 37 #[.val (.int p0), .val (.int p1), .val (.int (4 : Int32)), .val (.ref b121), .unset, .unset] [(.int (4 : Int32))])) _
      refine XS.iconst X129.here hx rfl (hb hby at_37) ?_
      show Steps p.tables e below (T129.setTop (mkF m 38 #[.val (.int p0), .val (.int p1), .val (.int (4 : Int32)), .val (.ref b121), .unset, .unset] [(.int (2 : Int32)), (.int (4 : Int32))])) _
      refine XS.icmpNo X129.here hx rfl (hb hby at_38) rfl (tlt (by decide)).2.2.2 ?_
      show Steps p.tables e below (T129.setTop (mkF m 41 #[.val (.int p0), .val (.int p1), .val (.int (4 : Int32)), .val (.ref b121), .unset, .unset] [])) _
      refine XS.aloadN X129.here hx rfl (hb hby at_41) rfl rfl ?_
      show Steps p.tables e below (T129.setTop (mkF m 42 #[.val (.int p0), .val (.int p1), .val (.int (4 : Int32)), .val (.ref b121), .unset, .unset] [(.ref b121)])) _
      refine XS.iconst X129.here hx rfl (hb hby at_42) ?_
      show Steps p.tables e below (T129.setTop (mkF m 43 #[.val (.int p0), .val (.int p1), .val (.int (4 : Int32)), .val (.ref b121), .unset, .unset] [(.int (2 : Int32)), (.ref b121)])) _
      refine XS.iloadN X129.here hx rfl (hb hby at_43) rfl ?_
      show Steps p.tables e below (T129.setTop (mkF m 44 #[.val (.int p0), .val (.int p1), .val (.int (4 : Int32)), .val (.ref b121), .unset, .unset] [(.int p1), (.int (2 : Int32)), (.ref b121)])) _
      refine XS.iconst X129.here hx rfl (hb hby at_44) ?_
      show Steps p.tables e below (T129.setTop (mkF m 45 #[.val (.int p0), .val (.int p1), .val (.int (4 : Int32)), .val (.ref b121), .unset, .unset] [(.int (2 : Int32)), (.int p1), (.int (2 : Int32)), (.ref b121)])) _
      exact kt
    obtain ⟨_, _, ⟨T131, L131, k131, n131⟩, -, X131, ⟨Lc131, hQ131, l131, y131, z131⟩, st131⟩ := Jvm.LawKit.callS X129 hx (y := (⟨"com/example/affordance/affordance/BodyHeldPinLaw", "part", "(II)B"⟩ : MethodName)) hown (mvT hZ (hw _ (List.mem_of_getElem? (i := 39) rfl))) (mvT hZ (hw _ (List.mem_of_getElem? (i := 40) rfl))) (mvT hZ (hw _ (List.mem_of_getElem? (i := 37) rfl))) (mvT hZ (hw _ (List.mem_of_getElem? (i := 41) rfl))) (by decide) (backOf (W := 2) (rm7 l Z aa hw [] (p1) ((2 : Int32))  h129 n0 Z129 ) hZ (hw _ (List.mem_of_getElem? (i := 41) rfl)) (hw _ (List.mem_of_getElem? (i := 37) rfl)) (by decide) (by decide)) (g := (mkF m 45 #[.val (.int p0), .val (.int p1), .val (.int (4 : Int32)), .val (.ref b121), .unset, .unset] [(.int (2 : Int32)), (.int p1), (.int (2 : Int32)), (.ref b121)])) rfl (by rw [hml]; rfl) (argsL := [(.int p1), (.int (2 : Int32))]) (rest := [(.int (2 : Int32)), (.ref b121)]) (lenOf pd_PIIQB rfl) rfl (by show 2 * 0 + _ ≤ _; exact Nat.le_of_eq rfl) (hb hby at_45) (fun _ _ => ⟨rfl, e129, (by decide : 1 + 0 ≤ _), (by decide : 4 + 0 ≤ _)⟩)
    dsimp only [Pt.U, Pt.locs, Pt.cells, Pt.slots] at X131 l131 y131 z131 st131 hQ131
    subst l131 y131 z131
    obtain ⟨rfl, N131q, e131⟩ := hQ131
    have N131 := Fr.app N129 N131q
    have K131 : ∀ t, Steps p.tables e below (T131.setTop (mkF m 48 #[.val (.int p0), .val (.int p1), .val (.int (4 : Int32)), .val (.ref b121), .unset, .unset] [(.int (own_p p1 (2 : Int32))), (.int (2 : Int32)), (.ref b121)])) t → Steps p.tables e below G0 t := fun t kt => K130 t (st131 _ kt)
    obtain ⟨cl132, Ar132, qq132, S132, M132, H132, GG132⟩ := id VL129
    have hin132 : ¬ ((2 : Int32) < 0 ∨ cl132.slots.size ≤ ((2 : Int32)).toNatClampNeg) := inb_of S132 ⟨by decide, by decide⟩
    obtain ⟨T133, h133, X133, e133, W133, st133⟩ := stB X131 hx hZ e131 Ar132 (j := (2 : Int32)) hin132 (g := (mkF m 48 #[.val (.int p0), .val (.int p1), .val (.int (4 : Int32)), .val (.ref b121), .unset, .unset] [(.int (own_p p1 (2 : Int32))), (.int (2 : Int32)), (.ref b121)])) rfl rfl (hb hby at_48)
    have K133 : ∀ t, Steps p.tables e below (T133.setTop (mkF m 49 #[.val (.int p0), .val (.int p1), .val (.int (4 : Int32)), .val (.ref b121), .unset, .unset] [])) t → Steps p.tables e below G0 t := fun t kt => K131 t (st133 _ kt)
    have Z133 : n0 ≤ h133.size := Nat.le_trans Z129 (Keep.of_wr W133).1
    have VL133 : Arv Z h133 b121 k121 .byte (4 : Int32) [(.int (nar .byte (own_p p1 (0 : Int32)))), (.int (nar .byte (own_p p1 (1 : Int32)))), (.int (nar .byte (own_p p1 (2 : Int32)))), (.int (0 : Int32))] (.int (0 : Int32)) := Arv.set Ar132 qq132 S132 M132 H132 GG132 (fits_nar_byte _) W133 2 rfl (Nat.le_of_ble_eq_true rfl)
    have N133 := Fr.snoc X133 N131 gn121
    have K134 : ∀ t, Steps p.tables e below (T133.setTop (mkF m 58 #[.val (.int p0), .val (.int p1), .val (.int (4 : Int32)), .val (.ref b121), .unset, .unset] [(.int (3 : Int32)), (.int p1), (.int (3 : Int32)), (.ref b121)])) t → Steps p.tables e below G0 t := by
      intro t kt
      refine K133 t ?_
      refine XS.iloadN X133.here hx rfl (hb hby at_49) rfl ?_
      show Steps p.tables e below (T133.setTop (mkF m 50 #[.val (.int p0), .val (.int p1), .val (.int (4 : Int32)), .val (.ref b121), .unset, .unset] [(.int (4 : Int32))])) _
      refine XS.iconst X133.here hx rfl (hb hby at_50) ?_
      show Steps p.tables e below (T133.setTop (mkF m 51 #[.val (.int p0), .val (.int p1), .val (.int (4 : Int32)), .val (.ref b121), .unset, .unset] [(.int (3 : Int32)), (.int (4 : Int32))])) _
      refine XS.icmpNo X133.here hx rfl (hb hby at_51) rfl (tlt (by decide)).2.2.2 ?_
      show Steps p.tables e below (T133.setTop (mkF m 54 #[.val (.int p0), .val (.int p1), .val (.int (4 : Int32)), .val (.ref b121), .unset, .unset] [])) _
      refine XS.aloadN X133.here hx rfl (hb hby at_54) rfl rfl ?_
      show Steps p.tables e below (T133.setTop (mkF m 55 #[.val (.int p0), .val (.int p1), .val (.int (4 : Int32)), .val (.ref b121), .unset, .unset] [(.ref b121)])) _
      refine XS.iconst X133.here hx rfl (hb hby at_55) ?_
      show Steps p.tables e below (T133.setTop (mkF m 56 #[.val (.int p0), .val (.int p1), .val (.int (4 : Int32)), .val (.ref b121), .unset, .unset] [(.int (3 : Int32)), (.ref b121)])) _
      refine XS.iloadN X133.here hx rfl (hb hby at_56) rfl ?_
      show Steps p.tables e below (T133.setTop (mkF m 57 #[.val (.int p0), .val (.int p1), .val (.int (4 : Int32)), .val (.ref b121), .unset, .unset] [(.int p1), (.int (3 : Int32)), (.ref b121)])) _
      refine XS.iconst X133.here hx rfl (hb hby at_57) ?_
      show Steps p.tables e below (T133.setTop (mkF m 58 #[.val (.int p0), .val (.int p1), .val (.int (4 : Int32)), .val (.ref b121), .unset, .unset] [(.int (3 : Int32)), (.int p1), (.int (3 : Int32)), (.ref b121)])) _
      exact kt
    obtain ⟨_, _, ⟨T135, L135, k135, n135⟩, -, X135, ⟨Lc135, hQ135, l135, y135, z135⟩, st135⟩ := Jvm.LawKit.callS X133 hx (y := (⟨"com/example/affordance/affordance/BodyHeldPinLaw", "part", "(II)B"⟩ : MethodName)) hown (mvT hZ (hw _ (List.mem_of_getElem? (i := 39) rfl))) (mvT hZ (hw _ (List.mem_of_getElem? (i := 40) rfl))) (mvT hZ (hw _ (List.mem_of_getElem? (i := 37) rfl))) (mvT hZ (hw _ (List.mem_of_getElem? (i := 41) rfl))) (by decide) (backOf (W := 2) (rm7 l Z aa hw [] (p1) ((3 : Int32))  h133 n0 Z133 ) hZ (hw _ (List.mem_of_getElem? (i := 41) rfl)) (hw _ (List.mem_of_getElem? (i := 37) rfl)) (by decide) (by decide)) (g := (mkF m 58 #[.val (.int p0), .val (.int p1), .val (.int (4 : Int32)), .val (.ref b121), .unset, .unset] [(.int (3 : Int32)), (.int p1), (.int (3 : Int32)), (.ref b121)])) rfl (by rw [hml]; rfl) (argsL := [(.int p1), (.int (3 : Int32))]) (rest := [(.int (3 : Int32)), (.ref b121)]) (lenOf pd_PIIQB rfl) rfl (by show 2 * 0 + _ ≤ _; exact Nat.le_of_eq rfl) (hb hby at_58) (fun _ _ => ⟨rfl, e133, (by decide : 1 + 0 ≤ _), (by decide : 4 + 0 ≤ _)⟩)
    dsimp only [Pt.U, Pt.locs, Pt.cells, Pt.slots] at X135 l135 y135 z135 st135 hQ135
    subst l135 y135 z135
    obtain ⟨rfl, N135q, e135⟩ := hQ135
    have N135 := Fr.app N133 N135q
    have K135 : ∀ t, Steps p.tables e below (T135.setTop (mkF m 61 #[.val (.int p0), .val (.int p1), .val (.int (4 : Int32)), .val (.ref b121), .unset, .unset] [(.int (own_p p1 (3 : Int32))), (.int (3 : Int32)), (.ref b121)])) t → Steps p.tables e below G0 t := fun t kt => K134 t (st135 _ kt)
    obtain ⟨cl136, Ar136, qq136, S136, M136, H136, GG136⟩ := id VL133
    have hin136 : ¬ ((3 : Int32) < 0 ∨ cl136.slots.size ≤ ((3 : Int32)).toNatClampNeg) := inb_of S136 ⟨by decide, by decide⟩
    obtain ⟨T137, h137, X137, e137, W137, st137⟩ := stB X135 hx hZ e135 Ar136 (j := (3 : Int32)) hin136 (g := (mkF m 61 #[.val (.int p0), .val (.int p1), .val (.int (4 : Int32)), .val (.ref b121), .unset, .unset] [(.int (own_p p1 (3 : Int32))), (.int (3 : Int32)), (.ref b121)])) rfl rfl (hb hby at_61)
    have K137 : ∀ t, Steps p.tables e below (T137.setTop (mkF m 62 #[.val (.int p0), .val (.int p1), .val (.int (4 : Int32)), .val (.ref b121), .unset, .unset] [])) t → Steps p.tables e below G0 t := fun t kt => K135 t (st137 _ kt)
    have Z137 : n0 ≤ h137.size := Nat.le_trans Z133 (Keep.of_wr W137).1
    have VL137 : Arv Z h137 b121 k121 .byte (4 : Int32) [(.int (nar .byte (own_p p1 (0 : Int32)))), (.int (nar .byte (own_p p1 (1 : Int32)))), (.int (nar .byte (own_p p1 (2 : Int32)))), (.int (nar .byte (own_p p1 (3 : Int32))))] (.int (0 : Int32)) := Arv.set Ar136 qq136 S136 M136 H136 GG136 (fits_nar_byte _) W137 3 rfl (Nat.le_of_ble_eq_true rfl)
    have N137 := Fr.snoc X137 N135 gn121
    have K138 : ∀ t, Steps p.tables e below (T137.setTop (mkF m 63 #[.val (.int p0), .val (.int p1), .val (.int (4 : Int32)), .val (.ref b121), .unset, .unset] [(.ref b121)])) t → Steps p.tables e below G0 t := by
      intro t kt
      refine K137 t ?_
      refine XS.aloadN X137.here hx rfl (hb hby at_62) rfl rfl ?_
      show Steps p.tables e below (T137.setTop (mkF m 63 #[.val (.int p0), .val (.int p1), .val (.int (4 : Int32)), .val (.ref b121), .unset, .unset] [(.ref b121)])) _
      exact kt
    obtain ⟨_, _, ⟨T139, L139, k139, n139⟩, -, X139, ⟨Lc139, hQ139, l139, y139, z139⟩, st139⟩ := Jvm.LawKit.callS X137 hx (y := (⟨"com/example/affordance/affordance/Body", "held", "([B)Lcom/example/affordance/affordance/Body;"⟩ : MethodName)) hown (mvT hZ (hw _ (List.mem_of_getElem? (i := 2) rfl))) (mvT hZ (hw _ (List.mem_of_getElem? (i := 3) rfl))) (mvT hZ (hw _ (List.mem_of_getElem? (i := 4) rfl))) (mvT hZ (hw _ (List.mem_of_getElem? (i := 5) rfl))) (by decide) (backOf (W := 0) (rm1 l Z aa hw [] (b121) _ (4 : Int32) _ _ h137 n0 Z137 VL137) hZ (hw _ (List.mem_of_getElem? (i := 5) rfl)) (hw _ (List.mem_of_getElem? (i := 4) rfl)) (by decide) (by decide)) (g := (mkF m 63 #[.val (.int p0), .val (.int p1), .val (.int (4 : Int32)), .val (.ref b121), .unset, .unset] [(.ref b121)])) rfl (by rw [hml]; rfl) (argsL := [(.ref b121)]) (rest := []) (lenOf pd_P_BQLcom_example_affordance_affordance_Body_ rfl) rfl (by show 2 * 0 + _ ≤ _; exact Nat.le_of_eq rfl) (hb hby at_63) (fun _ _ => ⟨rfl, e137, (by decide : 1 + 1 ≤ _), (by decide : 4 + 5 ≤ _)⟩)
    dsimp only [Pt.U, Pt.locs, Pt.cells, Pt.slots] at X139 l139 y139 z139 st139 hQ139
    subst l139 y139 z139
    obtain ⟨r139, rfl, N139q, KV139, EV139, FB139, FL139⟩ := hQ139
    have N139 := Fr.app N137 N139q
    have K139 : ∀ t, Steps p.tables e below (T139.setTop (mkF m 66 #[.val (.int p0), .val (.int p1), .val (.int (4 : Int32)), .val (.ref b121), .unset, .unset] [(.ref r139)])) t → Steps p.tables e below G0 t := fun t kt => K138 t (st139 _ kt)
    have Z139 : n0 ≤ T139.heap.size := Nat.le_trans Z137 KV139.1
    have K140 : ∀ t, Steps p.tables e below (T139.setTop (mkF m 70 #[.val (.int p0), .val (.int p1), .val (.int (4 : Int32)), .val (.ref b121), .val (.ref r139), .unset] [(.ref r139)])) t → Steps p.tables e below G0 t := by
      intro t kt
      refine K139 t ?_
      refine XS.astore X139.here hx rfl (hb hby at_66) rfl rfl (l' := #[.val (.int p0), .val (.int p1), .val (.int (4 : Int32)), .val (.ref b121), .val (.ref r139), .unset]) rfl ?_
      show Steps p.tables e below (T139.setTop (mkF m 68 #[.val (.int p0), .val (.int p1), .val (.int (4 : Int32)), .val (.ref b121), .val (.ref r139), .unset] [])) _
      refine XS.aload X139.here hx rfl (hb hby at_68) rfl rfl ?_
      show Steps p.tables e below (T139.setTop (mkF m 70 #[.val (.int p0), .val (.int p1), .val (.int (4 : Int32)), .val (.ref b121), .val (.ref r139), .unset] [(.ref r139)])) _
      exact kt
    obtain ⟨cq141, kq141, q141a, q141b, q141c⟩ := isOf hZ (rfl : T139.heap = _) EV139
    obtain ⟨_, _, ⟨T142, L142, k142, n142⟩, -, X142, ⟨Lc142, hQ142, l142, y142, z142⟩, st142⟩ := X139.virtualBack hx (y := (⟨"com/example/affordance/affordance/Body", "length", "()J"⟩ : MethodName)) (z := (⟨"com/example/affordance/affordance/Body", "length", "()J"⟩ : MethodName)) hown (mvT hZ (hw _ (List.mem_of_getElem? (i := 25) rfl))) (mvT hZ (hw _ (List.mem_of_getElem? (i := 26) rfl))) (notFace_of_selects (args := #[]) (mvT hZ (hw _ (List.mem_of_getElem? (i := 28) rfl)))) (mvT hZ (hw _ (List.mem_of_getElem? (i := 28) rfl))) (mvT hZ (hw _ (List.mem_of_getElem? (i := 27) rfl))) (by decide) (backOf (W := 0) (rm4 l Z aa hw [] (r139) ((4 : Int32)).toInt64 T139.heap n0 Z139 FL139) hZ (hw _ (List.mem_of_getElem? (i := 29) rfl)) (hw _ (List.mem_of_getElem? (i := 4) rfl)) (by decide) (by decide)) q141a q141c (g := (mkF m 70 #[.val (.int p0), .val (.int p1), .val (.int (4 : Int32)), .val (.ref b121), .val (.ref r139), .unset] [(.ref r139)])) rfl (by rw [hml]; rfl) (Steps.refl _) (argsL := []) (rest := []) (lenOf pd_PQJ rfl) rfl (by show 2 * 0 + _ ≤ _; exact Nat.le_of_eq rfl) (hb hby at_70) (fun _ _ => ⟨rfl, (rfl : T139.heap = _), (by decide : 2 + 0 ≤ _), (by decide : 9 + 0 ≤ _)⟩)
    dsimp only [Pt.U, Pt.locs, Pt.cells, Pt.slots] at X142 l142 y142 z142 st142 hQ142
    subst l142 y142 z142
    obtain ⟨rfl, N142q, e142⟩ := hQ142
    have N142 := Fr.app N139 N142q
    have K142 : ∀ t, Steps p.tables e below (T142.setTop (mkF m 73 #[.val (.int p0), .val (.int p1), .val (.int (4 : Int32)), .val (.ref b121), .val (.ref r139), .unset] [(.long ((4 : Int32)).toInt64)])) t → Steps p.tables e below G0 t := fun t kt => K140 t (st142.trans kt)
    have K143 : ∀ t, Steps p.tables e below (T142.setTop (mkF m 83 #[.val (.int p0), .val (.int p1), .val (.int (4 : Int32)), .val (.ref b121), .val (.ref r139), .unset] [(.ref r139)])) t → Steps p.tables e below G0 t := by
      intro t kt
      refine K142 t ?_
      refine XS.iloadN X142.here hx rfl (hb hby at_73) rfl ?_
      show Steps p.tables e below (T142.setTop (mkF m 74 #[.val (.int p0), .val (.int p1), .val (.int (4 : Int32)), .val (.ref b121), .val (.ref r139), .unset] [(.int (4 : Int32)), (.long ((4 : Int32)).toInt64)])) _
      refine XS.i2l X142.here hx rfl (hb hby at_74) rfl ?_
      show Steps p.tables e below (T142.setTop (mkF m 75 #[.val (.int p0), .val (.int p1), .val (.int (4 : Int32)), .val (.ref b121), .val (.ref r139), .unset] [(.long ((4 : Int32).toInt64)), (.long ((4 : Int32)).toInt64)])) _
      refine XS.lcmp X142.here hx rfl (hb hby at_75) rfl ?_
      show Steps p.tables e below (T142.setTop (mkF m 76 #[.val (.int p0), .val (.int p1), .val (.int (4 : Int32)), .val (.ref b121), .val (.ref r139), .unset] [(.int (lcmpW ((4 : Int32)).toInt64 ((4 : Int32).toInt64)))])) _
      refine XS.ifYes X142.here hx rfl (pc0 := 76) (pc' := 81) rfl (hb hby at_76) rfl ((if0 _ _).trans (teq ((lw_eq _ _).mpr rfl)).1) (by decide) (by decide) ?_
      show Steps p.tables e below (T142.setTop (mkF m 81 #[.val (.int p0), .val (.int p1), .val (.int (4 : Int32)), .val (.ref b121), .val (.ref r139), .unset] [])) _
      refine XS.aload X142.here hx rfl (hb hby at_81) rfl rfl ?_
      show Steps p.tables e below (T142.setTop (mkF m 83 #[.val (.int p0), .val (.int p1), .val (.int (4 : Int32)), .val (.ref b121), .val (.ref r139), .unset] [(.ref r139)])) _
      exact kt
    obtain ⟨cq144, kq144, q144a, q144b, q144c⟩ := isOf hZ e142 EV139
    obtain ⟨_, _, ⟨T145, L145, k145, n145⟩, -, X145, ⟨Lc145, hQ145, l145, y145, z145⟩, st145⟩ := X142.virtualBack hx (y := (⟨"com/example/affordance/affordance/Body", "bytes", "()[B"⟩ : MethodName)) (z := (⟨"com/example/affordance/affordance/Body", "bytes", "()[B"⟩ : MethodName)) hown (mvT hZ (hw _ (List.mem_of_getElem? (i := 30) rfl))) (mvT hZ (hw _ (List.mem_of_getElem? (i := 31) rfl))) (notFace_of_selects (args := #[]) (mvT hZ (hw _ (List.mem_of_getElem? (i := 33) rfl)))) (mvT hZ (hw _ (List.mem_of_getElem? (i := 33) rfl))) (mvT hZ (hw _ (List.mem_of_getElem? (i := 32) rfl))) (by decide) (backOf (W := 0) (rm5 l Z aa hw [] (r139) b121 T139.heap n0 Z139 FB139) hZ (hw _ (List.mem_of_getElem? (i := 34) rfl)) (hw _ (List.mem_of_getElem? (i := 4) rfl)) (by decide) (by decide)) q144a q144c (g := (mkF m 83 #[.val (.int p0), .val (.int p1), .val (.int (4 : Int32)), .val (.ref b121), .val (.ref r139), .unset] [(.ref r139)])) rfl (by rw [hml]; rfl) (Steps.refl _) (argsL := []) (rest := []) (lenOf pd_PQ_B rfl) rfl (by show 2 * 0 + _ ≤ _; exact Nat.le_of_eq rfl) (hb hby at_83) (fun _ _ => ⟨rfl, e142, (by decide : 2 + 0 ≤ _), (by decide : 9 + 0 ≤ _)⟩)
    dsimp only [Pt.U, Pt.locs, Pt.cells, Pt.slots] at X145 l145 y145 z145 st145 hQ145
    subst l145 y145 z145
    obtain ⟨rfl, N145q, e145⟩ := hQ145
    have N145 := Fr.app N142 N145q
    have K145 : ∀ t, Steps p.tables e below (T145.setTop (mkF m 86 #[.val (.int p0), .val (.int p1), .val (.int (4 : Int32)), .val (.ref b121), .val (.ref r139), .unset] [(.ref b121)])) t → Steps p.tables e below G0 t := fun t kt => K143 t (st145.trans kt)
    have K146 : ∀ t, Steps p.tables e below (T145.setTop (mkF m 95 #[.val (.int p0), .val (.int p1), .val (.int (4 : Int32)), .val (.ref b121), .val (.ref r139), .val (.ref b121)] [(.ref b121)])) t → Steps p.tables e below G0 t := by
      intro t kt
      refine K145 t ?_
      refine XS.astore X145.here hx rfl (hb hby at_86) rfl rfl (l' := #[.val (.int p0), .val (.int p1), .val (.int (4 : Int32)), .val (.ref b121), .val (.ref r139), .val (.ref b121)]) rfl ?_
      show Steps p.tables e below (T145.setTop (mkF m 88 #[.val (.int p0), .val (.int p1), .val (.int (4 : Int32)), .val (.ref b121), .val (.ref r139), .val (.ref b121)] [])) _
      refine XS.aload X145.here hx rfl (hb hby at_88) rfl rfl ?_
      show Steps p.tables e below (T145.setTop (mkF m 90 #[.val (.int p0), .val (.int p1), .val (.int (4 : Int32)), .val (.ref b121), .val (.ref r139), .val (.ref b121)] [(.ref b121)])) _
      refine XS.ifnullNo X145.here hx rfl (hb hby at_90) rfl ?_
      show Steps p.tables e below (T145.setTop (mkF m 93 #[.val (.int p0), .val (.int p1), .val (.int (4 : Int32)), .val (.ref b121), .val (.ref r139), .val (.ref b121)] [])) _
      refine XS.aload X145.here hx rfl (hb hby at_93) rfl rfl ?_
      show Steps p.tables e below (T145.setTop (mkF m 95 #[.val (.int p0), .val (.int p1), .val (.int (4 : Int32)), .val (.ref b121), .val (.ref r139), .val (.ref b121)] [(.ref b121)])) _
      exact kt
    have f147 := (VL137.keep KV139 (fun q => nomatch q))
    obtain ⟨cl148, Ar148, qq148, S148, M148, H148, GG148⟩ := id f147
    have K149 : ∀ t, Steps p.tables e below (T145.setTop (mkF m 107 #[.val (.int p0), .val (.int p1), .val (.int (4 : Int32)), .val (.ref b121), .val (.ref r139), .val (.ref b121)] [(.int (0 : Int32)), (.int p1), (.int (4 : Int32)), (.ref b121)])) t → Steps p.tables e below G0 t := by
      intro t kt
      refine K146 t ?_
      refine X145.arraylength hx (by rw [e145]; exact (Ar148).1) (State.isArrayOf_alike hZ.alike (Ar148).2.1) (g := (mkF m 95 #[.val (.int p0), .val (.int p1), .val (.int (4 : Int32)), .val (.ref b121), .val (.ref r139), .val (.ref b121)] [(.ref b121)])) rfl rfl (hb hby at_95) _ ?_
      rw [len_of S148 M148]
      show Steps p.tables e below (T145.setTop (mkF m 96 #[.val (.int p0), .val (.int p1), .val (.int (4 : Int32)), .val (.ref b121), .val (.ref r139), .val (.ref b121)] [(.int (4 : Int32))])) _
      refine XS.iloadN X145.here hx rfl (hb hby at_96) rfl ?_
      show Steps p.tables e below (T145.setTop (mkF m 97 #[.val (.int p0), .val (.int p1), .val (.int (4 : Int32)), .val (.ref b121), .val (.ref r139), .val (.ref b121)] [(.int (4 : Int32)), (.int (4 : Int32))])) _
      refine XS.icmpYes X145.here hx rfl (pc0 := 97) (pc' := 102) rfl (hb hby at_97) rfl (teq rfl).1 (by decide) (by decide) ?_
      show Steps p.tables e below (T145.setTop (mkF m 102 #[.val (.int p0), .val (.int p1), .val (.int (4 : Int32)), .val (.ref b121), .val (.ref r139), .val (.ref b121)] [])) _
      refine XS.aload X145.here hx rfl (hb hby at_102) rfl rfl ?_
      show Steps p.tables e below (T145.setTop (mkF m 104 #[.val (.int p0), .val (.int p1), .val (.int (4 : Int32)), .val (.ref b121), .val (.ref r139), .val (.ref b121)] [(.ref b121)])) _
      refine XS.iloadN X145.here hx rfl (hb hby at_104) rfl ?_
      show Steps p.tables e below (T145.setTop (mkF m 105 #[.val (.int p0), .val (.int p1), .val (.int (4 : Int32)), .val (.ref b121), .val (.ref r139), .val (.ref b121)] [(.int (4 : Int32)), (.ref b121)])) _
      refine XS.iloadN X145.here hx rfl (hb hby at_105) rfl ?_
      show Steps p.tables e below (T145.setTop (mkF m 106 #[.val (.int p0), .val (.int p1), .val (.int (4 : Int32)), .val (.ref b121), .val (.ref r139), .val (.ref b121)] [(.int p1), (.int (4 : Int32)), (.ref b121)])) _
      refine XS.iconst X145.here hx rfl (hb hby at_106) ?_
      show Steps p.tables e below (T145.setTop (mkF m 107 #[.val (.int p0), .val (.int p1), .val (.int (4 : Int32)), .val (.ref b121), .val (.ref r139), .val (.ref b121)] [(.int (0 : Int32)), (.int p1), (.int (4 : Int32)), (.ref b121)])) _
      exact kt
    obtain ⟨cl150, Ar150, qq150, S150, M150, H150, GG150⟩ := id f147
    have hin150 : ¬ ((0 : Int32) < 0 ∨ cl150.slots.size ≤ ((0 : Int32)).toNatClampNeg) := inb_of S150 ⟨by decide, by decide⟩
    obtain ⟨_, _, ⟨T151, L151, k151, n151⟩, -, X151, ⟨Lc151, hQ151, l151, y151, z151⟩, st151⟩ := Jvm.LawKit.callS X145 hx (y := (⟨"com/example/affordance/affordance/BodyHeldPinLaw", "same", "([BIII)Z"⟩ : MethodName)) hown (mvT hZ (hw _ (List.mem_of_getElem? (i := 35) rfl))) (mvT hZ (hw _ (List.mem_of_getElem? (i := 36) rfl))) (mvT hZ (hw _ (List.mem_of_getElem? (i := 37) rfl))) (mvT hZ (hw _ (List.mem_of_getElem? (i := 38) rfl))) (by decide) (backOf (W := 0) (rm6 l Z aa hw [] (b121) ((4 : Int32)) (p1) ((0 : Int32))  T139.heap n0 Z139 (Or.inr ⟨cl150, Ar150, hin150, Has.at H150 hin150 rfl⟩)) hZ (hw _ (List.mem_of_getElem? (i := 38) rfl)) (hw _ (List.mem_of_getElem? (i := 37) rfl)) (by decide) (by decide)) (g := (mkF m 107 #[.val (.int p0), .val (.int p1), .val (.int (4 : Int32)), .val (.ref b121), .val (.ref r139), .val (.ref b121)] [(.int (0 : Int32)), (.int p1), (.int (4 : Int32)), (.ref b121)])) rfl (by rw [hml]; rfl) (argsL := [(.ref b121), (.int (4 : Int32)), (.int p1), (.int (0 : Int32))]) (rest := []) (lenOf pd_P_BIIIQZ rfl) rfl (by show 2 * 0 + _ ≤ _; exact Nat.le_of_eq rfl) (hb hby at_107) (fun _ _ => ⟨rfl, e145, (by decide : 2 + 0 ≤ _), (by decide : 9 + 0 ≤ _)⟩)
    dsimp only [Pt.U, Pt.locs, Pt.cells, Pt.slots] at X151 l151 y151 z151 st151 hQ151
    subst l151 y151 z151
    obtain ⟨rfl, N151q, e151⟩ := hQ151
    have N151 := Fr.app N145 N151q
    have K151 : ∀ t, Steps p.tables e below (T151.setTop (mkF m 110 #[.val (.int p0), .val (.int p1), .val (.int (4 : Int32)), .val (.ref b121), .val (.ref r139), .val (.ref b121)] [(.int (1 : Int32))])) t → Steps p.tables e below G0 t := fun t kt => K149 t (st151 _ kt)
    have K152 : ∀ t, Steps p.tables e below (T151.setTop (mkF m 118 #[.val (.int p0), .val (.int p1), .val (.int (4 : Int32)), .val (.ref b121), .val (.ref r139), .val (.ref b121)] [(.int (1 : Int32)), (.int p1), (.int (4 : Int32)), (.ref b121)])) t → Steps p.tables e below G0 t := by
      intro t kt
      refine K151 t ?_
      refine XS.ifNo X151.here hx rfl (hb hby at_110) rfl ((if0 _ _).trans (feq (by decide)).1) ?_
      show Steps p.tables e below (T151.setTop (mkF m 113 #[.val (.int p0), .val (.int p1), .val (.int (4 : Int32)), .val (.ref b121), .val (.ref r139), .val (.ref b121)] [])) _
      refine XS.aload X151.here hx rfl (hb hby at_113) rfl rfl ?_
      show Steps p.tables e below (T151.setTop (mkF m 115 #[.val (.int p0), .val (.int p1), .val (.int (4 : Int32)), .val (.ref b121), .val (.ref r139), .val (.ref b121)] [(.ref b121)])) _
      refine XS.iloadN X151.here hx rfl (hb hby at_115) rfl ?_
      show Steps p.tables e below (T151.setTop (mkF m 116 #[.val (.int p0), .val (.int p1), .val (.int (4 : Int32)), .val (.ref b121), .val (.ref r139), .val (.ref b121)] [(.int (4 : Int32)), (.ref b121)])) _
      refine XS.iloadN X151.here hx rfl (hb hby at_116) rfl ?_
      show Steps p.tables e below (T151.setTop (mkF m 117 #[.val (.int p0), .val (.int p1), .val (.int (4 : Int32)), .val (.ref b121), .val (.ref r139), .val (.ref b121)] [(.int p1), (.int (4 : Int32)), (.ref b121)])) _
      refine XS.iconst X151.here hx rfl (hb hby at_117) ?_
      show Steps p.tables e below (T151.setTop (mkF m 118 #[.val (.int p0), .val (.int p1), .val (.int (4 : Int32)), .val (.ref b121), .val (.ref r139), .val (.ref b121)] [(.int (1 : Int32)), (.int p1), (.int (4 : Int32)), (.ref b121)])) _
      exact kt
    obtain ⟨cl153, Ar153, qq153, S153, M153, H153, GG153⟩ := id f147
    have hin153 : ¬ ((1 : Int32) < 0 ∨ cl153.slots.size ≤ ((1 : Int32)).toNatClampNeg) := inb_of S153 ⟨by decide, by decide⟩
    obtain ⟨_, _, ⟨T154, L154, k154, n154⟩, -, X154, ⟨Lc154, hQ154, l154, y154, z154⟩, st154⟩ := Jvm.LawKit.callS X151 hx (y := (⟨"com/example/affordance/affordance/BodyHeldPinLaw", "same", "([BIII)Z"⟩ : MethodName)) hown (mvT hZ (hw _ (List.mem_of_getElem? (i := 35) rfl))) (mvT hZ (hw _ (List.mem_of_getElem? (i := 36) rfl))) (mvT hZ (hw _ (List.mem_of_getElem? (i := 37) rfl))) (mvT hZ (hw _ (List.mem_of_getElem? (i := 38) rfl))) (by decide) (backOf (W := 0) (rm6 l Z aa hw [] (b121) ((4 : Int32)) (p1) ((1 : Int32))  T139.heap n0 Z139 (Or.inr ⟨cl153, Ar153, hin153, Has.at H153 hin153 rfl⟩)) hZ (hw _ (List.mem_of_getElem? (i := 38) rfl)) (hw _ (List.mem_of_getElem? (i := 37) rfl)) (by decide) (by decide)) (g := (mkF m 118 #[.val (.int p0), .val (.int p1), .val (.int (4 : Int32)), .val (.ref b121), .val (.ref r139), .val (.ref b121)] [(.int (1 : Int32)), (.int p1), (.int (4 : Int32)), (.ref b121)])) rfl (by rw [hml]; rfl) (argsL := [(.ref b121), (.int (4 : Int32)), (.int p1), (.int (1 : Int32))]) (rest := []) (lenOf pd_P_BIIIQZ rfl) rfl (by show 2 * 0 + _ ≤ _; exact Nat.le_of_eq rfl) (hb hby at_118) (fun _ _ => ⟨rfl, e151, (by decide : 2 + 0 ≤ _), (by decide : 9 + 0 ≤ _)⟩)
    dsimp only [Pt.U, Pt.locs, Pt.cells, Pt.slots] at X154 l154 y154 z154 st154 hQ154
    subst l154 y154 z154
    obtain ⟨rfl, N154q, e154⟩ := hQ154
    have N154 := Fr.app N151 N154q
    have K154 : ∀ t, Steps p.tables e below (T154.setTop (mkF m 121 #[.val (.int p0), .val (.int p1), .val (.int (4 : Int32)), .val (.ref b121), .val (.ref r139), .val (.ref b121)] [(.int (1 : Int32))])) t → Steps p.tables e below G0 t := fun t kt => K152 t (st154 _ kt)
    have K155 : ∀ t, Steps p.tables e below (T154.setTop (mkF m 129 #[.val (.int p0), .val (.int p1), .val (.int (4 : Int32)), .val (.ref b121), .val (.ref r139), .val (.ref b121)] [(.int (2 : Int32)), (.int p1), (.int (4 : Int32)), (.ref b121)])) t → Steps p.tables e below G0 t := by
      intro t kt
      refine K154 t ?_
      refine XS.ifNo X154.here hx rfl (hb hby at_121) rfl ((if0 _ _).trans (feq (by decide)).1) ?_
      show Steps p.tables e below (T154.setTop (mkF m 124 #[.val (.int p0), .val (.int p1), .val (.int (4 : Int32)), .val (.ref b121), .val (.ref r139), .val (.ref b121)] [])) _
      refine XS.aload X154.here hx rfl (hb hby at_124) rfl rfl ?_
      show Steps p.tables e below (T154.setTop (mkF m 126 #[.val (.int p0), .val (.int p1), .val (.int (4 : Int32)), .val (.ref b121), .val (.ref r139), .val (.ref b121)] [(.ref b121)])) _
      refine XS.iloadN X154.here hx rfl (hb hby at_126) rfl ?_
      show Steps p.tables e below (T154.setTop (mkF m 127 #[.val (.int p0), .val (.int p1), .val (.int (4 : Int32)), .val (.ref b121), .val (.ref r139), .val (.ref b121)] [(.int (4 : Int32)), (.ref b121)])) _
      refine XS.iloadN X154.here hx rfl (hb hby at_127) rfl ?_
      show Steps p.tables e below (T154.setTop (mkF m 128 #[.val (.int p0), .val (.int p1), .val (.int (4 : Int32)), .val (.ref b121), .val (.ref r139), .val (.ref b121)] [(.int p1), (.int (4 : Int32)), (.ref b121)])) _
      refine XS.iconst X154.here hx rfl (hb hby at_128) ?_
      show Steps p.tables e below (T154.setTop (mkF m 129 #[.val (.int p0), .val (.int p1), .val (.int (4 : Int32)), .val (.ref b121), .val (.ref r139), .val (.ref b121)] [(.int (2 : Int32)), (.int p1), (.int (4 : Int32)), (.ref b121)])) _
      exact kt
    obtain ⟨cl156, Ar156, qq156, S156, M156, H156, GG156⟩ := id f147
    have hin156 : ¬ ((2 : Int32) < 0 ∨ cl156.slots.size ≤ ((2 : Int32)).toNatClampNeg) := inb_of S156 ⟨by decide, by decide⟩
    obtain ⟨_, _, ⟨T157, L157, k157, n157⟩, -, X157, ⟨Lc157, hQ157, l157, y157, z157⟩, st157⟩ := Jvm.LawKit.callS X154 hx (y := (⟨"com/example/affordance/affordance/BodyHeldPinLaw", "same", "([BIII)Z"⟩ : MethodName)) hown (mvT hZ (hw _ (List.mem_of_getElem? (i := 35) rfl))) (mvT hZ (hw _ (List.mem_of_getElem? (i := 36) rfl))) (mvT hZ (hw _ (List.mem_of_getElem? (i := 37) rfl))) (mvT hZ (hw _ (List.mem_of_getElem? (i := 38) rfl))) (by decide) (backOf (W := 0) (rm6 l Z aa hw [] (b121) ((4 : Int32)) (p1) ((2 : Int32))  T139.heap n0 Z139 (Or.inr ⟨cl156, Ar156, hin156, Has.at H156 hin156 rfl⟩)) hZ (hw _ (List.mem_of_getElem? (i := 38) rfl)) (hw _ (List.mem_of_getElem? (i := 37) rfl)) (by decide) (by decide)) (g := (mkF m 129 #[.val (.int p0), .val (.int p1), .val (.int (4 : Int32)), .val (.ref b121), .val (.ref r139), .val (.ref b121)] [(.int (2 : Int32)), (.int p1), (.int (4 : Int32)), (.ref b121)])) rfl (by rw [hml]; rfl) (argsL := [(.ref b121), (.int (4 : Int32)), (.int p1), (.int (2 : Int32))]) (rest := []) (lenOf pd_P_BIIIQZ rfl) rfl (by show 2 * 0 + _ ≤ _; exact Nat.le_of_eq rfl) (hb hby at_129) (fun _ _ => ⟨rfl, e154, (by decide : 2 + 0 ≤ _), (by decide : 9 + 0 ≤ _)⟩)
    dsimp only [Pt.U, Pt.locs, Pt.cells, Pt.slots] at X157 l157 y157 z157 st157 hQ157
    subst l157 y157 z157
    obtain ⟨rfl, N157q, e157⟩ := hQ157
    have N157 := Fr.app N154 N157q
    have K157 : ∀ t, Steps p.tables e below (T157.setTop (mkF m 132 #[.val (.int p0), .val (.int p1), .val (.int (4 : Int32)), .val (.ref b121), .val (.ref r139), .val (.ref b121)] [(.int (1 : Int32))])) t → Steps p.tables e below G0 t := fun t kt => K155 t (st157 _ kt)
    have K158 : ∀ t, Steps p.tables e below (T157.setTop (mkF m 140 #[.val (.int p0), .val (.int p1), .val (.int (4 : Int32)), .val (.ref b121), .val (.ref r139), .val (.ref b121)] [(.int (3 : Int32)), (.int p1), (.int (4 : Int32)), (.ref b121)])) t → Steps p.tables e below G0 t := by
      intro t kt
      refine K157 t ?_
      refine XS.ifNo X157.here hx rfl (hb hby at_132) rfl ((if0 _ _).trans (feq (by decide)).1) ?_
      show Steps p.tables e below (T157.setTop (mkF m 135 #[.val (.int p0), .val (.int p1), .val (.int (4 : Int32)), .val (.ref b121), .val (.ref r139), .val (.ref b121)] [])) _
      refine XS.aload X157.here hx rfl (hb hby at_135) rfl rfl ?_
      show Steps p.tables e below (T157.setTop (mkF m 137 #[.val (.int p0), .val (.int p1), .val (.int (4 : Int32)), .val (.ref b121), .val (.ref r139), .val (.ref b121)] [(.ref b121)])) _
      refine XS.iloadN X157.here hx rfl (hb hby at_137) rfl ?_
      show Steps p.tables e below (T157.setTop (mkF m 138 #[.val (.int p0), .val (.int p1), .val (.int (4 : Int32)), .val (.ref b121), .val (.ref r139), .val (.ref b121)] [(.int (4 : Int32)), (.ref b121)])) _
      refine XS.iloadN X157.here hx rfl (hb hby at_138) rfl ?_
      show Steps p.tables e below (T157.setTop (mkF m 139 #[.val (.int p0), .val (.int p1), .val (.int (4 : Int32)), .val (.ref b121), .val (.ref r139), .val (.ref b121)] [(.int p1), (.int (4 : Int32)), (.ref b121)])) _
      refine XS.iconst X157.here hx rfl (hb hby at_139) ?_
      show Steps p.tables e below (T157.setTop (mkF m 140 #[.val (.int p0), .val (.int p1), .val (.int (4 : Int32)), .val (.ref b121), .val (.ref r139), .val (.ref b121)] [(.int (3 : Int32)), (.int p1), (.int (4 : Int32)), (.ref b121)])) _
      exact kt
    obtain ⟨cl159, Ar159, qq159, S159, M159, H159, GG159⟩ := id f147
    have hin159 : ¬ ((3 : Int32) < 0 ∨ cl159.slots.size ≤ ((3 : Int32)).toNatClampNeg) := inb_of S159 ⟨by decide, by decide⟩
    obtain ⟨_, _, ⟨T160, L160, k160, n160⟩, -, X160, ⟨Lc160, hQ160, l160, y160, z160⟩, st160⟩ := Jvm.LawKit.callS X157 hx (y := (⟨"com/example/affordance/affordance/BodyHeldPinLaw", "same", "([BIII)Z"⟩ : MethodName)) hown (mvT hZ (hw _ (List.mem_of_getElem? (i := 35) rfl))) (mvT hZ (hw _ (List.mem_of_getElem? (i := 36) rfl))) (mvT hZ (hw _ (List.mem_of_getElem? (i := 37) rfl))) (mvT hZ (hw _ (List.mem_of_getElem? (i := 38) rfl))) (by decide) (backOf (W := 0) (rm6 l Z aa hw [] (b121) ((4 : Int32)) (p1) ((3 : Int32))  T139.heap n0 Z139 (Or.inr ⟨cl159, Ar159, hin159, Has.at H159 hin159 rfl⟩)) hZ (hw _ (List.mem_of_getElem? (i := 38) rfl)) (hw _ (List.mem_of_getElem? (i := 37) rfl)) (by decide) (by decide)) (g := (mkF m 140 #[.val (.int p0), .val (.int p1), .val (.int (4 : Int32)), .val (.ref b121), .val (.ref r139), .val (.ref b121)] [(.int (3 : Int32)), (.int p1), (.int (4 : Int32)), (.ref b121)])) rfl (by rw [hml]; rfl) (argsL := [(.ref b121), (.int (4 : Int32)), (.int p1), (.int (3 : Int32))]) (rest := []) (lenOf pd_P_BIIIQZ rfl) rfl (by show 2 * 0 + _ ≤ _; exact Nat.le_of_eq rfl) (hb hby at_140) (fun _ _ => ⟨rfl, e157, (by decide : 2 + 0 ≤ _), (by decide : 9 + 0 ≤ _)⟩)
    dsimp only [Pt.U, Pt.locs, Pt.cells, Pt.slots] at X160 l160 y160 z160 st160 hQ160
    subst l160 y160 z160
    obtain ⟨rfl, N160q, e160⟩ := hQ160
    have N160 := Fr.app N157 N160q
    have K160 : ∀ t, Steps p.tables e below (T160.setTop (mkF m 143 #[.val (.int p0), .val (.int p1), .val (.int (4 : Int32)), .val (.ref b121), .val (.ref r139), .val (.ref b121)] [(.int (1 : Int32))])) t → Steps p.tables e below G0 t := fun t kt => K158 t (st160 _ kt)
    have K161 : ∀ t, Steps p.tables e below (T160.setTop (mkF m 151 #[.val (.int p0), .val (.int p1), .val (.int (4 : Int32)), .val (.ref b121), .val (.ref r139), .val (.ref b121)] [(.int (1 : Int32))])) t → Steps p.tables e below G0 t := by
      intro t kt
      refine K160 t ?_
      refine XS.ifNo X160.here hx rfl (hb hby at_143) rfl ((if0 _ _).trans (feq (by decide)).1) ?_
      show Steps p.tables e below (T160.setTop (mkF m 146 #[.val (.int p0), .val (.int p1), .val (.int (4 : Int32)), .val (.ref b121), .val (.ref r139), .val (.ref b121)] [])) _
      refine XS.iconst X160.here hx rfl (hb hby at_146) ?_
      show Steps p.tables e below (T160.setTop (mkF m 147 #[.val (.int p0), .val (.int p1), .val (.int (4 : Int32)), .val (.ref b121), .val (.ref r139), .val (.ref b121)] [(.int (1 : Int32))])) _
      refine XS.goto X160.here hx rfl (pc0 := 147) (pc' := 151) rfl (hb hby at_147) (by decide) (by decide) ?_
      show Steps p.tables e below (T160.setTop (mkF m 151 #[.val (.int p0), .val (.int p1), .val (.int (4 : Int32)), .val (.ref b121), .val (.ref r139), .val (.ref b121)] [(.int (1 : Int32))])) _
      exact kt
    obtain ⟨fs, hr, hrun, hended, hW, hsame⟩ := X160.leave (v := some (.int (1 : Int32))) (fun h => by rw [Bd.returns] at h; cases h)
    refine ⟨_, _, ?_, hrun, hended, _, _, rfl, ?_, ⟨_, rfl⟩, hW, hsame.mono (by decide) (by decide)⟩
    · rw [← hG0]
      refine K161 _ ?_
      exact retN X160 hx (t := .boolean) Bd.returns (by simp) (hb hby at_151) hr
    · show Q0 Z p0 p1 h0 n0 _ T160.heap _
      rw [e160]
      exact ⟨rfl, N160⟩
set_option maxRecDepth 65536 in
set_option maxHeartbeats 40000000 in
theorem comes_1 {Post : Tables → Env → Array Value → State → Outcome → State → Prop} (hpost : ∀ tb e args s v u, (limb_1_1.after args s (.returned v) u = true ∧ limb_1_2.after args s (.returned v) u = true ∧ True) → FrameEnd s (.returned v) u (Jvm.fieldLocs frame_1_writes args s ++ Jvm.arrayLocs frame_1_arrays args s ++ Jvm.staticLocs frame_1_statics s) 16 128 → Post tb e args s (.returned v) u) :
    ArmFor flags0 classFile x code maxLocals ret World_1 tables_1 room_1 Calls_1 rest_1 Pre_1 Post := by
  intro l hfl _ _ p e ha hc hk s m args below hf hA hF happ hP
  obtain ⟨hcalls, hrest, hpre⟩ := hP
  obtain ⟨-, -, -, hnamed, -, -, -, hat⟩ := (Spec.applies_iff hf).mp happ
  obtain ⟨hg, hn⟩ := and_e (Cond.before_iff.mp (show (Jvm.Cond.and given_1 narrow_1).before args s = true from hpre))
  obtain ⟨g1, g2⟩ := and_e hg
  obtain ⟨g3, g4⟩ := and_e g2
  obtain ⟨w0, w1, rfl⟩ : ∃ w0 w1 : Value, args = #[w0, w1] := by
    have hs : args.size = 2 := by simpa [Cond.value, given_1] using g1
    obtain ⟨L⟩ := args
    match L, hs with
    | [w0, w1], _ => exact ⟨w0, w1, rfl⟩
  have hw := fun d (hd : d ∈ tables_1) => atoms_spec (ws := Jvm.Cond.code x code maxLocals ret :: tables_1) hat d (List.mem_cons_of_mem _ hd)
  have hfit : Fit s := fun {y c} hc i hi => by
    obtain ⟨ha, rfl⟩ := Array.getElem?_eq_some_iff.mp hc
    have q := List.all_eq_true.mp ((Array.all_eq_true_iff_forall_mem.mp hF) _ (Array.getElem_mem ha)) i (List.mem_range.mpr hi)
    simpa [Array.getElem?_eq_getElem hi] using q
  obtain ⟨i0, ei0⟩ := is_v g3
  obtain rfl : w0 = (.int i0) := Option.some.inj ei0
  obtain ⟨i1, ei1⟩ := is_v g4
  obtain rfl : w1 = (.int i1) := Option.some.inj ei1
  obtain ⟨n, o, h1, h2, h3, _, L, rfl, ⟨rfl, N⟩, hq⟩ := rm0 l s _ hw tables_1 i0 i1  s.heap s.heap.size (Nat.le_refl _)  p e ha hc hk s m _ below hf ((Spec.applies_iff_loose hf).mp happ).1 ⟨rfl, State.Warmed39.refl s, rfl⟩ trivial
  refine ⟨n, _, h1, h2, h3, hpost _ _ _ _ _ _ ⟨Cond.after_iff.mpr rfl, Cond.after_iff.mpr (eq_i res_at (Term.int_eval (1)) rfl), trivial⟩ ⟨hq.1, hq.2.1, (hq.2.2.sift fun y hy => Or.inr (N y hy)).mono (by decide) (by decide)⟩⟩
theorem main_1_1 : Claimed_1_1 := comes_1 fun _ _ _ _ _ _ h hF => ⟨h.1, hF⟩
theorem main_1_2 : Claimed_1_2 := comes_1 fun _ _ _ _ _ _ h hF => ⟨h.2.1, hF⟩
end Jvm.Pilot.@@N@@
namespace Jvm.Pilot.@@N@@
open Jvm Jvm.ClassFile Sem Op Lib Jvm.Free Jvm.Stand Jvm.Pilot.@@N@@.Jvm.D
/-! MADE BY PROGRAM (witnessworld.py) out of the Statement's table words and the real class files: 9 classes; the members and pool entries that the words name. The judged class is class 1, her method 3. -/
namespace start1
open Jvm.ClassFile
def u (s : String) : CpInfo := .utf8 (stringToUtf16 s)
/-- a pool by its gaps: so many unusable entries, then the entry; so many at the end -/
def gap : Nat → List CpInfo → List CpInfo
  | 0, r => r
  | n + 1, r => .unusable :: gap n r
def poolList (es : List (Nat × CpInfo)) (last : Nat) : List CpInfo := es.foldr (fun e r => gap e.1 (e.2 :: r)) (gap last [])
def pool (es : List (Nat × CpInfo)) (last : Nat) : Array CpInfo := ⟨poolList es last⟩
def fileOf (pool : Array CpInfo) (this : Nat) (attrs : Array Attribute := #[]) (ms : Array MethodInfo := #[]) (fl : Nat := 33) (sup : Nat := 0) (ifs : Array Nat := #[]) (fds : Array FieldInfo := #[]) : ClassFile where
  minorVersion := 0
  majorVersion := 65
  constantPool := pool
  accessFlags := fl
  thisClass := this
  superClass := sup
  interfaces := ifs
  fields := fds
  methods := ms
  attributes := attrs
def plain (name : String) (sup : Option ClassId) : Class where
  name := name
  kind := .ordinary
  loader := none
  accessFlags := 33
  super := sup
  interfaces := #[]
  cf := none
  fields := #[]
  methods := #[]
  instanceTypes := #[]
  staticTypes := #[]
  resolved := #[]
  callSites := []
  init := .initialized
  statics := none
  mirror := none

def pool0 : Array CpInfo := pool [(5, u "<init>"), (0, u "()V"), (1, .class_ 10), (1, u "java/lang/Object")] 113

def k0c0 : Code := { maxStack := 0, maxLocals := 1, code := object_method_1_code, exceptionTable := #[], attributes := #[] }
def k0m0 : Method := { name := "<init>", desc := "()V", sig := { parameters := [], returnType := none }, accessFlags := 1, code := some k0c0 }
/-- java/lang/Object -/
def k0 : Class := { plain "java/lang/Object" none with
  accessFlags := 33
  interfaces := #[]
  cf := some (fileOf pool0 8 #[] #[{ accessFlags := 1, nameIndex := 5, descriptorIndex := 6, attributes := #[] }] 33 0 #[] #[])
  fields := #[]
  methods := #[k0m0]
  instanceTypes := #[]
  staticTypes := #[]
  resolved := Array.replicate 124 none
  statics := none }

def pool1 : Array CpInfo := pool [(2, .class_ 4), (1, u "java/lang/Object"), (0, u "<init>"), (0, u "()V"), (0, .methodref 8 9), (0, .class_ 10), (0, .nameAndType 11 12), (0, u "com/example/affordance/affordance/BodyHeldPinLaw"), (0, u "part"), (0, u "(II)B"), (0, .integer 2147483647), (0, .methodref 15 16), (0, .class_ 17), (0, .nameAndType 18 19), (0, u "com/example/affordance/affordance/Body"), (0, u "held"), (0, u "([B)Lcom/example/affordance/affordance/Body;"), (0, .methodref 15 21), (0, .nameAndType 22 23), (0, u "length"), (0, u "()J"), (0, .methodref 15 25), (0, .nameAndType 26 27), (0, u "bytes"), (0, u "()[B"), (0, .methodref 8 29), (0, .nameAndType 30 31), (0, u "same"), (0, u "([BIII)Z"), (3, u "law"), (0, u "(II)Z")] 4

def k1m0 : Method := { name := "<init>", desc := "()V", sig := { parameters := [], returnType := none }, accessFlags := 1, code := none }
def k1c1 : Code := { maxStack := 3, maxLocals := 2, code := method_2_code, exceptionTable := #[], attributes := #[] }
def k1m1 : Method := { name := "part", desc := "(II)B", sig := { parameters := [.int, .int], returnType := some .byte }, accessFlags := 10, code := some k1c1 }
def k1c2 : Code := { maxStack := 3, maxLocals := 4, code := method_3_code, exceptionTable := #[], attributes := #[] }
def k1m2 : Method := { name := "same", desc := "([BIII)Z", sig := { parameters := [(.array .byte), .int, .int, .int], returnType := some .boolean }, accessFlags := 10, code := some k1c2 }
def k1c3 : Code := { maxStack := 4, maxLocals := 6, code := code, exceptionTable := #[], attributes := #[] }
def k1m3 : Method := { name := "law", desc := "(II)Z", sig := { parameters := [.int, .int], returnType := some .boolean }, accessFlags := 9, code := some k1c3 }
/-- com/example/affordance/affordance/BodyHeldPinLaw -/
def k1 : Class := { plain "com/example/affordance/affordance/BodyHeldPinLaw" (some 0) with
  accessFlags := 49
  interfaces := #[]
  cf := some (fileOf pool1 8 #[] #[{ accessFlags := 1, nameIndex := 5, descriptorIndex := 6, attributes := #[] }, { accessFlags := 10, nameIndex := 11, descriptorIndex := 12, attributes := #[] }, { accessFlags := 10, nameIndex := 30, descriptorIndex := 31, attributes := #[] }, { accessFlags := 9, nameIndex := 35, descriptorIndex := 36, attributes := #[] }] 49 2 #[] #[])
  fields := #[]
  methods := #[k1m0, k1m1, k1m2, k1m3]
  instanceTypes := #[]
  staticTypes := #[]
  resolved := Array.replicate 41 none
  statics := none }

def pool2 : Array CpInfo := pool [(1, .methodref 2 3), (0, .class_ 4), (0, .nameAndType 5 6), (0, u "java/lang/Object"), (0, u "<init>"), (0, u "()V"), (0, .fieldref 8 9), (0, .class_ 10), (0, .nameAndType 11 12), (0, u "com/example/affordance/affordance/Body"), (0, u "bytes"), (0, u "[B"), (0, .fieldref 8 14), (0, .nameAndType 15 16), (0, u "source"), (0, u "Lcom/example/affordance/affordance/Body$Source;"), (0, .fieldref 8 18), (0, .nameAndType 19 20), (0, u "length"), (0, u "J"), (0, .fieldref 8 22), (0, .nameAndType 23 20), (0, u "heldBytes"), (0, .fieldref 8 25), (0, .nameAndType 26 12), (0, u "digest"), (2, .long 9223372036854775807), (1, .methodref 8 32), (0, .nameAndType 5 33), (0, u "([BLcom/example/affordance/affordance/Body$Source;JJ[B)V"), (0, .class_ 35), (0, u "com/example/affordance/affordance/Body$Tally"), (4, .class_ 42), (1, u "com/example/affordance/affordance/Body$Source"), (11, u "held"), (6, u "()[B"), (42, .class_ 105), (0, u "com/example/affordance/affordance/Body$Counted"), (7, .class_ 114), (0, u "com/example/affordance/affordance/Body$Gzip"), (7, u "CODER_BUFFER_BYTES"), (0, u "I"), (4, u "([B)Lcom/example/affordance/affordance/Body;"), (4, u "()J")] 42

def k2c0 : Code := { maxStack := 3, maxLocals := 8, code := prog_4_method_1_code, exceptionTable := #[], attributes := #[] }
def k2m0 : Method := { name := "<init>", desc := "([BLcom/example/affordance/affordance/Body$Source;JJ[B)V", sig := { parameters := [(.array .byte), (.object "com/example/affordance/affordance/Body$Source"), .long, .long, (.array .byte)], returnType := none }, accessFlags := 2, code := some k2c0 }
def k2c1 : Code := { maxStack := 9, maxLocals := 1, code := prog_4_method_2_code, exceptionTable := #[], attributes := #[] }
def k2m1 : Method := { name := "held", desc := "([B)Lcom/example/affordance/affordance/Body;", sig := { parameters := [(.array .byte)], returnType := some (.object "com/example/affordance/affordance/Body") }, accessFlags := 9, code := some k2c1 }
def k2c2 : Code := { maxStack := 3, maxLocals := 1, code := prog_4_method_6_code, exceptionTable := #[], attributes := #[] }
def k2m2 : Method := { name := "bytes", desc := "()[B", sig := { parameters := [], returnType := some (.array .byte) }, accessFlags := 1, code := some k2c2 }
def k2c3 : Code := { maxStack := 2, maxLocals := 1, code := prog_4_method_7_code, exceptionTable := #[], attributes := #[] }
def k2m3 : Method := { name := "length", desc := "()J", sig := { parameters := [], returnType := some .long }, accessFlags := 1, code := some k2c3 }
/-- com/example/affordance/affordance/Body -/
def k2 : Class := { plain "com/example/affordance/affordance/Body" (some 0) with
  accessFlags := 33
  interfaces := #[]
  cf := some (fileOf pool2 8 #[.nestMembers #[104, 34, 113, 40]] #[{ accessFlags := 2, nameIndex := 5, descriptorIndex := 33, attributes := #[] }, { accessFlags := 9, nameIndex := 54, descriptorIndex := 128, attributes := #[] }, { accessFlags := 1, nameIndex := 11, descriptorIndex := 61, attributes := #[] }, { accessFlags := 1, nameIndex := 19, descriptorIndex := 133, attributes := #[] }] 33 2 #[] #[{ accessFlags := 26, nameIndex := 122, descriptorIndex := 123, attributes := #[] }, { accessFlags := 18, nameIndex := 11, descriptorIndex := 12, attributes := #[] }, { accessFlags := 18, nameIndex := 15, descriptorIndex := 16, attributes := #[] }, { accessFlags := 18, nameIndex := 19, descriptorIndex := 20, attributes := #[] }, { accessFlags := 18, nameIndex := 23, descriptorIndex := 20, attributes := #[] }, { accessFlags := 2, nameIndex := 26, descriptorIndex := 12, attributes := #[] }])
  fields := #[{ name := "CODER_BUFFER_BYTES", type := .int, accessFlags := 26, slot := 0, constantValue := 0 }, { name := "bytes", type := (.array .byte), accessFlags := 18, slot := 0, constantValue := 0 }, { name := "source", type := (.object "com/example/affordance/affordance/Body$Source"), accessFlags := 18, slot := 1, constantValue := 0 }, { name := "length", type := .long, accessFlags := 18, slot := 2, constantValue := 0 }, { name := "heldBytes", type := .long, accessFlags := 18, slot := 3, constantValue := 0 }, { name := "digest", type := (.array .byte), accessFlags := 2, slot := 4, constantValue := 0 }]
  methods := #[k2m0, k2m1, k2m2, k2m3]
  instanceTypes := #[(.array .byte), (.object "com/example/affordance/affordance/Body$Source"), .long, .long, (.array .byte)]
  staticTypes := #[.int]
  resolved := Array.replicate 176 none
  statics := none }

def pool3 : Array CpInfo := pool [(1, u "java/lang/Cloneable"), (0, .class_ 1), (0, u "java/lang/Object"), (0, .class_ 3)] 3

/-- java/lang/Cloneable -/
def k3 : Class := { plain "java/lang/Cloneable" (some 0) with
  accessFlags := 1537
  interfaces := #[]
  cf := some (fileOf pool3 2 #[] #[] 1537 4 #[] #[])
  fields := #[]
  methods := #[]
  instanceTypes := #[]
  staticTypes := #[]
  resolved := Array.replicate 8 none
  statics := none }

def pool4 : Array CpInfo := pool [(1, u "java/io/Serializable"), (0, .class_ 1), (0, u "java/lang/Object"), (0, .class_ 3)] 3

/-- java/io/Serializable -/
def k4 : Class := { plain "java/io/Serializable" (some 0) with
  accessFlags := 1537
  interfaces := #[]
  cf := some (fileOf pool4 2 #[] #[] 1537 4 #[] #[])
  fields := #[]
  methods := #[]
  instanceTypes := #[]
  staticTypes := #[]
  resolved := Array.replicate 8 none
  statics := none }

/-- the primitive byte -/
def k5 : Class := { plain "byte" none with kind := .primitive 'B', accessFlags := 0x411 }
/-- [B -/
def k6 : Class := { plain "[B" (some 0) with kind := .array 5 .byte, interfaces := #[3, 4], accessFlags := 1041 }

/-- the primitive int -/
def k7 : Class := { plain "int" none with kind := .primitive 'I', accessFlags := 0x411 }
/-- [I -/
def k8 : Class := { plain "[I" (some 0) with kind := .array 7 .int, interfaces := #[3, 4], accessFlags := 1041 }

def heap : Heap := #[]
def classes : Array Class := #[k0, k1, k2, k3, k4, k5, k6, k7, k8]
def interned : List (Array UInt16 × Addr) := []
def slotsUsed : Nat := 0
def theMethod : MethodId := ⟨1, 3⟩
def args0 : Array Value := #[.int 9, .int 77]
def aboutOver (below : List Frame) : State where
  vm := { classes := classes, interned := interned.toArray }
  heap := heap
  slotsUsed := slotsUsed
  threads := #[{ frames := .invoking theMethod args0 :: below }]
def below0 : List Frame := [.native { method := ⟨0, 0⟩, args := #[] }]
def about1 : State := aboutOver below0
def p0 : Program := .bare "" "" ""
def e0 : Env := launch0.env 0 0 0
theorem w_frames : about1.frames = Frame.invoking theMethod args0 :: below0 := rfl
set_option maxRecDepth 65536 in
theorem w_args : argsFit about1.vm theMethod args0 = true := by decide +kernel
set_option maxRecDepth 65536 in
theorem w_heap : heapFits about1 = true := by decide +kernel
set_option maxRecDepth 65536 in
theorem w_runnable : about1.curStatus? = some .runnable := by decide +kernel
set_option maxRecDepth 65536 in
theorem w_alone : about1.alone = true := by decide +kernel
set_option maxRecDepth 65536 in
theorem w_named : about1.methodNamed? x = some theMethod := by decide +kernel
set_option maxRecDepth 65536 in
theorem w_hears : about1.hears theMethod below0 = true := by decide +kernel
set_option maxRecDepth 65536 in
theorem w_ripe : about1.ripe theMethod args0 below0 = true := by decide +kernel
theorem w_running : about1.status = .running := rfl
set_option maxRecDepth 65536 in
theorem w_room : about1.hasRoom e0.platform room_1 = true :=
  launch0.hasRoom_least _ room_1 (by decide +kernel) (by decide +kernel) (by decide +kernel) (by decide +kernel) (by decide +kernel) (by decide +kernel)
theorem allAtoms_all (ts : List Jvm.Cond) (a : Array Jvm.Value) (st : Jvm.State) : (allAtoms ts).before a st = ts.all (fun c => c.before a st) := by
  induction ts with
  | nil => rfl
  | cons c t ih =>
    show (Jvm.Cond.and c (allAtoms t)).before a st = _
    rw [Jvm.Cond.before_and, ih, List.all_cons]
def words1 : List Jvm.Cond := Jvm.Cond.code x code maxLocals ret :: tables_1
/-- a 'code' word, met by the world's own term for the bytes: nothing is compared byte by byte -/
theorem code_word {y : MethodName} {bytes : ByteArray} {mx : Nat} {rt : Option FieldType} {a : Array Value} {s : State} {m : MethodId} {meth : Method} {c : Code} (h1 : s.methodNamed? y = some m) (h2 : s.vm.method? m = some meth) (h3 : meth.code = some c) (h4 : c.code = bytes)
    (h5 : (c.maxLocals == mx && c.exceptionTable.isEmpty && decide (c.maxStack ≤ mostOperands) && decide (meth.sig.returnType = rt) && !meth.locks && decide (parseMethodDescriptor y.desc = some meth.sig)) = true) : (Jvm.Cond.code y bytes mx rt).before a s = true := by
  simp only [Bool.and_eq_true, beq_iff_eq, Bool.not_eq_true', decide_eq_true_eq] at h5
  obtain ⟨⟨⟨⟨⟨g1, g2⟩, g3⟩, g4⟩, g5⟩, g6⟩ := h5
  simp [Cond.before, Cond.holds, Cond.value, h1, h2, h3, h4, g1, g2, g3, g4, g5, g6]
def isCode : Jvm.Cond → Bool
  | .code _ _ _ _ => true
  | _ => false
theorem all_split {L : List Jvm.Cond} {P : Jvm.Cond → Bool} (h1 : L.all (fun c => isCode c || P c) = true) (h2 : ∀ c ∈ L.filter isCode, P c = true) : L.all P = true := by
  refine List.all_eq_true.mpr fun c hc => ?_
  have h := List.all_eq_true.mp h1 c hc
  rcases Bool.eq_false_or_eq_true (isCode c) with hi | hi
  · exact h2 c (List.mem_filter.mpr ⟨hc, hi⟩)
  · simpa [hi] using h
set_option maxRecDepth 65536 in
theorem w_c0 : (Jvm.Cond.code x code maxLocals ret).before args0 about1 = true := code_word (m := ⟨1, 3⟩) (meth := k1m3) (c := k1c3) (by decide +kernel) rfl rfl rfl (by decide +kernel)
set_option maxRecDepth 65536 in
theorem w_c1 : (Jvm.Cond.code ({ cls := "com/example/affordance/affordance/Body", name := "held", desc := "([B)Lcom/example/affordance/affordance/Body;" } : Jvm.MethodName) prog_4_method_2_code (1 : Nat) (Option.some (Jvm.ClassFile.FieldType.object "com/example/affordance/affordance/Body"))).before args0 about1 = true := code_word (m := ⟨2, 1⟩) (meth := k2m1) (c := k2c1) (by decide +kernel) rfl rfl rfl (by decide +kernel)
set_option maxRecDepth 65536 in
theorem w_c2 : (Jvm.Cond.code ({ cls := "com/example/affordance/affordance/Body", name := "<init>", desc := "([BLcom/example/affordance/affordance/Body$Source;JJ[B)V" } : Jvm.MethodName) prog_4_method_1_code (8 : Nat) (Option.none : Option Jvm.ClassFile.FieldType)).before args0 about1 = true := code_word (m := ⟨2, 0⟩) (meth := k2m0) (c := k2c0) (by decide +kernel) rfl rfl rfl (by decide +kernel)
set_option maxRecDepth 65536 in
theorem w_c3 : (Jvm.Cond.code ({ cls := "java/lang/Object", name := "<init>", desc := "()V" } : Jvm.MethodName) object_method_1_code (1 : Nat) (Option.none : Option Jvm.ClassFile.FieldType)).before args0 about1 = true := code_word (m := ⟨0, 0⟩) (meth := k0m0) (c := k0c0) (by decide +kernel) rfl rfl rfl (by decide +kernel)
set_option maxRecDepth 65536 in
theorem w_c4 : (Jvm.Cond.code ({ cls := "com/example/affordance/affordance/Body", name := "length", desc := "()J" } : Jvm.MethodName) prog_4_method_7_code (1 : Nat) (Option.some Jvm.ClassFile.FieldType.long)).before args0 about1 = true := code_word (m := ⟨2, 3⟩) (meth := k2m3) (c := k2c3) (by decide +kernel) rfl rfl rfl (by decide +kernel)
set_option maxRecDepth 65536 in
theorem w_c5 : (Jvm.Cond.code ({ cls := "com/example/affordance/affordance/Body", name := "bytes", desc := "()[B" } : Jvm.MethodName) prog_4_method_6_code (1 : Nat) (Option.some (Jvm.ClassFile.FieldType.array Jvm.ClassFile.FieldType.byte))).before args0 about1 = true := code_word (m := ⟨2, 2⟩) (meth := k2m2) (c := k2c2) (by decide +kernel) rfl rfl rfl (by decide +kernel)
set_option maxRecDepth 65536 in
theorem w_c6 : (Jvm.Cond.code ({ cls := "com/example/affordance/affordance/BodyHeldPinLaw", name := "same", desc := "([BIII)Z" } : Jvm.MethodName) method_3_code (4 : Nat) (Option.some Jvm.ClassFile.FieldType.boolean)).before args0 about1 = true := code_word (m := ⟨1, 2⟩) (meth := k1m2) (c := k1c2) (by decide +kernel) rfl rfl rfl (by decide +kernel)
set_option maxRecDepth 65536 in
theorem w_c7 : (Jvm.Cond.code ({ cls := "com/example/affordance/affordance/BodyHeldPinLaw", name := "part", desc := "(II)B" } : Jvm.MethodName) method_2_code (2 : Nat) (Option.some Jvm.ClassFile.FieldType.byte)).before args0 about1 = true := code_word (m := ⟨1, 1⟩) (meth := k1m1) (c := k1c1) (by decide +kernel) rfl rfl rfl (by decide +kernel)
def codes1 : List Jvm.Cond := [Jvm.Cond.code x code maxLocals ret, Jvm.Cond.code ({ cls := "com/example/affordance/affordance/Body", name := "held", desc := "([B)Lcom/example/affordance/affordance/Body;" } : Jvm.MethodName) prog_4_method_2_code (1 : Nat) (Option.some (Jvm.ClassFile.FieldType.object "com/example/affordance/affordance/Body")), Jvm.Cond.code ({ cls := "com/example/affordance/affordance/Body", name := "<init>", desc := "([BLcom/example/affordance/affordance/Body$Source;JJ[B)V" } : Jvm.MethodName) prog_4_method_1_code (8 : Nat) (Option.none : Option Jvm.ClassFile.FieldType), Jvm.Cond.code ({ cls := "java/lang/Object", name := "<init>", desc := "()V" } : Jvm.MethodName) object_method_1_code (1 : Nat) (Option.none : Option Jvm.ClassFile.FieldType), Jvm.Cond.code ({ cls := "com/example/affordance/affordance/Body", name := "length", desc := "()J" } : Jvm.MethodName) prog_4_method_7_code (1 : Nat) (Option.some Jvm.ClassFile.FieldType.long), Jvm.Cond.code ({ cls := "com/example/affordance/affordance/Body", name := "bytes", desc := "()[B" } : Jvm.MethodName) prog_4_method_6_code (1 : Nat) (Option.some (Jvm.ClassFile.FieldType.array Jvm.ClassFile.FieldType.byte)), Jvm.Cond.code ({ cls := "com/example/affordance/affordance/BodyHeldPinLaw", name := "same", desc := "([BIII)Z" } : Jvm.MethodName) method_3_code (4 : Nat) (Option.some Jvm.ClassFile.FieldType.boolean), Jvm.Cond.code ({ cls := "com/example/affordance/affordance/BodyHeldPinLaw", name := "part", desc := "(II)B" } : Jvm.MethodName) method_2_code (2 : Nat) (Option.some Jvm.ClassFile.FieldType.byte)]
set_option maxRecDepth 65536 in
theorem codes_eq : words1.filter isCode = codes1 := rfl
theorem w_codes : ∀ c ∈ words1.filter isCode, c.before args0 about1 = true := by
  rw [codes_eq]
  intro c hc
  simp only [codes1, List.mem_cons, List.not_mem_nil, or_false] at hc
  rcases hc with rfl | rfl | rfl | rfl | rfl | rfl | rfl | rfl
  · exact w_c0
  · exact w_c1
  · exact w_c2
  · exact w_c3
  · exact w_c4
  · exact w_c5
  · exact w_c6
  · exact w_c7
set_option maxRecDepth 65536 in
theorem w_t1 : (words1.take 24).all (fun c => isCode c || c.before args0 about1) = true := by decide +kernel
set_option maxRecDepth 65536 in
theorem w_t2 : (words1.drop 24).all (fun c => isCode c || c.before args0 about1) = true := by decide +kernel
theorem w_tables : (allAtoms (Jvm.Cond.code x code maxLocals ret :: tables_1)).before args0 about1 = true := by
  rw [allAtoms_all]
  show words1.all (fun c => c.before args0 about1) = true
  refine all_split ?_ w_codes
  rw [← List.take_append_drop 24 words1, List.all_append, w_t1, w_t2]
  rfl
set_option maxRecDepth 65536 in
theorem w_case : (Jvm.Cond.and given_1 narrow_1).before args0 about1 = true := by decide +kernel
theorem w_applies : (headSpec (Jvm.Cond.code x code maxLocals ret :: tables_1) room_1).applies x e0.platform about1 = true :=
  (Spec.applies_iff w_frames).mpr ⟨w_running, w_runnable, w_alone, w_named, w_hears, w_ripe, w_room, w_tables⟩
theorem atStart : AtStart classFile x code maxLocals ret World_1 tables_1 room_1 Calls_1 rest_1 Pre_1 launch0 p0 e0 about1 theMethod args0 below0 :=
  ⟨lists_1, trivial, launch0.admits_env _ _ _, launch0.least_env, fairChoices_fair.cas, fairChoices_fair.clock, w_frames, w_args, w_heap, w_applies, trivial, trivial, w_case⟩
end start1
theorem witness_1 : WitnessClaimed_1 := ⟨start1.p0, start1.e0, start1.about1, start1.theMethod, start1.args0, start1.below0, start1.atStart⟩
end Jvm.Pilot.@@N@@
