import JvmDerived
import JvmDerived.Pilot.@@N@@Statement
import JvmDerived.Pilot.@@N@@Code
set_option linter.unusedVariables false
set_option linter.unusedSimpArgs false
namespace Jvm.Pilot.@@N@@
open Jvm Jvm.ClassFile Sem Op Lib Jvm.Free Jvm.Stand Jvm.LawKit Jvm.RoadKit Bundle Jvm.Pilot.@@N@@.Jvm.D
def own_e (w w2 n n2 d d2 : Int64) : Int32 := if lcmpW w w2 = 0 then (if lcmpW n n2 = 0 then (if lcmpW d d2 = 0 then 1 else 0) else 0) else 0
theorem own_sym (x y : Int64) : (lcmpW x y = 0) = (lcmpW y x = 0) := by
  rw [eq_iff_iff, lw_eq, lw_eq]; exact eq_comm
theorem own_esym (w w2 n n2 d d2 : Int64) : own_e w2 w n2 n d2 d = own_e w w2 n n2 d d2 := by
  unfold own_e
  simp only [own_sym w2 w, own_sym n2 n, own_sym d2 d]
theorem own_eself (w n d : Int64) : own_e w w n n d d = 1 := by
  unfold own_e
  simp [lw_eq]
def own_pick (c : Int32) (x y : Int64) : Int64 := if c = 0 then x else y
theorem own_no {Z : State} {a0 : Array Value} (hw : ∀ d ∈ tables_1, d.before a0 Z = true) : ∃ c t, Z.vm.findClass "java/lang/Long" = some c ∧ Z.vm.findClass "com/example/slackwise/slackwise/workload/ExactMb" = some t ∧ Z.vm.assignable c t = false := by
  have hch : ∀ w ∈ Jvm.Cond.chainWords ["java/lang/Long", "java/lang/Number", "java/lang/Object"], w.before a0 Z = true := by
    intro w h
    simp only [Jvm.Cond.chainWords, List.mem_cons, List.not_mem_nil, or_false] at h
    rcases h with rfl | rfl | rfl
    · exact (hw _ (List.mem_of_getElem? (i := 30) rfl))
    · exact (hw _ (List.mem_of_getElem? (i := 31) rfl))
    · exact (hw _ (List.mem_of_getElem? (i := 32) rfl))
  obtain ⟨t, kt, g1, g2, g3, g4, -⟩ := Jvm.Cond.instantiable_spec (show (Jvm.Cond.instantiable "com/example/slackwise/slackwise/workload/ExactMb" 3).before a0 Z = true from (hw _ (List.mem_of_getElem? (i := 1) rfl)))
  obtain ⟨c, k, h1, h2, h3, h4⟩ := Jvm.Cond.chain_head hch
  simp only [Bool.or_eq_false_iff] at g4
  exact ⟨c, t, h1, g1, Jvm.Vm.notAssignable_of_chain h1 g1 g2 g3 g4.1 hch (by decide)⟩
theorem d1_0 : decode prog_168_method_1_code 0 = .ok (.aload_n 0, 1) := by decide +kernel
theorem d1_1 : decode prog_168_method_1_code 1 = .ok (.invokespecial 1, 3) := by decide +kernel
theorem d1_4 : decode prog_168_method_1_code 4 = .ok (.aload_n 0, 1) := by decide +kernel
theorem d1_5 : decode prog_168_method_1_code 5 = .ok (.lload_n 1, 1) := by decide +kernel
theorem d1_6 : decode prog_168_method_1_code 6 = .ok (.putfield 7, 3) := by decide +kernel
theorem d1_9 : decode prog_168_method_1_code 9 = .ok (.aload_n 0, 1) := by decide +kernel
theorem d1_10 : decode prog_168_method_1_code 10 = .ok (.lload_n 3, 1) := by decide +kernel
theorem d1_11 : decode prog_168_method_1_code 11 = .ok (.putfield 13, 3) := by decide +kernel
theorem d1_14 : decode prog_168_method_1_code 14 = .ok (.aload_n 0, 1) := by decide +kernel
theorem d1_15 : decode prog_168_method_1_code 15 = .ok (.lload 5, 2) := by decide +kernel
theorem d1_17 : decode prog_168_method_1_code 17 = .ok (.putfield 16, 3) := by decide +kernel
theorem d1_20 : decode prog_168_method_1_code 20 = .ok (.return_, 1) := by decide +kernel
theorem pn_com_example_slackwise_slackwise_workload_ExactMb : plainName "com/example/slackwise/slackwise/workload/ExactMb" = true := by first | (simp [plainName, overriddenIn]; done) | decide +kernel
theorem ef_rm1 (m : MethodId) (a0 : Addr) (x1 : Int64) (x2 : Int64) (x3 : Int64) : entryFrame m #[(.ref a0), (.long x1), (.long x2), (.long x3)] 7 = (mkF m 0 #[.val (.ref a0), .val (.long x1), .second, .val (.long x2), .second, .val (.long x3), .second] []) := by first | (simp [entryFrame, mkF, argsToLocals, Value.category]; done) | rfl
def Q1 (Z : State) (a0 : Addr) (x1 : Int64) (x2 : Int64) (x3 : Int64) (u_whole : Value) (u_numerator : Value) (u_denominator : Value) (h0 : Heap) (n0 : Nat) (v : Option Value) (h : Heap) (L : List Loc) : Prop := v = none ∧ Fr n0 L ∧ Keep h0 h [a0] ∧ Exa Z h a0 "com/example/slackwise/slackwise/workload/ExactMb" ∧ Fld Z h a0 "com/example/slackwise/slackwise/workload/ExactMb" "whole" "J" (.long x1) ∧ Fld Z h a0 "com/example/slackwise/slackwise/workload/ExactMb" "numerator" "J" (.long x2) ∧ Fld Z h a0 "com/example/slackwise/slackwise/workload/ExactMb" "denominator" "J" (.long x3)
set_option maxRecDepth 65536 in
set_option maxHeartbeats 40000000 in
theorem rm1 (l : Launch) (Z : State) (aa : Array Value) (hw : ∀ d ∈ tables_1, d.before aa Z = true) (ws : List Jvm.Cond) (a0 : Addr) (x1 : Int64) (x2 : Int64) (x3 : Int64) (u_whole : Value) (u_numerator : Value) (u_denominator : Value) (h0 : Heap) (n0 : Nat) (Z0 : n0 ≤ h0.size) (gn : n0 ≤ a0) (E0 : Exa Z h0 a0 "com/example/slackwise/slackwise/workload/ExactMb") (F_whole : Fld Z h0 a0 "com/example/slackwise/slackwise/workload/ExactMb" "whole" "J" u_whole) (F_numerator : Fld Z h0 a0 "com/example/slackwise/slackwise/workload/ExactMb" "numerator" "J" u_numerator) (F_denominator : Fld Z h0 a0 "com/example/slackwise/slackwise/workload/ExactMb" "denominator" "J" u_denominator) :
    MetFree l (⟨"com/example/slackwise/slackwise/workload/ExactMb", "<init>", "(JJJ)V"⟩ : MethodName) (head1 (Jvm.Cond.code (⟨"com/example/slackwise/slackwise/workload/ExactMb", "<init>", "(JJJ)V"⟩ : MethodName) prog_168_method_1_code 7 none :: ws) ({ frames := 1, cells := 0, slots := 0, locals := 12 } : Room)) (fun a U => a = #[(.ref a0), (.long x1), (.long x2), (.long x3)] ∧ Z.Warmed39 U.vm ∧ U.heap = h0) (fun _ _ _ _ _ => True) (fun _ U o U' => ∃ v L, o = .returned v ∧ Q1 Z a0 x1 x2 x3 u_whole u_numerator u_denominator h0 n0 v U'.heap L ∧ FrameEnd U o U' L ({ frames := 1, cells := 0, slots := 0, locals := 12 } : Room).cells ({ frames := 1, cells := 0, slots := 0, locals := 12 } : Room).slots) := by
  refine MetFree.of_bodySF (plainFor_of_name pn_com_example_slackwise_slackwise_workload_ExactMb) hisR ?_
  intro p e s m args below meth c s₁ Bd hml0 hP hK
  obtain ⟨rfl, hZ, hh⟩ := hP
  have hx := Bd.exec
  have hby := Bd.bytes
  have hml : c.maxLocals = 7 := hml0
  have hown : s.vm.findClass "com/example/slackwise/slackwise/workload/ExactMb" = some m.cls := findClass_of_methodNamed Bd.named
  have hnm := (name_of_methodNamed Bd.named Bd.method).1
  have X0 : Stand p l e ({ frames := 1, cells := 0, slots := 0, locals := 12 } : Room) s m #[(.ref a0), (.long x1), (.long x2), (.long x3)] below meth c s₁ [] 0 0 := Stand.of_body Bd
  have e0 : s₁.heap = h0 := by rw [← hh, Bd.state]; rfl
  have N0 := Fr.nil n0
  obtain ⟨G0, hG0⟩ : ∃ G, G = s₁.setTop (entryFrame m #[(.ref a0), (.long x1), (.long x2), (.long x3)] 7) := ⟨_, rfl⟩
  have K0 : ∀ t, Steps p.tables e below (s₁.setTop (mkF m 0 #[.val (.ref a0), .val (.long x1), .second, .val (.long x2), .second, .val (.long x3), .second] [])) t → Steps p.tables e below G0 t := fun t k => by rw [hG0]; exact castTop (ef_rm1 m a0 x1 x2 x3) k
  have KP1 := Keep.refl h0 [a0]
  have K2 : ∀ t, Steps p.tables e below (s₁.setTop (mkF m 1 #[.val (.ref a0), .val (.long x1), .second, .val (.long x2), .second, .val (.long x3), .second] [(.ref a0)])) t → Steps p.tables e below G0 t := by
    intro t kt
    refine K0 t ?_
    refine XS.aloadN X0.here hx rfl (hb hby d1_0) rfl rfl ?_
    show Steps p.tables e below (s₁.setTop (mkF m 1 #[.val (.ref a0), .val (.long x1), .second, .val (.long x2), .second, .val (.long x3), .second] [(.ref a0)])) _
    exact kt
  obtain ⟨T3, X3, e3, st3⟩ := initO X0 hx hZ hown (hw _ (List.mem_of_getElem? (i := 6) rfl)) (hw _ (List.mem_of_getElem? (i := 7) rfl)) (hw _ (List.mem_of_getElem? (i := 8) rfl)) e0 (g := (mkF m 1 #[.val (.ref a0), .val (.long x1), .second, .val (.long x2), .second, .val (.long x3), .second] [(.ref a0)])) rfl (by rw [hml]; rfl) rfl (hb hby d1_1) (by decide) (W := 0) (by show 2 * 0 + _ ≤ _; exact Nat.le_of_eq rfl) (by decide)
  have K3 : ∀ t, Steps p.tables e below (T3.setTop (mkF m 4 #[.val (.ref a0), .val (.long x1), .second, .val (.long x2), .second, .val (.long x3), .second] [])) t → Steps p.tables e below G0 t := fun t kt => K2 t (st3 _ kt)
  have K4 : ∀ t, Steps p.tables e below (T3.setTop (mkF m 6 #[.val (.ref a0), .val (.long x1), .second, .val (.long x2), .second, .val (.long x3), .second] [(.long x1), (.ref a0)])) t → Steps p.tables e below G0 t := by
    intro t kt
    refine K3 t ?_
    refine XS.aloadN X3.here hx rfl (hb hby d1_4) rfl rfl ?_
    show Steps p.tables e below (T3.setTop (mkF m 5 #[.val (.ref a0), .val (.long x1), .second, .val (.long x2), .second, .val (.long x3), .second] [(.ref a0)])) _
    refine XS.lloadN X3.here hx rfl (hb hby d1_5) rfl ?_
    show Steps p.tables e below (T3.setTop (mkF m 6 #[.val (.ref a0), .val (.long x1), .second, .val (.long x2), .second, .val (.long x3), .second] [(.long x1), (.ref a0)])) _
    exact kt
  obtain ⟨T5, h5, X5, e5, W5, st5⟩ := putF X3 hx hZ hown (host := "") (Or.inl (hw _ (List.mem_of_getElem? (i := 9) rfl))) Via.refl e3 F_whole E0 (Or.inr ⟨(hw _ (List.mem_of_getElem? (i := 10) rfl)), rfl, hnm⟩) (hw _ (List.mem_of_getElem? (i := 1) rfl)) (ty := .long) (by decide) rfl rfl (g := (mkF m 6 #[.val (.ref a0), .val (.long x1), .second, .val (.long x2), .second, .val (.long x3), .second] [(.long x1), (.ref a0)])) rfl rfl (hb hby d1_6)
  have K5 : ∀ t, Steps p.tables e below (T5.setTop (mkF m 9 #[.val (.ref a0), .val (.long x1), .second, .val (.long x2), .second, .val (.long x3), .second] [])) t → Steps p.tables e below G0 t := fun t kt => K4 t (st5 _ kt)
  have Fw5 := (F_whole).same W5
  have N5 := Fr.snoc X5 N0 gn
  have Z5 : n0 ≤ h5.size := Nat.le_trans Z0 (Keep.of_wr W5).1
  have KP5 := KP1.wr W5 (Or.inl (List.mem_of_getElem? (i := 0) rfl))
  have K6 : ∀ t, Steps p.tables e below (T5.setTop (mkF m 11 #[.val (.ref a0), .val (.long x1), .second, .val (.long x2), .second, .val (.long x3), .second] [(.long x2), (.ref a0)])) t → Steps p.tables e below G0 t := by
    intro t kt
    refine K5 t ?_
    refine XS.aloadN X5.here hx rfl (hb hby d1_9) rfl rfl ?_
    show Steps p.tables e below (T5.setTop (mkF m 10 #[.val (.ref a0), .val (.long x1), .second, .val (.long x2), .second, .val (.long x3), .second] [(.ref a0)])) _
    refine XS.lloadN X5.here hx rfl (hb hby d1_10) rfl ?_
    show Steps p.tables e below (T5.setTop (mkF m 11 #[.val (.ref a0), .val (.long x1), .second, .val (.long x2), .second, .val (.long x3), .second] [(.long x2), (.ref a0)])) _
    exact kt
  have f7 := (F_numerator.other W5 (Or.inr (slot_ne (Or.inr (hw _ (List.mem_of_getElem? (i := 12) rfl))) (Or.inr (hw _ (List.mem_of_getElem? (i := 10) rfl))) (by decide) (t := .long) (t' := .long) (by decide) (by decide))))
  have f8 := (E0.wr W5)
  obtain ⟨T9, h9, X9, e9, W9, st9⟩ := putF X5 hx hZ hown (host := "") (Or.inl (hw _ (List.mem_of_getElem? (i := 11) rfl))) Via.refl e5 f7 f8 (Or.inr ⟨(hw _ (List.mem_of_getElem? (i := 12) rfl)), rfl, hnm⟩) (hw _ (List.mem_of_getElem? (i := 1) rfl)) (ty := .long) (by decide) rfl rfl (g := (mkF m 11 #[.val (.ref a0), .val (.long x1), .second, .val (.long x2), .second, .val (.long x3), .second] [(.long x2), (.ref a0)])) rfl rfl (hb hby d1_11)
  have K9 : ∀ t, Steps p.tables e below (T9.setTop (mkF m 14 #[.val (.ref a0), .val (.long x1), .second, .val (.long x2), .second, .val (.long x3), .second] [])) t → Steps p.tables e below G0 t := fun t kt => K6 t (st9 _ kt)
  have Fw9 := (f7).same W9
  have N9 := Fr.snoc X9 N5 gn
  have Z9 : n0 ≤ h9.size := Nat.le_trans Z5 (Keep.of_wr W9).1
  have KP9 := KP5.wr W9 (Or.inl (List.mem_of_getElem? (i := 0) rfl))
  have K10 : ∀ t, Steps p.tables e below (T9.setTop (mkF m 17 #[.val (.ref a0), .val (.long x1), .second, .val (.long x2), .second, .val (.long x3), .second] [(.long x3), (.ref a0)])) t → Steps p.tables e below G0 t := by
    intro t kt
    refine K9 t ?_
    refine XS.aloadN X9.here hx rfl (hb hby d1_14) rfl rfl ?_
    show Steps p.tables e below (T9.setTop (mkF m 15 #[.val (.ref a0), .val (.long x1), .second, .val (.long x2), .second, .val (.long x3), .second] [(.ref a0)])) _
    refine XS.lload X9.here hx rfl (hb hby d1_15) rfl ?_
    show Steps p.tables e below (T9.setTop (mkF m 17 #[.val (.ref a0), .val (.long x1), .second, .val (.long x2), .second, .val (.long x3), .second] [(.long x3), (.ref a0)])) _
    exact kt
  have f11 := ((F_denominator.other W5 (Or.inr (slot_ne (Or.inr (hw _ (List.mem_of_getElem? (i := 14) rfl))) (Or.inr (hw _ (List.mem_of_getElem? (i := 10) rfl))) (by decide) (t := .long) (t' := .long) (by decide) (by decide)))).other W9 (Or.inr (slot_ne (Or.inr (hw _ (List.mem_of_getElem? (i := 14) rfl))) (Or.inr (hw _ (List.mem_of_getElem? (i := 12) rfl))) (by decide) (t := .long) (t' := .long) (by decide) (by decide))))
  have f12 := (f8.wr W9)
  obtain ⟨T13, h13, X13, e13, W13, st13⟩ := putF X9 hx hZ hown (host := "") (Or.inl (hw _ (List.mem_of_getElem? (i := 13) rfl))) Via.refl e9 f11 f12 (Or.inr ⟨(hw _ (List.mem_of_getElem? (i := 14) rfl)), rfl, hnm⟩) (hw _ (List.mem_of_getElem? (i := 1) rfl)) (ty := .long) (by decide) rfl rfl (g := (mkF m 17 #[.val (.ref a0), .val (.long x1), .second, .val (.long x2), .second, .val (.long x3), .second] [(.long x3), (.ref a0)])) rfl rfl (hb hby d1_17)
  have K13 : ∀ t, Steps p.tables e below (T13.setTop (mkF m 20 #[.val (.ref a0), .val (.long x1), .second, .val (.long x2), .second, .val (.long x3), .second] [])) t → Steps p.tables e below G0 t := fun t kt => K10 t (st13 _ kt)
  have Fw13 := (f11).same W13
  have N13 := Fr.snoc X13 N9 gn
  have Z13 : n0 ≤ h13.size := Nat.le_trans Z9 (Keep.of_wr W13).1
  have KP13 := KP9.wr W13 (Or.inl (List.mem_of_getElem? (i := 0) rfl))
  have f14 := (f12.wr W13)
  have f15 := ((Fw5.other W9 (Or.inr (slot_ne (Or.inr (hw _ (List.mem_of_getElem? (i := 10) rfl))) (Or.inr (hw _ (List.mem_of_getElem? (i := 12) rfl))) (by decide) (t := .long) (t' := .long) (by decide) (by decide)))).other W13 (Or.inr (slot_ne (Or.inr (hw _ (List.mem_of_getElem? (i := 10) rfl))) (Or.inr (hw _ (List.mem_of_getElem? (i := 14) rfl))) (by decide) (t := .long) (t' := .long) (by decide) (by decide))))
  have f16 := (Fw9.other W13 (Or.inr (slot_ne (Or.inr (hw _ (List.mem_of_getElem? (i := 12) rfl))) (Or.inr (hw _ (List.mem_of_getElem? (i := 14) rfl))) (by decide) (t := .long) (t' := .long) (by decide) (by decide))))
  obtain ⟨fs, hr, hrun, hended, hW, hsame⟩ := X13.leave (v := none) (fun _ => rfl)
  refine ⟨_, _, ?_, hrun, hended, _, _, rfl, ?_, ⟨_, rfl⟩, hW, hsame.mono (by decide) (by decide)⟩
  · rw [← hG0]
    refine K13 _ ?_
    exact X13.returnOut hx Bd.returns (hb hby d1_20) hr
  · show Q1 Z a0 x1 x2 x3 u_whole u_numerator u_denominator h0 n0 _ T13.heap _
    rw [e13]
    exact ⟨rfl, N13, KP13, f14, f15, f16, Fw13⟩
theorem d3_0 : decode prog_168_method_5_code 0 = .ok (.aload_n 1, 1) := by decide +kernel
theorem d3_1 : decode prog_168_method_5_code 1 = .ok (.instanceof 8, 3) := by decide +kernel
theorem d3_4 : decode prog_168_method_5_code 4 = .ok (.ifCond .ne 5, 3) := by decide +kernel
theorem d3_7 : decode prog_168_method_5_code 7 = .ok (.iconst 0, 1) := by decide +kernel
theorem d3_8 : decode prog_168_method_5_code 8 = .ok (.ireturn, 1) := by decide +kernel
theorem d3_9 : decode prog_168_method_5_code 9 = .ok (.aload_n 1, 1) := by decide +kernel
theorem d3_10 : decode prog_168_method_5_code 10 = .ok (.checkcast 8, 3) := by decide +kernel
theorem d3_13 : decode prog_168_method_5_code 13 = .ok (.astore_n 2, 1) := by decide +kernel
theorem d3_14 : decode prog_168_method_5_code 14 = .ok (.aload_n 0, 1) := by decide +kernel
theorem d3_15 : decode prog_168_method_5_code 15 = .ok (.getfield 7, 3) := by decide +kernel
theorem d3_18 : decode prog_168_method_5_code 18 = .ok (.aload_n 2, 1) := by decide +kernel
theorem d3_19 : decode prog_168_method_5_code 19 = .ok (.getfield 7, 3) := by decide +kernel
theorem d3_22 : decode prog_168_method_5_code 22 = .ok (.lcmp, 1) := by decide +kernel
theorem d3_23 : decode prog_168_method_5_code 23 = .ok (.ifCond .ne 31, 3) := by decide +kernel
theorem d3_26 : decode prog_168_method_5_code 26 = .ok (.aload_n 0, 1) := by decide +kernel
theorem d3_27 : decode prog_168_method_5_code 27 = .ok (.getfield 13, 3) := by decide +kernel
theorem d3_30 : decode prog_168_method_5_code 30 = .ok (.aload_n 2, 1) := by decide +kernel
theorem d3_31 : decode prog_168_method_5_code 31 = .ok (.getfield 13, 3) := by decide +kernel
theorem d3_34 : decode prog_168_method_5_code 34 = .ok (.lcmp, 1) := by decide +kernel
theorem d3_35 : decode prog_168_method_5_code 35 = .ok (.ifCond .ne 19, 3) := by decide +kernel
theorem d3_38 : decode prog_168_method_5_code 38 = .ok (.aload_n 0, 1) := by decide +kernel
theorem d3_39 : decode prog_168_method_5_code 39 = .ok (.getfield 16, 3) := by decide +kernel
theorem d3_42 : decode prog_168_method_5_code 42 = .ok (.aload_n 2, 1) := by decide +kernel
theorem d3_43 : decode prog_168_method_5_code 43 = .ok (.getfield 16, 3) := by decide +kernel
theorem d3_46 : decode prog_168_method_5_code 46 = .ok (.lcmp, 1) := by decide +kernel
theorem d3_47 : decode prog_168_method_5_code 47 = .ok (.ifCond .ne 7, 3) := by decide +kernel
theorem d3_50 : decode prog_168_method_5_code 50 = .ok (.iconst 1, 1) := by decide +kernel
theorem d3_51 : decode prog_168_method_5_code 51 = .ok (.goto 4, 3) := by decide +kernel
theorem d3_54 : decode prog_168_method_5_code 54 = .ok (.iconst 0, 1) := by decide +kernel
theorem d3_55 : decode prog_168_method_5_code 55 = .ok (.ireturn, 1) := by decide +kernel
theorem ef_rm3 (m : MethodId) (a0 : Addr) (a1 : Addr) : entryFrame m #[(.ref a0), (.ref a1)] 3 = (mkF m 0 #[.val (.ref a0), .val (.ref a1), .unset] []) := by first | (simp [entryFrame, mkF, argsToLocals, Value.category]; done) | rfl
def Q3 (Z : State) (a0 : Addr) (a1 : Addr) (u0 : Int64) (u1 : Int64) (u2 : Int64) (v0 : Int64) (v1 : Int64) (v2 : Int64) (h0 : Heap) (n0 : Nat) (v : Option Value) (h : Heap) (L : List Loc) : Prop := v = some (.int (own_e u0 v0 u1 v1 u2 v2)) ∧ Fr n0 L ∧ h = h0
set_option maxRecDepth 65536 in
set_option maxHeartbeats 40000000 in
theorem rm3 (l : Launch) (Z : State) (aa : Array Value) (hw : ∀ d ∈ tables_1, d.before aa Z = true) (ws : List Jvm.Cond) (a0 : Addr) (a1 : Addr) (u0 : Int64) (u1 : Int64) (u2 : Int64) (v0 : Int64) (v1 : Int64) (v2 : Int64) (h0 : Heap) (n0 : Nat) (Z0 : n0 ≤ h0.size) (Fu0 : Fld Z h0 a0 "com/example/slackwise/slackwise/workload/ExactMb" "whole" "J" (.long u0)) (Fu1 : Fld Z h0 a0 "com/example/slackwise/slackwise/workload/ExactMb" "numerator" "J" (.long u1)) (Fu2 : Fld Z h0 a0 "com/example/slackwise/slackwise/workload/ExactMb" "denominator" "J" (.long u2)) (Fv0 : Fld Z h0 a1 "com/example/slackwise/slackwise/workload/ExactMb" "whole" "J" (.long v0)) (Fv1 : Fld Z h0 a1 "com/example/slackwise/slackwise/workload/ExactMb" "numerator" "J" (.long v1)) (Fv2 : Fld Z h0 a1 "com/example/slackwise/slackwise/workload/ExactMb" "denominator" "J" (.long v2)) (E1 : Exa Z h0 a1 "com/example/slackwise/slackwise/workload/ExactMb") :
    MetFree l (⟨"com/example/slackwise/slackwise/workload/ExactMb", "equals", "(Ljava/lang/Object;)Z"⟩ : MethodName) (head1 (Jvm.Cond.code (⟨"com/example/slackwise/slackwise/workload/ExactMb", "equals", "(Ljava/lang/Object;)Z"⟩ : MethodName) prog_168_method_5_code 3 (some .boolean) :: ws) ({ frames := 0, cells := 0, slots := 0, locals := 0 } : Room)) (fun a U => a = #[(.ref a0), (.ref a1)] ∧ Z.Warmed39 U.vm ∧ U.heap = h0) (fun _ _ _ _ _ => True) (fun _ U o U' => ∃ v L, o = .returned v ∧ Q3 Z a0 a1 u0 u1 u2 v0 v1 v2 h0 n0 v U'.heap L ∧ FrameEnd U o U' L ({ frames := 0, cells := 0, slots := 0, locals := 0 } : Room).cells ({ frames := 0, cells := 0, slots := 0, locals := 0 } : Room).slots) := by
  refine MetFree.of_bodySF (plainFor_of_name pn_com_example_slackwise_slackwise_workload_ExactMb) hisR ?_
  intro p e s m args below meth c s₁ Bd hml0 hP hK
  obtain ⟨rfl, hZ, hh⟩ := hP
  have hx := Bd.exec
  have hby := Bd.bytes
  have hml : c.maxLocals = 3 := hml0
  have hown : s.vm.findClass "com/example/slackwise/slackwise/workload/ExactMb" = some m.cls := findClass_of_methodNamed Bd.named
  have hnm := (name_of_methodNamed Bd.named Bd.method).1
  have X0 : Stand p l e ({ frames := 0, cells := 0, slots := 0, locals := 0 } : Room) s m #[(.ref a0), (.ref a1)] below meth c s₁ [] 0 0 := Stand.of_body Bd
  have e0 : s₁.heap = h0 := by rw [← hh, Bd.state]; rfl
  have N0 := Fr.nil n0
  obtain ⟨G0, hG0⟩ : ∃ G, G = s₁.setTop (entryFrame m #[(.ref a0), (.ref a1)] 3) := ⟨_, rfl⟩
  have K0 : ∀ t, Steps p.tables e below (s₁.setTop (mkF m 0 #[.val (.ref a0), .val (.ref a1), .unset] [])) t → Steps p.tables e below G0 t := fun t k => by rw [hG0]; exact castTop (ef_rm3 m a0 a1) k
  have K1 : ∀ t, Steps p.tables e below (s₁.setTop (mkF m 1 #[.val (.ref a0), .val (.ref a1), .unset] [(.ref a1)])) t → Steps p.tables e below G0 t := by
    intro t kt
    refine K0 t ?_
    refine XS.aloadN X0.here hx rfl (hb hby d3_0) rfl rfl ?_
    show Steps p.tables e below (s₁.setTop (mkF m 1 #[.val (.ref a0), .val (.ref a1), .unset] [(.ref a1)])) _
    exact kt
  obtain ⟨T2, X2, e2, st2⟩ := instY X0 hx hZ hown (hw _ (List.mem_of_getElem? (i := 20) rfl)) e0 (Ins.self E1) (g := (mkF m 1 #[.val (.ref a0), .val (.ref a1), .unset] [(.ref a1)])) rfl rfl (hb hby d3_1)
  have K2 : ∀ t, Steps p.tables e below (T2.setTop (mkF m 4 #[.val (.ref a0), .val (.ref a1), .unset] [(.int (1 : Int32))])) t → Steps p.tables e below G0 t := fun t kt => K1 t (st2 _ kt)
  have K3 : ∀ t, Steps p.tables e below (T2.setTop (mkF m 10 #[.val (.ref a0), .val (.ref a1), .unset] [(.ref a1)])) t → Steps p.tables e below G0 t := by
    intro t kt
    refine K2 t ?_
    refine XS.ifYes X2.here hx rfl (pc0 := 4) (pc' := 9) rfl (hb hby d3_4) rfl ((if0 _ _).trans (feq (by decide)).2) (by decide) (by decide) ?_
    show Steps p.tables e below (T2.setTop (mkF m 9 #[.val (.ref a0), .val (.ref a1), .unset] [])) _
    refine XS.aloadN X2.here hx rfl (hb hby d3_9) rfl rfl ?_
    show Steps p.tables e below (T2.setTop (mkF m 10 #[.val (.ref a0), .val (.ref a1), .unset] [(.ref a1)])) _
    exact kt
  obtain ⟨T4, X4, e4, st4⟩ := castY X2 hx hZ hown (hw _ (List.mem_of_getElem? (i := 20) rfl)) e2 (Ins.self E1) (g := (mkF m 10 #[.val (.ref a0), .val (.ref a1), .unset] [(.ref a1)])) rfl rfl (hb hby d3_10)
  have K4 : ∀ t, Steps p.tables e below (T4.setTop (mkF m 13 #[.val (.ref a0), .val (.ref a1), .unset] [(.ref a1)])) t → Steps p.tables e below G0 t := fun t kt => K3 t (st4 _ kt)
  have K5 : ∀ t, Steps p.tables e below (T4.setTop (mkF m 15 #[.val (.ref a0), .val (.ref a1), .val (.ref a1)] [(.ref a0)])) t → Steps p.tables e below G0 t := by
    intro t kt
    refine K4 t ?_
    refine XS.astoreN X4.here hx rfl (hb hby d3_13) rfl rfl (l' := #[.val (.ref a0), .val (.ref a1), .val (.ref a1)]) rfl ?_
    show Steps p.tables e below (T4.setTop (mkF m 14 #[.val (.ref a0), .val (.ref a1), .val (.ref a1)] [])) _
    refine XS.aloadN X4.here hx rfl (hb hby d3_14) rfl rfl ?_
    show Steps p.tables e below (T4.setTop (mkF m 15 #[.val (.ref a0), .val (.ref a1), .val (.ref a1)] [(.ref a0)])) _
    exact kt
  obtain ⟨T6, X6, e6, st6⟩ := getF X4 hx hZ hown (host := "") (Or.inl (hw _ (List.mem_of_getElem? (i := 9) rfl))) Via.refl e4 Fu0 (g := (mkF m 15 #[.val (.ref a0), .val (.ref a1), .val (.ref a1)] [(.ref a0)])) rfl rfl (hb hby d3_15)
  have K6 : ∀ t, Steps p.tables e below (T6.setTop (mkF m 18 #[.val (.ref a0), .val (.ref a1), .val (.ref a1)] [(.long u0)])) t → Steps p.tables e below G0 t := fun t kt => K5 t (st6 _ kt)
  have K7 : ∀ t, Steps p.tables e below (T6.setTop (mkF m 19 #[.val (.ref a0), .val (.ref a1), .val (.ref a1)] [(.ref a1), (.long u0)])) t → Steps p.tables e below G0 t := by
    intro t kt
    refine K6 t ?_
    refine XS.aloadN X6.here hx rfl (hb hby d3_18) rfl rfl ?_
    show Steps p.tables e below (T6.setTop (mkF m 19 #[.val (.ref a0), .val (.ref a1), .val (.ref a1)] [(.ref a1), (.long u0)])) _
    exact kt
  obtain ⟨T8, X8, e8, st8⟩ := getF X6 hx hZ hown (host := "") (Or.inl (hw _ (List.mem_of_getElem? (i := 9) rfl))) Via.refl e6 Fv0 (g := (mkF m 19 #[.val (.ref a0), .val (.ref a1), .val (.ref a1)] [(.ref a1), (.long u0)])) rfl rfl (hb hby d3_19)
  have K8 : ∀ t, Steps p.tables e below (T8.setTop (mkF m 22 #[.val (.ref a0), .val (.ref a1), .val (.ref a1)] [(.long v0), (.long u0)])) t → Steps p.tables e below G0 t := fun t kt => K7 t (st8 _ kt)
  have K9 : ∀ t, Steps p.tables e below (T8.setTop (mkF m 23 #[.val (.ref a0), .val (.ref a1), .val (.ref a1)] [(.int (lcmpW u0 v0))])) t → Steps p.tables e below G0 t := by
    intro t kt
    refine K8 t ?_
    refine XS.lcmp X8.here hx rfl (hb hby d3_22) rfl ?_
    show Steps p.tables e below (T8.setTop (mkF m 23 #[.val (.ref a0), .val (.ref a1), .val (.ref a1)] [(.int (lcmpW u0 v0))])) _
    exact kt
  by_cases hc10 : (lcmpW u0 v0) = (0 : Int32)
  ·
    have K11 : ∀ t, Steps p.tables e below (T8.setTop (mkF m 27 #[.val (.ref a0), .val (.ref a1), .val (.ref a1)] [(.ref a0)])) t → Steps p.tables e below G0 t := by
      intro t kt
      refine K9 t ?_
      refine XS.ifNo X8.here hx rfl (hb hby d3_23) rfl ((if0 _ _).trans (teq hc10).2) ?_
      show Steps p.tables e below (T8.setTop (mkF m 26 #[.val (.ref a0), .val (.ref a1), .val (.ref a1)] [])) _
      refine XS.aloadN X8.here hx rfl (hb hby d3_26) rfl rfl ?_
      show Steps p.tables e below (T8.setTop (mkF m 27 #[.val (.ref a0), .val (.ref a1), .val (.ref a1)] [(.ref a0)])) _
      exact kt
    obtain ⟨T12, X12, e12, st12⟩ := getF X8 hx hZ hown (host := "") (Or.inl (hw _ (List.mem_of_getElem? (i := 11) rfl))) Via.refl e8 Fu1 (g := (mkF m 27 #[.val (.ref a0), .val (.ref a1), .val (.ref a1)] [(.ref a0)])) rfl rfl (hb hby d3_27)
    have K12 : ∀ t, Steps p.tables e below (T12.setTop (mkF m 30 #[.val (.ref a0), .val (.ref a1), .val (.ref a1)] [(.long u1)])) t → Steps p.tables e below G0 t := fun t kt => K11 t (st12 _ kt)
    have K13 : ∀ t, Steps p.tables e below (T12.setTop (mkF m 31 #[.val (.ref a0), .val (.ref a1), .val (.ref a1)] [(.ref a1), (.long u1)])) t → Steps p.tables e below G0 t := by
      intro t kt
      refine K12 t ?_
      refine XS.aloadN X12.here hx rfl (hb hby d3_30) rfl rfl ?_
      show Steps p.tables e below (T12.setTop (mkF m 31 #[.val (.ref a0), .val (.ref a1), .val (.ref a1)] [(.ref a1), (.long u1)])) _
      exact kt
    obtain ⟨T14, X14, e14, st14⟩ := getF X12 hx hZ hown (host := "") (Or.inl (hw _ (List.mem_of_getElem? (i := 11) rfl))) Via.refl e12 Fv1 (g := (mkF m 31 #[.val (.ref a0), .val (.ref a1), .val (.ref a1)] [(.ref a1), (.long u1)])) rfl rfl (hb hby d3_31)
    have K14 : ∀ t, Steps p.tables e below (T14.setTop (mkF m 34 #[.val (.ref a0), .val (.ref a1), .val (.ref a1)] [(.long v1), (.long u1)])) t → Steps p.tables e below G0 t := fun t kt => K13 t (st14 _ kt)
    have K15 : ∀ t, Steps p.tables e below (T14.setTop (mkF m 35 #[.val (.ref a0), .val (.ref a1), .val (.ref a1)] [(.int (lcmpW u1 v1))])) t → Steps p.tables e below G0 t := by
      intro t kt
      refine K14 t ?_
      refine XS.lcmp X14.here hx rfl (hb hby d3_34) rfl ?_
      show Steps p.tables e below (T14.setTop (mkF m 35 #[.val (.ref a0), .val (.ref a1), .val (.ref a1)] [(.int (lcmpW u1 v1))])) _
      exact kt
    by_cases hc16 : (lcmpW u1 v1) = (0 : Int32)
    ·
      have K17 : ∀ t, Steps p.tables e below (T14.setTop (mkF m 39 #[.val (.ref a0), .val (.ref a1), .val (.ref a1)] [(.ref a0)])) t → Steps p.tables e below G0 t := by
        intro t kt
        refine K15 t ?_
        refine XS.ifNo X14.here hx rfl (hb hby d3_35) rfl ((if0 _ _).trans (teq hc16).2) ?_
        show Steps p.tables e below (T14.setTop (mkF m 38 #[.val (.ref a0), .val (.ref a1), .val (.ref a1)] [])) _
        refine XS.aloadN X14.here hx rfl (hb hby d3_38) rfl rfl ?_
        show Steps p.tables e below (T14.setTop (mkF m 39 #[.val (.ref a0), .val (.ref a1), .val (.ref a1)] [(.ref a0)])) _
        exact kt
      obtain ⟨T18, X18, e18, st18⟩ := getF X14 hx hZ hown (host := "") (Or.inl (hw _ (List.mem_of_getElem? (i := 13) rfl))) Via.refl e14 Fu2 (g := (mkF m 39 #[.val (.ref a0), .val (.ref a1), .val (.ref a1)] [(.ref a0)])) rfl rfl (hb hby d3_39)
      have K18 : ∀ t, Steps p.tables e below (T18.setTop (mkF m 42 #[.val (.ref a0), .val (.ref a1), .val (.ref a1)] [(.long u2)])) t → Steps p.tables e below G0 t := fun t kt => K17 t (st18 _ kt)
      have K19 : ∀ t, Steps p.tables e below (T18.setTop (mkF m 43 #[.val (.ref a0), .val (.ref a1), .val (.ref a1)] [(.ref a1), (.long u2)])) t → Steps p.tables e below G0 t := by
        intro t kt
        refine K18 t ?_
        refine XS.aloadN X18.here hx rfl (hb hby d3_42) rfl rfl ?_
        show Steps p.tables e below (T18.setTop (mkF m 43 #[.val (.ref a0), .val (.ref a1), .val (.ref a1)] [(.ref a1), (.long u2)])) _
        exact kt
      obtain ⟨T20, X20, e20, st20⟩ := getF X18 hx hZ hown (host := "") (Or.inl (hw _ (List.mem_of_getElem? (i := 13) rfl))) Via.refl e18 Fv2 (g := (mkF m 43 #[.val (.ref a0), .val (.ref a1), .val (.ref a1)] [(.ref a1), (.long u2)])) rfl rfl (hb hby d3_43)
      have K20 : ∀ t, Steps p.tables e below (T20.setTop (mkF m 46 #[.val (.ref a0), .val (.ref a1), .val (.ref a1)] [(.long v2), (.long u2)])) t → Steps p.tables e below G0 t := fun t kt => K19 t (st20 _ kt)
      have K21 : ∀ t, Steps p.tables e below (T20.setTop (mkF m 47 #[.val (.ref a0), .val (.ref a1), .val (.ref a1)] [(.int (lcmpW u2 v2))])) t → Steps p.tables e below G0 t := by
        intro t kt
        refine K20 t ?_
        refine XS.lcmp X20.here hx rfl (hb hby d3_46) rfl ?_
        show Steps p.tables e below (T20.setTop (mkF m 47 #[.val (.ref a0), .val (.ref a1), .val (.ref a1)] [(.int (lcmpW u2 v2))])) _
        exact kt
      by_cases hc22 : (lcmpW u2 v2) = (0 : Int32)
      ·
        have K23 : ∀ t, Steps p.tables e below (T20.setTop (mkF m 55 #[.val (.ref a0), .val (.ref a1), .val (.ref a1)] [(.int (1 : Int32))])) t → Steps p.tables e below G0 t := by
          intro t kt
          refine K21 t ?_
          refine XS.ifNo X20.here hx rfl (hb hby d3_47) rfl ((if0 _ _).trans (teq hc22).2) ?_
          show Steps p.tables e below (T20.setTop (mkF m 50 #[.val (.ref a0), .val (.ref a1), .val (.ref a1)] [])) _
          refine XS.iconst X20.here hx rfl (hb hby d3_50) ?_
          show Steps p.tables e below (T20.setTop (mkF m 51 #[.val (.ref a0), .val (.ref a1), .val (.ref a1)] [(.int (1 : Int32))])) _
          refine XS.goto X20.here hx rfl (pc0 := 51) (pc' := 55) rfl (hb hby d3_51) (by decide) (by decide) ?_
          show Steps p.tables e below (T20.setTop (mkF m 55 #[.val (.ref a0), .val (.ref a1), .val (.ref a1)] [(.int (1 : Int32))])) _
          exact kt
        obtain ⟨fs, hr, hrun, hended, hW, hsame⟩ := X20.leave (v := some (.int (1 : Int32))) (fun h => by rw [Bd.returns] at h; cases h)
        refine ⟨_, _, ?_, hrun, hended, _, _, rfl, ?_, ⟨_, rfl⟩, hW, hsame.mono (by decide) (by decide)⟩
        · rw [← hG0]
          refine K23 _ ?_
          exact retN X20 hx (t := .boolean) Bd.returns (by simp) (hb hby d3_55) hr
        · show Q3 Z a0 a1 u0 u1 u2 v0 v1 v2 h0 n0 _ T20.heap _
          rw [e20]
          exact ⟨by rw [own_e, if_pos hc10, if_pos hc16, if_pos hc22], N0, rfl⟩
      ·
        have K24 : ∀ t, Steps p.tables e below (T20.setTop (mkF m 55 #[.val (.ref a0), .val (.ref a1), .val (.ref a1)] [(.int (0 : Int32))])) t → Steps p.tables e below G0 t := by
          intro t kt
          refine K21 t ?_
          refine XS.ifYes X20.here hx rfl (pc0 := 47) (pc' := 54) rfl (hb hby d3_47) rfl ((if0 _ _).trans (feq hc22).2) (by decide) (by decide) ?_
          show Steps p.tables e below (T20.setTop (mkF m 54 #[.val (.ref a0), .val (.ref a1), .val (.ref a1)] [])) _
          refine XS.iconst X20.here hx rfl (hb hby d3_54) ?_
          show Steps p.tables e below (T20.setTop (mkF m 55 #[.val (.ref a0), .val (.ref a1), .val (.ref a1)] [(.int (0 : Int32))])) _
          exact kt
        obtain ⟨fs, hr, hrun, hended, hW, hsame⟩ := X20.leave (v := some (.int (0 : Int32))) (fun h => by rw [Bd.returns] at h; cases h)
        refine ⟨_, _, ?_, hrun, hended, _, _, rfl, ?_, ⟨_, rfl⟩, hW, hsame.mono (by decide) (by decide)⟩
        · rw [← hG0]
          refine K24 _ ?_
          exact retN X20 hx (t := .boolean) Bd.returns (by simp) (hb hby d3_55) hr
        · show Q3 Z a0 a1 u0 u1 u2 v0 v1 v2 h0 n0 _ T20.heap _
          rw [e20]
          exact ⟨by rw [own_e, if_pos hc10, if_pos hc16, if_neg hc22], N0, rfl⟩
    ·
      have K25 : ∀ t, Steps p.tables e below (T14.setTop (mkF m 55 #[.val (.ref a0), .val (.ref a1), .val (.ref a1)] [(.int (0 : Int32))])) t → Steps p.tables e below G0 t := by
        intro t kt
        refine K15 t ?_
        refine XS.ifYes X14.here hx rfl (pc0 := 35) (pc' := 54) rfl (hb hby d3_35) rfl ((if0 _ _).trans (feq hc16).2) (by decide) (by decide) ?_
        show Steps p.tables e below (T14.setTop (mkF m 54 #[.val (.ref a0), .val (.ref a1), .val (.ref a1)] [])) _
        refine XS.iconst X14.here hx rfl (hb hby d3_54) ?_
        show Steps p.tables e below (T14.setTop (mkF m 55 #[.val (.ref a0), .val (.ref a1), .val (.ref a1)] [(.int (0 : Int32))])) _
        exact kt
      obtain ⟨fs, hr, hrun, hended, hW, hsame⟩ := X14.leave (v := some (.int (0 : Int32))) (fun h => by rw [Bd.returns] at h; cases h)
      refine ⟨_, _, ?_, hrun, hended, _, _, rfl, ?_, ⟨_, rfl⟩, hW, hsame.mono (by decide) (by decide)⟩
      · rw [← hG0]
        refine K25 _ ?_
        exact retN X14 hx (t := .boolean) Bd.returns (by simp) (hb hby d3_55) hr
      · show Q3 Z a0 a1 u0 u1 u2 v0 v1 v2 h0 n0 _ T14.heap _
        rw [e14]
        exact ⟨by rw [own_e, if_pos hc10, if_neg hc16], N0, rfl⟩
  ·
    have K26 : ∀ t, Steps p.tables e below (T8.setTop (mkF m 55 #[.val (.ref a0), .val (.ref a1), .val (.ref a1)] [(.int (0 : Int32))])) t → Steps p.tables e below G0 t := by
      intro t kt
      refine K9 t ?_
      refine XS.ifYes X8.here hx rfl (pc0 := 23) (pc' := 54) rfl (hb hby d3_23) rfl ((if0 _ _).trans (feq hc10).2) (by decide) (by decide) ?_
      show Steps p.tables e below (T8.setTop (mkF m 54 #[.val (.ref a0), .val (.ref a1), .val (.ref a1)] [])) _
      refine XS.iconst X8.here hx rfl (hb hby d3_54) ?_
      show Steps p.tables e below (T8.setTop (mkF m 55 #[.val (.ref a0), .val (.ref a1), .val (.ref a1)] [(.int (0 : Int32))])) _
      exact kt
    obtain ⟨fs, hr, hrun, hended, hW, hsame⟩ := X8.leave (v := some (.int (0 : Int32))) (fun h => by rw [Bd.returns] at h; cases h)
    refine ⟨_, _, ?_, hrun, hended, _, _, rfl, ?_, ⟨_, rfl⟩, hW, hsame.mono (by decide) (by decide)⟩
    · rw [← hG0]
      refine K26 _ ?_
      exact retN X8 hx (t := .boolean) Bd.returns (by simp) (hb hby d3_55) hr
    · show Q3 Z a0 a1 u0 u1 u2 v0 v1 v2 h0 n0 _ T8.heap _
      rw [e8]
      exact ⟨by rw [own_e, if_neg hc10], N0, rfl⟩
theorem ef_rm3n (m : MethodId) (a0 : Addr) : entryFrame m #[(.ref a0), .null] 3 = (mkF m 0 #[.val (.ref a0), .val .null, .unset] []) := by first | (simp [entryFrame, mkF, argsToLocals, Value.category]; done) | rfl
def Q3n (Z : State) (a0 : Addr) (h0 : Heap) (n0 : Nat) (v : Option Value) (h : Heap) (L : List Loc) : Prop := v = some (.int 0) ∧ Fr n0 L ∧ h = h0
set_option maxRecDepth 65536 in
set_option maxHeartbeats 40000000 in
theorem rm3n (l : Launch) (Z : State) (aa : Array Value) (hw : ∀ d ∈ tables_1, d.before aa Z = true) (ws : List Jvm.Cond) (a0 : Addr) (h0 : Heap) (n0 : Nat) (Z0 : n0 ≤ h0.size) :
    MetFree l (⟨"com/example/slackwise/slackwise/workload/ExactMb", "equals", "(Ljava/lang/Object;)Z"⟩ : MethodName) (head1 (Jvm.Cond.code (⟨"com/example/slackwise/slackwise/workload/ExactMb", "equals", "(Ljava/lang/Object;)Z"⟩ : MethodName) prog_168_method_5_code 3 (some .boolean) :: ws) ({ frames := 0, cells := 0, slots := 0, locals := 0 } : Room)) (fun a U => a = #[(.ref a0), .null] ∧ Z.Warmed39 U.vm ∧ U.heap = h0) (fun _ _ _ _ _ => True) (fun _ U o U' => ∃ v L, o = .returned v ∧ Q3n Z a0 h0 n0 v U'.heap L ∧ FrameEnd U o U' L ({ frames := 0, cells := 0, slots := 0, locals := 0 } : Room).cells ({ frames := 0, cells := 0, slots := 0, locals := 0 } : Room).slots) := by
  refine MetFree.of_bodySF (plainFor_of_name pn_com_example_slackwise_slackwise_workload_ExactMb) hisR ?_
  intro p e s m args below meth c s₁ Bd hml0 hP hK
  obtain ⟨rfl, hZ, hh⟩ := hP
  have hx := Bd.exec
  have hby := Bd.bytes
  have hml : c.maxLocals = 3 := hml0
  have hown : s.vm.findClass "com/example/slackwise/slackwise/workload/ExactMb" = some m.cls := findClass_of_methodNamed Bd.named
  have hnm := (name_of_methodNamed Bd.named Bd.method).1
  have X0 : Stand p l e ({ frames := 0, cells := 0, slots := 0, locals := 0 } : Room) s m #[(.ref a0), .null] below meth c s₁ [] 0 0 := Stand.of_body Bd
  have e0 : s₁.heap = h0 := by rw [← hh, Bd.state]; rfl
  have N0 := Fr.nil n0
  obtain ⟨G0, hG0⟩ : ∃ G, G = s₁.setTop (entryFrame m #[(.ref a0), .null] 3) := ⟨_, rfl⟩
  have K0 : ∀ t, Steps p.tables e below (s₁.setTop (mkF m 0 #[.val (.ref a0), .val .null, .unset] [])) t → Steps p.tables e below G0 t := fun t k => by rw [hG0]; exact castTop (ef_rm3n m a0) k
  have K1 : ∀ t, Steps p.tables e below (s₁.setTop (mkF m 1 #[.val (.ref a0), .val .null, .unset] [.null])) t → Steps p.tables e below G0 t := by
    intro t kt
    refine K0 t ?_
    refine XS.aloadN X0.here hx rfl (hb hby d3_0) rfl rfl ?_
    show Steps p.tables e below (s₁.setTop (mkF m 1 #[.val (.ref a0), .val .null, .unset] [.null])) _
    exact kt
  have K2 : ∀ t, Steps p.tables e below (s₁.setTop (mkF m 8 #[.val (.ref a0), .val .null, .unset] [(.int (0 : Int32))])) t → Steps p.tables e below G0 t := by
    intro t kt
    refine K1 t ?_
    refine X0.instanceofNull hx (g := (mkF m 1 #[.val (.ref a0), .val .null, .unset] [.null])) rfl rfl (hb hby d3_1) _ ?_
    show Steps p.tables e below (s₁.setTop (mkF m 4 #[.val (.ref a0), .val .null, .unset] [(.int (0 : Int32))])) _
    refine XS.ifNo X0.here hx rfl (hb hby d3_4) rfl ((if0 _ _).trans (teq rfl).2) ?_
    show Steps p.tables e below (s₁.setTop (mkF m 7 #[.val (.ref a0), .val .null, .unset] [])) _
    refine XS.iconst X0.here hx rfl (hb hby d3_7) ?_
    show Steps p.tables e below (s₁.setTop (mkF m 8 #[.val (.ref a0), .val .null, .unset] [(.int (0 : Int32))])) _
    exact kt
  obtain ⟨fs, hr, hrun, hended, hW, hsame⟩ := X0.leave (v := some (.int (0 : Int32))) (fun h => by rw [Bd.returns] at h; cases h)
  refine ⟨_, _, ?_, hrun, hended, _, _, rfl, ?_, ⟨_, rfl⟩, hW, hsame.mono (by decide) (by decide)⟩
  · rw [← hG0]
    refine K2 _ ?_
    exact retN X0 hx (t := .boolean) Bd.returns (by simp) (hb hby d3_8) hr
  · show Q3n Z a0 h0 n0 _ s₁.heap _
    rw [e0]
    exact ⟨rfl, N0, rfl⟩
theorem ef_rm3l (m : MethodId) (a0 : Addr) (a1 : Addr) : entryFrame m #[(.ref a0), (.ref a1)] 3 = (mkF m 0 #[.val (.ref a0), .val (.ref a1), .unset] []) := by first | (simp [entryFrame, mkF, argsToLocals, Value.category]; done) | rfl
def Q3l (Z : State) (a0 : Addr) (a1 : Addr) (h0 : Heap) (n0 : Nat) (v : Option Value) (h : Heap) (L : List Loc) : Prop := v = some (.int 0) ∧ Fr n0 L ∧ h = h0
set_option maxRecDepth 65536 in
set_option maxHeartbeats 40000000 in
theorem rm3l (l : Launch) (Z : State) (aa : Array Value) (hw : ∀ d ∈ tables_1, d.before aa Z = true) (ws : List Jvm.Cond) (a0 : Addr) (a1 : Addr) (h0 : Heap) (n0 : Nat) (Z0 : n0 ≤ h0.size) (E1 : Exa Z h0 a1 "java/lang/Long") :
    MetFree l (⟨"com/example/slackwise/slackwise/workload/ExactMb", "equals", "(Ljava/lang/Object;)Z"⟩ : MethodName) (head1 (Jvm.Cond.code (⟨"com/example/slackwise/slackwise/workload/ExactMb", "equals", "(Ljava/lang/Object;)Z"⟩ : MethodName) prog_168_method_5_code 3 (some .boolean) :: ws) ({ frames := 0, cells := 0, slots := 0, locals := 0 } : Room)) (fun a U => a = #[(.ref a0), (.ref a1)] ∧ Z.Warmed39 U.vm ∧ U.heap = h0) (fun _ _ _ _ _ => True) (fun _ U o U' => ∃ v L, o = .returned v ∧ Q3l Z a0 a1 h0 n0 v U'.heap L ∧ FrameEnd U o U' L ({ frames := 0, cells := 0, slots := 0, locals := 0 } : Room).cells ({ frames := 0, cells := 0, slots := 0, locals := 0 } : Room).slots) := by
  refine MetFree.of_bodySF (plainFor_of_name pn_com_example_slackwise_slackwise_workload_ExactMb) hisR ?_
  intro p e s m args below meth c s₁ Bd hml0 hP hK
  obtain ⟨rfl, hZ, hh⟩ := hP
  have hx := Bd.exec
  have hby := Bd.bytes
  have hml : c.maxLocals = 3 := hml0
  have hown : s.vm.findClass "com/example/slackwise/slackwise/workload/ExactMb" = some m.cls := findClass_of_methodNamed Bd.named
  have hnm := (name_of_methodNamed Bd.named Bd.method).1
  have X0 : Stand p l e ({ frames := 0, cells := 0, slots := 0, locals := 0 } : Room) s m #[(.ref a0), (.ref a1)] below meth c s₁ [] 0 0 := Stand.of_body Bd
  have e0 : s₁.heap = h0 := by rw [← hh, Bd.state]; rfl
  have N0 := Fr.nil n0
  obtain ⟨G0, hG0⟩ : ∃ G, G = s₁.setTop (entryFrame m #[(.ref a0), (.ref a1)] 3) := ⟨_, rfl⟩
  have K0 : ∀ t, Steps p.tables e below (s₁.setTop (mkF m 0 #[.val (.ref a0), .val (.ref a1), .unset] [])) t → Steps p.tables e below G0 t := fun t k => by rw [hG0]; exact castTop (ef_rm3l m a0 a1) k
  have K1 : ∀ t, Steps p.tables e below (s₁.setTop (mkF m 1 #[.val (.ref a0), .val (.ref a1), .unset] [(.ref a1)])) t → Steps p.tables e below G0 t := by
    intro t kt
    refine K0 t ?_
    refine XS.aloadN X0.here hx rfl (hb hby d3_0) rfl rfl ?_
    show Steps p.tables e below (s₁.setTop (mkF m 1 #[.val (.ref a0), .val (.ref a1), .unset] [(.ref a1)])) _
    exact kt
  obtain ⟨T2, X2, e2, st2⟩ := instNo X0 hx hZ hown (hw _ (List.mem_of_getElem? (i := 20) rfl)) e0 E1 (own_no hw) (g := (mkF m 1 #[.val (.ref a0), .val (.ref a1), .unset] [(.ref a1)])) rfl rfl (hb hby d3_1)
  have K2 : ∀ t, Steps p.tables e below (T2.setTop (mkF m 4 #[.val (.ref a0), .val (.ref a1), .unset] [(.int (0 : Int32))])) t → Steps p.tables e below G0 t := fun t kt => K1 t (st2 _ kt)
  have K3 : ∀ t, Steps p.tables e below (T2.setTop (mkF m 8 #[.val (.ref a0), .val (.ref a1), .unset] [(.int (0 : Int32))])) t → Steps p.tables e below G0 t := by
    intro t kt
    refine K2 t ?_
    refine XS.ifNo X2.here hx rfl (hb hby d3_4) rfl ((if0 _ _).trans (teq rfl).2) ?_
    show Steps p.tables e below (T2.setTop (mkF m 7 #[.val (.ref a0), .val (.ref a1), .unset] [])) _
    refine XS.iconst X2.here hx rfl (hb hby d3_7) ?_
    show Steps p.tables e below (T2.setTop (mkF m 8 #[.val (.ref a0), .val (.ref a1), .unset] [(.int (0 : Int32))])) _
    exact kt
  obtain ⟨fs, hr, hrun, hended, hW, hsame⟩ := X2.leave (v := some (.int (0 : Int32))) (fun h => by rw [Bd.returns] at h; cases h)
  refine ⟨_, _, ?_, hrun, hended, _, _, rfl, ?_, ⟨_, rfl⟩, hW, hsame.mono (by decide) (by decide)⟩
  · rw [← hG0]
    refine K3 _ ?_
    exact retN X2 hx (t := .boolean) Bd.returns (by simp) (hb hby d3_8) hr
  · show Q3l Z a0 a1 h0 n0 _ T2.heap _
    rw [e2]
    exact ⟨rfl, N0, rfl⟩
theorem d6_0 : decode jdk_18_method_1_code 0 = .ok (.aload_n 0, 1) := by decide +kernel
theorem d6_1 : decode jdk_18_method_1_code 1 = .ok (.invokespecial 1, 3) := by decide +kernel
theorem d6_4 : decode jdk_18_method_1_code 4 = .ok (.return_, 1) := by decide +kernel
theorem pn_java_lang_Number : plainName "java/lang/Number" = true := by first | (simp [plainName, overriddenIn]; done) | decide +kernel
theorem ef_rm6 (m : MethodId) (a0 : Addr) : entryFrame m #[(.ref a0)] 1 = (mkF m 0 #[.val (.ref a0)] []) := by first | (simp [entryFrame, mkF, argsToLocals, Value.category]; done) | rfl
def Q6 (Z : State) (a0 : Addr) (h0 : Heap) (n0 : Nat) (v : Option Value) (h : Heap) (L : List Loc) : Prop := v = none ∧ Fr n0 L ∧ h = h0
set_option maxRecDepth 65536 in
set_option maxHeartbeats 40000000 in
theorem rm6 (l : Launch) (Z : State) (aa : Array Value) (hw : ∀ d ∈ tables_1, d.before aa Z = true) (ws : List Jvm.Cond) (a0 : Addr) (h0 : Heap) (n0 : Nat) (Z0 : n0 ≤ h0.size) :
    MetFree l (⟨"java/lang/Number", "<init>", "()V"⟩ : MethodName) (head1 (Jvm.Cond.code (⟨"java/lang/Number", "<init>", "()V"⟩ : MethodName) jdk_18_method_1_code 1 none :: ws) ({ frames := 1, cells := 0, slots := 0, locals := 12 } : Room)) (fun a U => a = #[(.ref a0)] ∧ Z.Warmed39 U.vm ∧ U.heap = h0) (fun _ _ _ _ _ => True) (fun _ U o U' => ∃ v L, o = .returned v ∧ Q6 Z a0 h0 n0 v U'.heap L ∧ FrameEnd U o U' L ({ frames := 1, cells := 0, slots := 0, locals := 12 } : Room).cells ({ frames := 1, cells := 0, slots := 0, locals := 12 } : Room).slots) := by
  refine MetFree.of_bodySF (plainFor_of_name pn_java_lang_Number) hisR ?_
  intro p e s m args below meth c s₁ Bd hml0 hP hK
  obtain ⟨rfl, hZ, hh⟩ := hP
  have hx := Bd.exec
  have hby := Bd.bytes
  have hml : c.maxLocals = 1 := hml0
  have hown : s.vm.findClass "java/lang/Number" = some m.cls := findClass_of_methodNamed Bd.named
  have hnm := (name_of_methodNamed Bd.named Bd.method).1
  have X0 : Stand p l e ({ frames := 1, cells := 0, slots := 0, locals := 12 } : Room) s m #[(.ref a0)] below meth c s₁ [] 0 0 := Stand.of_body Bd
  have e0 : s₁.heap = h0 := by rw [← hh, Bd.state]; rfl
  have N0 := Fr.nil n0
  obtain ⟨G0, hG0⟩ : ∃ G, G = s₁.setTop (entryFrame m #[(.ref a0)] 1) := ⟨_, rfl⟩
  have K0 : ∀ t, Steps p.tables e below (s₁.setTop (mkF m 0 #[.val (.ref a0)] [])) t → Steps p.tables e below G0 t := fun t k => by rw [hG0]; exact castTop (ef_rm6 m a0) k
  have K1 : ∀ t, Steps p.tables e below (s₁.setTop (mkF m 1 #[.val (.ref a0)] [(.ref a0)])) t → Steps p.tables e below G0 t := by
    intro t kt
    refine K0 t ?_
    refine XS.aloadN X0.here hx rfl (hb hby d6_0) rfl rfl ?_
    show Steps p.tables e below (s₁.setTop (mkF m 1 #[.val (.ref a0)] [(.ref a0)])) _
    exact kt
  obtain ⟨T2, X2, e2, st2⟩ := initO X0 hx hZ hown (hw _ (List.mem_of_getElem? (i := 45) rfl)) (hw _ (List.mem_of_getElem? (i := 7) rfl)) (hw _ (List.mem_of_getElem? (i := 8) rfl)) e0 (g := (mkF m 1 #[.val (.ref a0)] [(.ref a0)])) rfl (by rw [hml]; rfl) rfl (hb hby d6_1) (by decide) (W := 0) (by show 2 * 0 + _ ≤ _; exact Nat.le_of_eq rfl) (by decide)
  have K2 : ∀ t, Steps p.tables e below (T2.setTop (mkF m 4 #[.val (.ref a0)] [])) t → Steps p.tables e below G0 t := fun t kt => K1 t (st2 _ kt)
  obtain ⟨fs, hr, hrun, hended, hW, hsame⟩ := X2.leave (v := none) (fun _ => rfl)
  refine ⟨_, _, ?_, hrun, hended, _, _, rfl, ?_, ⟨_, rfl⟩, hW, hsame.mono (by decide) (by decide)⟩
  · rw [← hG0]
    refine K2 _ ?_
    exact X2.returnOut hx Bd.returns (hb hby d6_4) hr
  · show Q6 Z a0 h0 n0 _ T2.heap _
    rw [e2]
    exact ⟨rfl, N0, rfl⟩
theorem d5_0 : decode jdk_35_method_26_code 0 = .ok (.aload_n 0, 1) := by decide +kernel
theorem d5_1 : decode jdk_35_method_26_code 1 = .ok (.invokespecial 270, 3) := by decide +kernel
theorem d5_4 : decode jdk_35_method_26_code 4 = .ok (.aload_n 0, 1) := by decide +kernel
theorem d5_5 : decode jdk_35_method_26_code 5 = .ok (.lload_n 1, 1) := by decide +kernel
theorem d5_6 : decode jdk_35_method_26_code 6 = .ok (.putfield 273, 3) := by decide +kernel
theorem d5_9 : decode jdk_35_method_26_code 9 = .ok (.return_, 1) := by decide +kernel
theorem pn_java_lang_Long : plainName "java/lang/Long" = true := by first | (simp [plainName, overriddenIn]; done) | decide +kernel
theorem pd_PQV : parseMethodDescriptor "()V" = some ⟨[], none⟩ := by decide +kernel
theorem ef_rm5 (m : MethodId) (a0 : Addr) (x1 : Int64) : entryFrame m #[(.ref a0), (.long x1)] 3 = (mkF m 0 #[.val (.ref a0), .val (.long x1), .second] []) := by first | (simp [entryFrame, mkF, argsToLocals, Value.category]; done) | rfl
def Q5 (Z : State) (a0 : Addr) (x1 : Int64) (u_value : Value) (h0 : Heap) (n0 : Nat) (v : Option Value) (h : Heap) (L : List Loc) : Prop := v = none ∧ Fr n0 L ∧ Keep h0 h [a0] ∧ Exa Z h a0 "java/lang/Long" ∧ Fld Z h a0 "java/lang/Long" "value" "J" (.long x1)
set_option maxRecDepth 65536 in
set_option maxHeartbeats 40000000 in
theorem rm5 (l : Launch) (Z : State) (aa : Array Value) (hw : ∀ d ∈ tables_1, d.before aa Z = true) (ws : List Jvm.Cond) (a0 : Addr) (x1 : Int64) (u_value : Value) (h0 : Heap) (n0 : Nat) (Z0 : n0 ≤ h0.size) (gn : n0 ≤ a0) (E0 : Exa Z h0 a0 "java/lang/Long") (F_value : Fld Z h0 a0 "java/lang/Long" "value" "J" u_value) :
    MetFree l (⟨"java/lang/Long", "<init>", "(J)V"⟩ : MethodName) (head1 (Jvm.Cond.code (⟨"java/lang/Long", "<init>", "(J)V"⟩ : MethodName) jdk_35_method_26_code 3 none :: ws) ({ frames := 2, cells := 0, slots := 0, locals := 24 } : Room)) (fun a U => a = #[(.ref a0), (.long x1)] ∧ Z.Warmed39 U.vm ∧ U.heap = h0) (fun _ _ _ _ _ => True) (fun _ U o U' => ∃ v L, o = .returned v ∧ Q5 Z a0 x1 u_value h0 n0 v U'.heap L ∧ FrameEnd U o U' L ({ frames := 2, cells := 0, slots := 0, locals := 24 } : Room).cells ({ frames := 2, cells := 0, slots := 0, locals := 24 } : Room).slots) := by
  refine MetFree.of_bodySF (plainFor_of_name pn_java_lang_Long) hisR ?_
  intro p e s m args below meth c s₁ Bd hml0 hP hK
  obtain ⟨rfl, hZ, hh⟩ := hP
  have hx := Bd.exec
  have hby := Bd.bytes
  have hml : c.maxLocals = 3 := hml0
  have hown : s.vm.findClass "java/lang/Long" = some m.cls := findClass_of_methodNamed Bd.named
  have hnm := (name_of_methodNamed Bd.named Bd.method).1
  have X0 : Stand p l e ({ frames := 2, cells := 0, slots := 0, locals := 24 } : Room) s m #[(.ref a0), (.long x1)] below meth c s₁ [] 0 0 := Stand.of_body Bd
  have e0 : s₁.heap = h0 := by rw [← hh, Bd.state]; rfl
  have N0 := Fr.nil n0
  obtain ⟨G0, hG0⟩ : ∃ G, G = s₁.setTop (entryFrame m #[(.ref a0), (.long x1)] 3) := ⟨_, rfl⟩
  have K0 : ∀ t, Steps p.tables e below (s₁.setTop (mkF m 0 #[.val (.ref a0), .val (.long x1), .second] [])) t → Steps p.tables e below G0 t := fun t k => by rw [hG0]; exact castTop (ef_rm5 m a0 x1) k
  have KP1 := Keep.refl h0 [a0]
  have K2 : ∀ t, Steps p.tables e below (s₁.setTop (mkF m 1 #[.val (.ref a0), .val (.long x1), .second] [(.ref a0)])) t → Steps p.tables e below G0 t := by
    intro t kt
    refine K0 t ?_
    refine XS.aloadN X0.here hx rfl (hb hby d5_0) rfl rfl ?_
    show Steps p.tables e below (s₁.setTop (mkF m 1 #[.val (.ref a0), .val (.long x1), .second] [(.ref a0)])) _
    exact kt
  obtain ⟨_, _, ⟨T3, L3, k3, n3⟩, -, X3, ⟨Lc3, hQ3, l3, y3, z3⟩, st3⟩ := X0.specialBack hx (y := (⟨"java/lang/Number", "<init>", "()V"⟩ : MethodName)) rfl hown (mvT hZ (hw _ (List.mem_of_getElem? (i := 39) rfl))) (mvT hZ (hw _ (List.mem_of_getElem? (i := 40) rfl))) (mvT hZ (hw _ (List.mem_of_getElem? (i := 44) rfl))) (by decide) (backOf (W := 0) (rm6 l Z aa hw [] (a0)  h0 n0 Z0 ) hZ (hw _ (List.mem_of_getElem? (i := 44) rfl)) (hw _ (List.mem_of_getElem? (i := 43) rfl)) (by decide) (by decide)) (g := (mkF m 1 #[.val (.ref a0), .val (.long x1), .second] [(.ref a0)])) rfl (by rw [hml]; rfl) (Steps.refl _) (a := a0) (argsL := []) (rest := []) (lenOf pd_PQV rfl) rfl (by show 2 * 0 + _ ≤ _; exact Nat.le_of_eq rfl) (hb hby d5_1) (fun _ _ => ⟨rfl, e0, (by decide : 0 + 0 ≤ _), (by decide : 0 + 0 ≤ _)⟩)
  dsimp only [Pt.U, Pt.locs, Pt.cells, Pt.slots] at X3 l3 y3 z3 st3 hQ3
  subst l3 y3 z3
  obtain ⟨rfl, N3q, e3⟩ := hQ3
  have N3 := Fr.app N0 N3q
  have K3 : ∀ t, Steps p.tables e below (T3.setTop (mkF m 4 #[.val (.ref a0), .val (.long x1), .second] [])) t → Steps p.tables e below G0 t := fun t kt => K2 t (st3.trans kt)
  have K4 : ∀ t, Steps p.tables e below (T3.setTop (mkF m 6 #[.val (.ref a0), .val (.long x1), .second] [(.long x1), (.ref a0)])) t → Steps p.tables e below G0 t := by
    intro t kt
    refine K3 t ?_
    refine XS.aloadN X3.here hx rfl (hb hby d5_4) rfl rfl ?_
    show Steps p.tables e below (T3.setTop (mkF m 5 #[.val (.ref a0), .val (.long x1), .second] [(.ref a0)])) _
    refine XS.lloadN X3.here hx rfl (hb hby d5_5) rfl ?_
    show Steps p.tables e below (T3.setTop (mkF m 6 #[.val (.ref a0), .val (.long x1), .second] [(.long x1), (.ref a0)])) _
    exact kt
  obtain ⟨T5, h5, X5, e5, W5, st5⟩ := putF X3 hx hZ hown (host := "") (Or.inl (hw _ (List.mem_of_getElem? (i := 46) rfl))) Via.refl e3 F_value E0 (Or.inr ⟨(hw _ (List.mem_of_getElem? (i := 47) rfl)), rfl, hnm⟩) (hw _ (List.mem_of_getElem? (i := 34) rfl)) (ty := .long) (by decide) rfl rfl (g := (mkF m 6 #[.val (.ref a0), .val (.long x1), .second] [(.long x1), (.ref a0)])) rfl rfl (hb hby d5_6)
  have K5 : ∀ t, Steps p.tables e below (T5.setTop (mkF m 9 #[.val (.ref a0), .val (.long x1), .second] [])) t → Steps p.tables e below G0 t := fun t kt => K4 t (st5 _ kt)
  have Fw5 := (F_value).same W5
  have N5 := Fr.snoc X5 N3 gn
  have Z5 : n0 ≤ h5.size := Nat.le_trans Z0 (Keep.of_wr W5).1
  have KP5 := KP1.wr W5 (Or.inl (List.mem_of_getElem? (i := 0) rfl))
  have f6 := (E0.wr W5)
  obtain ⟨fs, hr, hrun, hended, hW, hsame⟩ := X5.leave (v := none) (fun _ => rfl)
  refine ⟨_, _, ?_, hrun, hended, _, _, rfl, ?_, ⟨_, rfl⟩, hW, hsame.mono (by decide) (by decide)⟩
  · rw [← hG0]
    refine K5 _ ?_
    exact X5.returnOut hx Bd.returns (hb hby d5_9) hr
  · show Q5 Z a0 x1 u_value h0 n0 _ T5.heap _
    rw [e5]
    exact ⟨rfl, N5, KP5, f6, Fw5⟩
theorem own_idx {v : Int64} (h1 : ¬ v < (-128 : Int64)) (h2 : ¬ (127 : Int64) < v) (n : Nat) (hn : n = 256) : ¬ ((v.toInt32 + (128 : Int32)) < 0 ∨ n ≤ (v.toInt32 + (128 : Int32)).toNatClampNeg) := by
  subst hn
  have e1 : (-128 : Int64).toInt = -128 := by decide
  have e2 : (127 : Int64).toInt = 127 := by decide
  have e3 : (128 : Int32).toInt = 128 := by decide
  have e4 : (0 : Int32).toInt = 0 := by decide
  rw [Int64.lt_iff_toInt_lt] at h1 h2
  have a := c_l2i v
  have b := c_iadd v.toInt32 128
  have r1 := rng32 v.toInt32
  have r2 := rng32 (v.toInt32 + 128)
  rw [Int32.lt_iff_toInt_lt]
  simp only [Int32.toNatClampNeg]
  omega
theorem d4_0 : decode jdk_35_method_24_code 0 = .ok (.sipush 128, 3) := by decide +kernel
theorem d4_3 : decode jdk_35_method_24_code 3 = .ok (.istore_n 2, 1) := by decide +kernel
theorem d4_4 : decode jdk_35_method_24_code 4 = .ok (.lload_n 0, 1) := by decide +kernel
theorem d4_5 : decode jdk_35_method_24_code 5 = .ok (.ldc2_w 230, 3) := by decide +kernel
theorem d4_8 : decode jdk_35_method_24_code 8 = .ok (.lcmp, 1) := by decide +kernel
theorem d4_9 : decode jdk_35_method_24_code 9 = .ok (.ifCond .lt 22, 3) := by decide +kernel
theorem d4_12 : decode jdk_35_method_24_code 12 = .ok (.lload_n 0, 1) := by decide +kernel
theorem d4_13 : decode jdk_35_method_24_code 13 = .ok (.ldc2_w 232, 3) := by decide +kernel
theorem d4_16 : decode jdk_35_method_24_code 16 = .ok (.lcmp, 1) := by decide +kernel
theorem d4_17 : decode jdk_35_method_24_code 17 = .ok (.ifCond .gt 14, 3) := by decide +kernel
theorem d4_20 : decode jdk_35_method_24_code 20 = .ok (.getstatic 234, 3) := by decide +kernel
theorem d4_23 : decode jdk_35_method_24_code 23 = .ok (.lload_n 0, 1) := by decide +kernel
theorem d4_24 : decode jdk_35_method_24_code 24 = .ok (.l2i, 1) := by decide +kernel
theorem d4_25 : decode jdk_35_method_24_code 25 = .ok (.sipush 128, 3) := by decide +kernel
theorem d4_28 : decode jdk_35_method_24_code 28 = .ok (.iadd, 1) := by decide +kernel
theorem d4_29 : decode jdk_35_method_24_code 29 = .ok (.aaload, 1) := by decide +kernel
theorem d4_30 : decode jdk_35_method_24_code 30 = .ok (.areturn, 1) := by decide +kernel
theorem d4_31 : decode jdk_35_method_24_code 31 = .ok (.new 1, 3) := by decide +kernel
theorem d4_34 : decode jdk_35_method_24_code 34 = .ok (.dup, 1) := by decide +kernel
theorem d4_35 : decode jdk_35_method_24_code 35 = .ok (.lload_n 0, 1) := by decide +kernel
theorem d4_36 : decode jdk_35_method_24_code 36 = .ok (.invokespecial 240, 3) := by decide +kernel
theorem d4_39 : decode jdk_35_method_24_code 39 = .ok (.areturn, 1) := by decide +kernel
theorem pd_PJQV : parseMethodDescriptor "(J)V" = some ⟨[.long], none⟩ := by decide +kernel
theorem ef_rm4 (m : MethodId) (q0 : Int64) : entryFrame m #[(.long q0)] 3 = (mkF m 0 #[.val (.long q0), .second, .unset] []) := by first | (simp [entryFrame, mkF, argsToLocals, Value.category]; done) | rfl
def Q4 (Z : State) (q0 : Int64) (ca : Addr) (cc : Cell) (h0 : Heap) (n0 : Nat) (v : Option Value) (h : Heap) (L : List Loc) : Prop := ∃ r : Addr, v = some (.ref r) ∧ Fr n0 L ∧ Keep h0 h [] ∧ Exa Z h r "java/lang/Long"
set_option maxRecDepth 65536 in
set_option maxHeartbeats 40000000 in
theorem rm4 (l : Launch) (Z : State) (aa : Array Value) (hw : ∀ d ∈ tables_1, d.before aa Z = true) (ws : List Jvm.Cond) (q0 : Int64) (ca : Addr) (cc : Cell) (h0 : Heap) (n0 : Nat) (Z0 : n0 ≤ h0.size) (SC : Sta Z h0 "java/lang/Long$LongCache" "cache" "[Ljava/lang/Long;" (.ref ca)) (AC : Arr Z h0 ca cc (.object "java/lang/Long")) (hsz : cc.slots.size = 256) (hel : ∀ j : Int32, ¬ (j < 0 ∨ cc.slots.size ≤ j.toNatClampNeg) → ∃ b : Addr, cc.slots[j.toNatClampNeg]? = some (.ref b) ∧ Exa Z h0 b "java/lang/Long") :
    MetFree l (⟨"java/lang/Long", "valueOf", "(J)Ljava/lang/Long;"⟩ : MethodName) (head1 (Jvm.Cond.code (⟨"java/lang/Long", "valueOf", "(J)Ljava/lang/Long;"⟩ : MethodName) jdk_35_method_24_code 3 (some (.object "java/lang/Long")) :: ws) ({ frames := 3, cells := 1, slots := 1, locals := 39 } : Room)) (fun a U => a = #[(.long q0)] ∧ Z.Warmed39 U.vm ∧ U.heap = h0) (fun _ _ _ _ _ => True) (fun _ U o U' => ∃ v L, o = .returned v ∧ Q4 Z q0 ca cc h0 n0 v U'.heap L ∧ FrameEnd U o U' L ({ frames := 3, cells := 1, slots := 1, locals := 39 } : Room).cells ({ frames := 3, cells := 1, slots := 1, locals := 39 } : Room).slots) := by
  refine MetFree.of_bodySF (plainFor_of_name pn_java_lang_Long) hisR ?_
  intro p e s m args below meth c s₁ Bd hml0 hP hK
  obtain ⟨rfl, hZ, hh⟩ := hP
  have hx := Bd.exec
  have hby := Bd.bytes
  have hml : c.maxLocals = 3 := hml0
  have hown : s.vm.findClass "java/lang/Long" = some m.cls := findClass_of_methodNamed Bd.named
  have hnm := (name_of_methodNamed Bd.named Bd.method).1
  have X0 : Stand p l e ({ frames := 3, cells := 1, slots := 1, locals := 39 } : Room) s m #[(.long q0)] below meth c s₁ [] 0 0 := Stand.of_body Bd
  have e0 : s₁.heap = h0 := by rw [← hh, Bd.state]; rfl
  have N0 := Fr.nil n0
  obtain ⟨G0, hG0⟩ : ∃ G, G = s₁.setTop (entryFrame m #[(.long q0)] 3) := ⟨_, rfl⟩
  have K0 : ∀ t, Steps p.tables e below (s₁.setTop (mkF m 0 #[.val (.long q0), .second, .unset] [])) t → Steps p.tables e below G0 t := fun t k => by rw [hG0]; exact castTop (ef_rm4 m q0) k
  have K1 : ∀ t, Steps p.tables e below (s₁.setTop (mkF m 9 #[.val (.long q0), .second, .val (.int (128 : Int32))] [(.int (lcmpW q0 (-128 : Int64)))])) t → Steps p.tables e below G0 t := by
    intro t kt
    refine K0 t ?_
    refine XS.sipush X0.here hx rfl (hb hby d4_0) ?_
    show Steps p.tables e below (s₁.setTop (mkF m 3 #[.val (.long q0), .second, .unset] [(.int (128 : Int32))])) _
    refine XS.istoreN X0.here hx rfl (hb hby d4_3) rfl (l' := #[.val (.long q0), .second, .val (.int (128 : Int32))]) rfl ?_
    show Steps p.tables e below (s₁.setTop (mkF m 4 #[.val (.long q0), .second, .val (.int (128 : Int32))] [])) _
    refine XS.lloadN X0.here hx rfl (hb hby d4_4) rfl ?_
    show Steps p.tables e below (s₁.setTop (mkF m 5 #[.val (.long q0), .second, .val (.int (128 : Int32))] [(.long q0)])) _
    refine X0.ldc2Long hx hown (mvT hZ (hw _ (List.mem_of_getElem? (i := 26) rfl))) (g := (mkF m 5 #[.val (.long q0), .second, .val (.int (128 : Int32))] [(.long q0)])) rfl (hb hby d4_5) _ ?_
    show Steps p.tables e below (s₁.setTop (mkF m 8 #[.val (.long q0), .second, .val (.int (128 : Int32))] [(.long (-128 : Int64)), (.long q0)])) _
    refine XS.lcmp X0.here hx rfl (hb hby d4_8) rfl ?_
    show Steps p.tables e below (s₁.setTop (mkF m 9 #[.val (.long q0), .second, .val (.int (128 : Int32))] [(.int (lcmpW q0 (-128 : Int64)))])) _
    exact kt
  by_cases hc2 : (lcmpW q0 (-128 : Int64)) < (0 : Int32)
  ·
    have K3 : ∀ t, Steps p.tables e below (s₁.setTop (mkF m 31 #[.val (.long q0), .second, .val (.int (128 : Int32))] [])) t → Steps p.tables e below G0 t := by
      intro t kt
      refine K1 t ?_
      refine XS.ifYes X0.here hx rfl (pc0 := 9) (pc' := 31) rfl (hb hby d4_9) rfl ((if0 _ _).trans (tlt hc2).1) (by decide) (by decide) ?_
      show Steps p.tables e below (s₁.setTop (mkF m 31 #[.val (.long q0), .second, .val (.int (128 : Int32))] [])) _
      exact kt
    obtain ⟨T4, h4, X4, e4, E4, A4, D4, -, st4⟩ := newO X0 hx hZ hown (hw _ (List.mem_of_getElem? (i := 33) rfl)) (hw _ (List.mem_of_getElem? (i := 34) rfl)) (hw _ (List.mem_of_getElem? (i := 24) rfl)) e0 (g := (mkF m 31 #[.val (.long q0), .second, .val (.int (128 : Int32))] [])) rfl (hb hby d4_31) (by decide) (by decide)
    obtain ⟨b4, g4⟩ : ∃ z, z = h0.size := ⟨_, rfl⟩
    rw [← g4] at A4 D4 st4
    have gn4 : n0 ≤ b4 := Nat.le_trans Z0 (Nat.le_of_eq g4.symm)
    have Z4 : n0 ≤ h4.size := Nat.le_trans Z0 E4.1
    have K4 : ∀ t, Steps p.tables e below (T4.setTop (mkF m 34 #[.val (.long q0), .second, .val (.int (128 : Int32))] [(.ref b4)])) t → Steps p.tables e below G0 t := fun t kt => K3 t (st4 _ kt)
    have F_value_b4 := (D4 (Or.inr (hw _ (List.mem_of_getElem? (i := 47) rfl))) (ty := .long) (by decide) : Fld Z h4 b4 "java/lang/Long" "value" "J" (.long (0 : Int64)))
    have K6 : ∀ t, Steps p.tables e below (T4.setTop (mkF m 36 #[.val (.long q0), .second, .val (.int (128 : Int32))] [(.long q0), (.ref b4), (.ref b4)])) t → Steps p.tables e below G0 t := by
      intro t kt
      refine K4 t ?_
      refine XS.dup X4.here hx rfl (hb hby d4_34) rfl rfl ?_
      show Steps p.tables e below (T4.setTop (mkF m 35 #[.val (.long q0), .second, .val (.int (128 : Int32))] [(.ref b4), (.ref b4)])) _
      refine XS.lloadN X4.here hx rfl (hb hby d4_35) rfl ?_
      show Steps p.tables e below (T4.setTop (mkF m 36 #[.val (.long q0), .second, .val (.int (128 : Int32))] [(.long q0), (.ref b4), (.ref b4)])) _
      exact kt
    obtain ⟨_, _, ⟨T7, L7, k7, n7⟩, -, X7, ⟨Lc7, hQ7, l7, y7, z7⟩, st7⟩ := X4.specialBack hx (y := (⟨"java/lang/Long", "<init>", "(J)V"⟩ : MethodName)) rfl hown (mvT hZ (hw _ (List.mem_of_getElem? (i := 35) rfl))) (mvT hZ (hw _ (List.mem_of_getElem? (i := 36) rfl))) (mvT hZ (hw _ (List.mem_of_getElem? (i := 38) rfl))) (by decide) (backOf (W := 1) (rm5 l Z aa hw [] (b4) (q0) _ h4 n0 Z4 gn4 A4 F_value_b4) hZ (hw _ (List.mem_of_getElem? (i := 38) rfl)) (hw _ (List.mem_of_getElem? (i := 24) rfl)) (by decide) (by decide)) (g := (mkF m 36 #[.val (.long q0), .second, .val (.int (128 : Int32))] [(.long q0), (.ref b4), (.ref b4)])) rfl (by rw [hml]; rfl) (Steps.refl _) (a := b4) (argsL := [(.long q0)]) (rest := [(.ref b4)]) (lenOf pd_PJQV rfl) rfl (by show 2 * 0 + _ ≤ _; exact Nat.le_of_eq rfl) (hb hby d4_36) (fun _ _ => ⟨rfl, e4, (by decide : 1 + 0 ≤ _), (by decide : 1 + 0 ≤ _)⟩)
    dsimp only [Pt.U, Pt.locs, Pt.cells, Pt.slots] at X7 l7 y7 z7 st7 hQ7
    subst l7 y7 z7
    obtain ⟨rfl, N7q, KK5, EE5, Fc0_5⟩ := hQ7
    have N7 := Fr.app N0 N7q
    have K7 : ∀ t, Steps p.tables e below (T7.setTop (mkF m 39 #[.val (.long q0), .second, .val (.int (128 : Int32))] [(.ref b4)])) t → Steps p.tables e below G0 t := fun t kt => K6 t (st7.trans kt)
    have ZZ5 : n0 ≤ T7.heap.size := Nat.le_trans Z4 KK5.1
    obtain ⟨fs, hr, hrun, hended, hW, hsame⟩ := X7.leave (v := some (.ref b4)) (fun h => by rw [Bd.returns] at h; cases h)
    refine ⟨_, _, ?_, hrun, hended, _, _, rfl, ?_, ⟨_, rfl⟩, hW, hsame.mono (by decide) (by decide)⟩
    · rw [← hG0]
      refine K7 _ ?_
      exact retOut X7 hx (t := (.object "java/lang/Long")) Bd.returns rfl (Or.inr (Or.inr (Or.inr (Or.inr ⟨rfl, rfl, rfl⟩)))) (hb hby d4_39) hr
    · show Q4 Z q0 ca cc h0 n0 _ T7.heap _
      exact ⟨_, rfl, N7, ((Keep.refl h0 []).ext E4).trans KK5 (fun x hx => Or.inr (by cases List.mem_singleton.mp hx; exact Nat.le_of_eq g4.symm)), EE5⟩
  ·
    have K8 : ∀ t, Steps p.tables e below (s₁.setTop (mkF m 17 #[.val (.long q0), .second, .val (.int (128 : Int32))] [(.int (lcmpW q0 (127 : Int64)))])) t → Steps p.tables e below G0 t := by
      intro t kt
      refine K1 t ?_
      refine XS.ifNo X0.here hx rfl (hb hby d4_9) rfl ((if0 _ _).trans (flt hc2).1) ?_
      show Steps p.tables e below (s₁.setTop (mkF m 12 #[.val (.long q0), .second, .val (.int (128 : Int32))] [])) _
      refine XS.lloadN X0.here hx rfl (hb hby d4_12) rfl ?_
      show Steps p.tables e below (s₁.setTop (mkF m 13 #[.val (.long q0), .second, .val (.int (128 : Int32))] [(.long q0)])) _
      refine X0.ldc2Long hx hown (mvT hZ (hw _ (List.mem_of_getElem? (i := 27) rfl))) (g := (mkF m 13 #[.val (.long q0), .second, .val (.int (128 : Int32))] [(.long q0)])) rfl (hb hby d4_13) _ ?_
      show Steps p.tables e below (s₁.setTop (mkF m 16 #[.val (.long q0), .second, .val (.int (128 : Int32))] [(.long (127 : Int64)), (.long q0)])) _
      refine XS.lcmp X0.here hx rfl (hb hby d4_16) rfl ?_
      show Steps p.tables e below (s₁.setTop (mkF m 17 #[.val (.long q0), .second, .val (.int (128 : Int32))] [(.int (lcmpW q0 (127 : Int64)))])) _
      exact kt
    by_cases hc9 : (0 : Int32) < (lcmpW q0 (127 : Int64))
    ·
      have K10 : ∀ t, Steps p.tables e below (s₁.setTop (mkF m 31 #[.val (.long q0), .second, .val (.int (128 : Int32))] [])) t → Steps p.tables e below G0 t := by
        intro t kt
        refine K8 t ?_
        refine XS.ifYes X0.here hx rfl (pc0 := 17) (pc' := 31) rfl (hb hby d4_17) rfl ((if0 _ _).trans (tlt hc9).2.2.1) (by decide) (by decide) ?_
        show Steps p.tables e below (s₁.setTop (mkF m 31 #[.val (.long q0), .second, .val (.int (128 : Int32))] [])) _
        exact kt
      obtain ⟨T11, h11, X11, e11, E11, A11, D11, -, st11⟩ := newO X0 hx hZ hown (hw _ (List.mem_of_getElem? (i := 33) rfl)) (hw _ (List.mem_of_getElem? (i := 34) rfl)) (hw _ (List.mem_of_getElem? (i := 24) rfl)) e0 (g := (mkF m 31 #[.val (.long q0), .second, .val (.int (128 : Int32))] [])) rfl (hb hby d4_31) (by decide) (by decide)
      obtain ⟨b11, g11⟩ : ∃ z, z = h0.size := ⟨_, rfl⟩
      rw [← g11] at A11 D11 st11
      have gn11 : n0 ≤ b11 := Nat.le_trans Z0 (Nat.le_of_eq g11.symm)
      have Z11 : n0 ≤ h11.size := Nat.le_trans Z0 E11.1
      have K11 : ∀ t, Steps p.tables e below (T11.setTop (mkF m 34 #[.val (.long q0), .second, .val (.int (128 : Int32))] [(.ref b11)])) t → Steps p.tables e below G0 t := fun t kt => K10 t (st11 _ kt)
      have F_value_b11 := (D11 (Or.inr (hw _ (List.mem_of_getElem? (i := 47) rfl))) (ty := .long) (by decide) : Fld Z h11 b11 "java/lang/Long" "value" "J" (.long (0 : Int64)))
      have K13 : ∀ t, Steps p.tables e below (T11.setTop (mkF m 36 #[.val (.long q0), .second, .val (.int (128 : Int32))] [(.long q0), (.ref b11), (.ref b11)])) t → Steps p.tables e below G0 t := by
        intro t kt
        refine K11 t ?_
        refine XS.dup X11.here hx rfl (hb hby d4_34) rfl rfl ?_
        show Steps p.tables e below (T11.setTop (mkF m 35 #[.val (.long q0), .second, .val (.int (128 : Int32))] [(.ref b11), (.ref b11)])) _
        refine XS.lloadN X11.here hx rfl (hb hby d4_35) rfl ?_
        show Steps p.tables e below (T11.setTop (mkF m 36 #[.val (.long q0), .second, .val (.int (128 : Int32))] [(.long q0), (.ref b11), (.ref b11)])) _
        exact kt
      obtain ⟨_, _, ⟨T14, L14, k14, n14⟩, -, X14, ⟨Lc14, hQ14, l14, y14, z14⟩, st14⟩ := X11.specialBack hx (y := (⟨"java/lang/Long", "<init>", "(J)V"⟩ : MethodName)) rfl hown (mvT hZ (hw _ (List.mem_of_getElem? (i := 35) rfl))) (mvT hZ (hw _ (List.mem_of_getElem? (i := 36) rfl))) (mvT hZ (hw _ (List.mem_of_getElem? (i := 38) rfl))) (by decide) (backOf (W := 1) (rm5 l Z aa hw [] (b11) (q0) _ h11 n0 Z11 gn11 A11 F_value_b11) hZ (hw _ (List.mem_of_getElem? (i := 38) rfl)) (hw _ (List.mem_of_getElem? (i := 24) rfl)) (by decide) (by decide)) (g := (mkF m 36 #[.val (.long q0), .second, .val (.int (128 : Int32))] [(.long q0), (.ref b11), (.ref b11)])) rfl (by rw [hml]; rfl) (Steps.refl _) (a := b11) (argsL := [(.long q0)]) (rest := [(.ref b11)]) (lenOf pd_PJQV rfl) rfl (by show 2 * 0 + _ ≤ _; exact Nat.le_of_eq rfl) (hb hby d4_36) (fun _ _ => ⟨rfl, e11, (by decide : 1 + 0 ≤ _), (by decide : 1 + 0 ≤ _)⟩)
      dsimp only [Pt.U, Pt.locs, Pt.cells, Pt.slots] at X14 l14 y14 z14 st14 hQ14
      subst l14 y14 z14
      obtain ⟨rfl, N14q, KK12, EE12, Fc0_12⟩ := hQ14
      have N14 := Fr.app N0 N14q
      have K14 : ∀ t, Steps p.tables e below (T14.setTop (mkF m 39 #[.val (.long q0), .second, .val (.int (128 : Int32))] [(.ref b11)])) t → Steps p.tables e below G0 t := fun t kt => K13 t (st14.trans kt)
      have ZZ12 : n0 ≤ T14.heap.size := Nat.le_trans Z11 KK12.1
      obtain ⟨fs, hr, hrun, hended, hW, hsame⟩ := X14.leave (v := some (.ref b11)) (fun h => by rw [Bd.returns] at h; cases h)
      refine ⟨_, _, ?_, hrun, hended, _, _, rfl, ?_, ⟨_, rfl⟩, hW, hsame.mono (by decide) (by decide)⟩
      · rw [← hG0]
        refine K14 _ ?_
        exact retOut X14 hx (t := (.object "java/lang/Long")) Bd.returns rfl (Or.inr (Or.inr (Or.inr (Or.inr ⟨rfl, rfl, rfl⟩)))) (hb hby d4_39) hr
      · show Q4 Z q0 ca cc h0 n0 _ T14.heap _
        exact ⟨_, rfl, N14, ((Keep.refl h0 []).ext E11).trans KK12 (fun x hx => Or.inr (by cases List.mem_singleton.mp hx; exact Nat.le_of_eq g11.symm)), EE12⟩
    ·
      have K15 : ∀ t, Steps p.tables e below (s₁.setTop (mkF m 20 #[.val (.long q0), .second, .val (.int (128 : Int32))] [])) t → Steps p.tables e below G0 t := by
        intro t kt
        refine K8 t ?_
        refine XS.ifNo X0.here hx rfl (hb hby d4_17) rfl ((if0 _ _).trans (flt hc9).2.2.1) ?_
        show Steps p.tables e below (s₁.setTop (mkF m 20 #[.val (.long q0), .second, .val (.int (128 : Int32))] [])) _
        exact kt
      obtain ⟨T16, X16, e16, st16⟩ := getS2 X0 hx hZ hown (host := "") (Or.inl (hw _ (List.mem_of_getElem? (i := 28) rfl))) Via.refl e0 SC (g := (mkF m 20 #[.val (.long q0), .second, .val (.int (128 : Int32))] [])) rfl (hb hby d4_20)
      have K16 : ∀ t, Steps p.tables e below (T16.setTop (mkF m 23 #[.val (.long q0), .second, .val (.int (128 : Int32))] [(.ref ca)])) t → Steps p.tables e below G0 t := fun t kt => K15 t (st16 _ kt)
      have hin := own_idx (fun q => hc2 ((lw_lt _ _).mpr q)) (fun q => hc9 ((lw_gt _ _).mpr q)) cc.slots.size hsz
      obtain ⟨b, hat, Eb⟩ := hel _ hin
      have K17 : ∀ t, Steps p.tables e below (T16.setTop (mkF m 30 #[.val (.long q0), .second, .val (.int (128 : Int32))] [(.ref b)])) t → Steps p.tables e below G0 t := by
        intro t kt
        refine K16 t ?_
        refine XS.lloadN X16.here hx rfl (hb hby d4_23) rfl ?_
        show Steps p.tables e below (T16.setTop (mkF m 24 #[.val (.long q0), .second, .val (.int (128 : Int32))] [(.long q0), (.ref ca)])) _
        refine XS.l2i X16.here hx rfl (hb hby d4_24) rfl ?_
        show Steps p.tables e below (T16.setTop (mkF m 25 #[.val (.long q0), .second, .val (.int (128 : Int32))] [(.int (q0.toInt32)), (.ref ca)])) _
        refine XS.sipush X16.here hx rfl (hb hby d4_25) ?_
        show Steps p.tables e below (T16.setTop (mkF m 28 #[.val (.long q0), .second, .val (.int (128 : Int32))] [(.int (128 : Int32)), (.int (q0.toInt32)), (.ref ca)])) _
        refine XS.iadd X16.here hx rfl (hb hby d4_28) rfl ?_
        show Steps p.tables e below (T16.setTop (mkF m 29 #[.val (.long q0), .second, .val (.int (128 : Int32))] [(.int ((q0.toInt32) + (128 : Int32))), (.ref ca)])) _
        refine X16.aaload hx (j := ((q0.toInt32) + (128 : Int32))) (v := (.ref b)) (by rw [e16]; exact (AC).1) (State.isArrayOf_alike hZ.alike (AC).2.1) rfl (AC).2.2 hin hat (g := (mkF m 29 #[.val (.long q0), .second, .val (.int (128 : Int32))] [(.int ((q0.toInt32) + (128 : Int32))), (.ref ca)])) rfl rfl (hb hby d4_29) _ ?_
        show Steps p.tables e below (T16.setTop (mkF m 30 #[.val (.long q0), .second, .val (.int (128 : Int32))] [(.ref b)])) _
        exact kt
      obtain ⟨fs, hr, hrun, hended, hW, hsame⟩ := X16.leave (v := some (.ref b)) (fun h => by rw [Bd.returns] at h; cases h)
      refine ⟨_, _, ?_, hrun, hended, _, _, rfl, ?_, ⟨_, rfl⟩, hW, hsame.mono (by decide) (by decide)⟩
      · rw [← hG0]
        refine K17 _ ?_
        exact retOut X16 hx (t := (.object "java/lang/Long")) Bd.returns rfl (Or.inr (Or.inr (Or.inr (Or.inr ⟨rfl, rfl, rfl⟩)))) (hb hby d4_30) hr
      · show Q4 Z q0 ca cc h0 n0 _ T16.heap _
        rw [e16]
        exact ⟨b, rfl, N0, Keep.refl _ _, Eb⟩
theorem pn_com_example_slackwise_slackwise_workload_ExactMbEqualsPinLaw : plainName "com/example/slackwise/slackwise/workload/ExactMbEqualsPinLaw" = true := by first | (simp [plainName, overriddenIn]; done) | decide +kernel
theorem pd_PJJJQV : parseMethodDescriptor "(JJJ)V" = some ⟨[.long, .long, .long], none⟩ := by decide +kernel
theorem pd_PLjava_lang_Object_QZ : parseMethodDescriptor "(Ljava/lang/Object;)Z" = some ⟨[(.object "java/lang/Object")], some .boolean⟩ := by decide +kernel
theorem pd_PJQLjava_lang_Long_ : parseMethodDescriptor "(J)Ljava/lang/Long;" = some ⟨[.long], some (.object "java/lang/Long")⟩ := by decide +kernel
theorem ef_rm0 (m : MethodId) (qw : Int64) (qn : Int64) (qd : Int64) (qdw : Int64) (qdn : Int64) (sel : Int32) : entryFrame m #[(.long qw), (.long qn), (.long qd), (.long qdw), (.long qdn), (.int sel)] maxLocals = (mkF m 0 #[.val (.long qw), .second, .val (.long qn), .second, .val (.long qd), .second, .val (.long qdw), .second, .val (.long qdn), .second, .val (.int sel), .unset, .unset, .unset, .unset, .unset, .unset, .unset, .unset, .unset] []) := by first | (simp [entryFrame, mkF, argsToLocals, Value.category, maxLocals]; done) | rfl
def Q0 (Z : State) (qw : Int64) (qn : Int64) (qd : Int64) (qdw : Int64) (qdn : Int64) (sel : Int32) (ca : Addr) (cc : Cell) (h0 : Heap) (n0 : Nat) (v : Option Value) (h : Heap) (L : List Loc) : Prop := v = some (.int 1) ∧ Fr n0 L
set_option maxRecDepth 65536 in
set_option maxHeartbeats 40000000 in
theorem rm0 (l : Launch) (Z : State) (aa : Array Value) (hw : ∀ d ∈ tables_1, d.before aa Z = true) (ws : List Jvm.Cond) (qw : Int64) (qn : Int64) (qd : Int64) (qdw : Int64) (qdn : Int64) (sel : Int32) (ca : Addr) (cc : Cell) (h0 : Heap) (n0 : Nat) (Z0 : n0 ≤ h0.size) (HO : Old Z n0 h0) (SC : Sta Z Z.heap "java/lang/Long$LongCache" "cache" "[Ljava/lang/Long;" (.ref ca)) (BX : Bxs Z ca cc "java/lang/Long" "J" (256 : Int32) (fun j => .long (j - (128 : Int32)).toInt64)) :
    MetFree l x (head1 (Jvm.Cond.code x code maxLocals ret :: ws) room_1) (fun a U => a = #[(.long qw), (.long qn), (.long qd), (.long qdw), (.long qdn), (.int sel)] ∧ Z.Warmed39 U.vm ∧ U.heap = h0) (fun _ _ _ _ _ => True) (fun _ U o U' => ∃ v L, o = .returned v ∧ Q0 Z qw qn qd qdw qdn sel ca cc h0 n0 v U'.heap L ∧ FrameEnd U o U' L room_1.cells room_1.slots) := by
  refine MetFree.of_bodySF (plainFor_of_name pn_com_example_slackwise_slackwise_workload_ExactMbEqualsPinLaw) hisR ?_
  intro p e s m args below meth c s₁ Bd hml0 hP hK
  obtain ⟨rfl, hZ, hh⟩ := hP
  have hx := Bd.exec
  have hby := Bd.bytes
  have hml : c.maxLocals = 20 := hml0
  have hown : s.vm.findClass "com/example/slackwise/slackwise/workload/ExactMbEqualsPinLaw" = some m.cls := findClass_of_methodNamed Bd.named
  have hnm := (name_of_methodNamed Bd.named Bd.method).1
  have X0 : Stand p l e room_1 s m #[(.long qw), (.long qn), (.long qd), (.long qdw), (.long qdn), (.int sel)] below meth c s₁ [] 0 0 := Stand.of_body Bd
  have e0 : s₁.heap = h0 := by rw [← hh, Bd.state]; rfl
  have N0 := Fr.nil n0
  obtain ⟨G0, hG0⟩ : ∃ G, G = s₁.setTop (entryFrame m #[(.long qw), (.long qn), (.long qd), (.long qdw), (.long qdn), (.int sel)] maxLocals) := ⟨_, rfl⟩
  have K0 : ∀ t, Steps p.tables e below (s₁.setTop (mkF m 0 #[.val (.long qw), .second, .val (.long qn), .second, .val (.long qd), .second, .val (.long qdw), .second, .val (.long qdn), .second, .val (.int sel), .unset, .unset, .unset, .unset, .unset, .unset, .unset, .unset, .unset] [])) t → Steps p.tables e below G0 t := fun t k => by rw [hG0]; exact castTop (ef_rm0 m qw qn qd qdw qdn sel) k
  have K1 : ∀ t, Steps p.tables e below (s₁.setTop (mkF m 4 #[.val (.long qw), .second, .val (.long qn), .second, .val (.long qd), .second, .val (.long qdw), .second, .val (.long qdn), .second, .val (.int sel), .unset, .unset, .unset, .unset, .unset, .unset, .unset, .unset, .unset] [(.int (sel &&& (1 : Int32)))])) t → Steps p.tables e below G0 t := by
    intro t kt
    refine K0 t ?_
    refine XS.iload X0.here hx rfl (hb hby at_0) rfl ?_
    show Steps p.tables e below (s₁.setTop (mkF m 2 #[.val (.long qw), .second, .val (.long qn), .second, .val (.long qd), .second, .val (.long qdw), .second, .val (.long qdn), .second, .val (.int sel), .unset, .unset, .unset, .unset, .unset, .unset, .unset, .unset, .unset] [(.int sel)])) _
    refine XS.iconst X0.here hx rfl (hb hby at_2) ?_
    show Steps p.tables e below (s₁.setTop (mkF m 3 #[.val (.long qw), .second, .val (.long qn), .second, .val (.long qd), .second, .val (.long qdw), .second, .val (.long qdn), .second, .val (.int sel), .unset, .unset, .unset, .unset, .unset, .unset, .unset, .unset, .unset] [(.int (1 : Int32)), (.int sel)])) _
    refine XS.iand X0.here hx rfl (hb hby at_3) rfl ?_
    show Steps p.tables e below (s₁.setTop (mkF m 4 #[.val (.long qw), .second, .val (.long qn), .second, .val (.long qd), .second, .val (.long qdw), .second, .val (.long qdn), .second, .val (.int sel), .unset, .unset, .unset, .unset, .unset, .unset, .unset, .unset, .unset] [(.int (sel &&& (1 : Int32)))])) _
    exact kt
  have K2 : ∀ t, Steps p.tables e below (s₁.setTop (mkF m 17 #[.val (.long qw), .second, .val (.long qn), .second, .val (.long qd), .second, .val (.long qdw), .second, .val (.long qdn), .second, .val (.int sel), .val (.long (own_pick (sel &&& (1 : Int32)) qw (qw + qdw))), .second, .unset, .unset, .unset, .unset, .unset, .unset, .unset] [])) t → Steps p.tables e below G0 t := by
    by_cases hc3 : (sel &&& (1 : Int32)) = (0 : Int32)
    ·
      have K4 : ∀ t, Steps p.tables e below (s₁.setTop (mkF m 17 #[.val (.long qw), .second, .val (.long qn), .second, .val (.long qd), .second, .val (.long qdw), .second, .val (.long qdn), .second, .val (.int sel), .val (.long qw), .second, .unset, .unset, .unset, .unset, .unset, .unset, .unset] [])) t → Steps p.tables e below G0 t := by
        intro t kt
        refine K1 t ?_
        refine XS.ifYes X0.here hx rfl (pc0 := 4) (pc' := 14) rfl (hb hby at_4) rfl ((if0 _ _).trans (teq hc3).1) (by decide) (by decide) ?_
        show Steps p.tables e below (s₁.setTop (mkF m 14 #[.val (.long qw), .second, .val (.long qn), .second, .val (.long qd), .second, .val (.long qdw), .second, .val (.long qdn), .second, .val (.int sel), .unset, .unset, .unset, .unset, .unset, .unset, .unset, .unset, .unset] [])) _
        refine XS.lloadN X0.here hx rfl (hb hby at_14) rfl ?_
        show Steps p.tables e below (s₁.setTop (mkF m 15 #[.val (.long qw), .second, .val (.long qn), .second, .val (.long qd), .second, .val (.long qdw), .second, .val (.long qdn), .second, .val (.int sel), .unset, .unset, .unset, .unset, .unset, .unset, .unset, .unset, .unset] [(.long qw)])) _
        refine XS.lstore X0.here hx rfl (hb hby at_15) rfl (l' := #[.val (.long qw), .second, .val (.long qn), .second, .val (.long qd), .second, .val (.long qdw), .second, .val (.long qdn), .second, .val (.int sel), .val (.long qw), .second, .unset, .unset, .unset, .unset, .unset, .unset, .unset]) rfl ?_
        show Steps p.tables e below (s₁.setTop (mkF m 17 #[.val (.long qw), .second, .val (.long qn), .second, .val (.long qd), .second, .val (.long qdw), .second, .val (.long qdn), .second, .val (.int sel), .val (.long qw), .second, .unset, .unset, .unset, .unset, .unset, .unset, .unset] [])) _
        exact kt
      unfold own_pick
      rw [if_pos hc3]
      exact K4
    ·
      have K5 : ∀ t, Steps p.tables e below (s₁.setTop (mkF m 17 #[.val (.long qw), .second, .val (.long qn), .second, .val (.long qd), .second, .val (.long qdw), .second, .val (.long qdn), .second, .val (.int sel), .val (.long (qw + qdw)), .second, .unset, .unset, .unset, .unset, .unset, .unset, .unset] [])) t → Steps p.tables e below G0 t := by
        intro t kt
        refine K1 t ?_
        refine XS.ifNo X0.here hx rfl (hb hby at_4) rfl ((if0 _ _).trans (feq hc3).1) ?_
        show Steps p.tables e below (s₁.setTop (mkF m 7 #[.val (.long qw), .second, .val (.long qn), .second, .val (.long qd), .second, .val (.long qdw), .second, .val (.long qdn), .second, .val (.int sel), .unset, .unset, .unset, .unset, .unset, .unset, .unset, .unset, .unset] [])) _
        refine XS.lloadN X0.here hx rfl (hb hby at_7) rfl ?_
        show Steps p.tables e below (s₁.setTop (mkF m 8 #[.val (.long qw), .second, .val (.long qn), .second, .val (.long qd), .second, .val (.long qdw), .second, .val (.long qdn), .second, .val (.int sel), .unset, .unset, .unset, .unset, .unset, .unset, .unset, .unset, .unset] [(.long qw)])) _
        refine XS.lload X0.here hx rfl (hb hby at_8) rfl ?_
        show Steps p.tables e below (s₁.setTop (mkF m 10 #[.val (.long qw), .second, .val (.long qn), .second, .val (.long qd), .second, .val (.long qdw), .second, .val (.long qdn), .second, .val (.int sel), .unset, .unset, .unset, .unset, .unset, .unset, .unset, .unset, .unset] [(.long qdw), (.long qw)])) _
        refine XS.ladd X0.here hx rfl (hb hby at_10) rfl ?_
        show Steps p.tables e below (s₁.setTop (mkF m 11 #[.val (.long qw), .second, .val (.long qn), .second, .val (.long qd), .second, .val (.long qdw), .second, .val (.long qdn), .second, .val (.int sel), .unset, .unset, .unset, .unset, .unset, .unset, .unset, .unset, .unset] [(.long (qw + qdw))])) _
        refine XS.goto X0.here hx rfl (pc0 := 11) (pc' := 15) rfl (hb hby at_11) (by decide) (by decide) ?_
        show Steps p.tables e below (s₁.setTop (mkF m 15 #[.val (.long qw), .second, .val (.long qn), .second, .val (.long qd), .second, .val (.long qdw), .second, .val (.long qdn), .second, .val (.int sel), .unset, .unset, .unset, .unset, .unset, .unset, .unset, .unset, .unset] [(.long (qw + qdw))])) _
        refine XS.lstore X0.here hx rfl (hb hby at_15) rfl (l' := #[.val (.long qw), .second, .val (.long qn), .second, .val (.long qd), .second, .val (.long qdw), .second, .val (.long qdn), .second, .val (.int sel), .val (.long (qw + qdw)), .second, .unset, .unset, .unset, .unset, .unset, .unset, .unset]) rfl ?_
        show Steps p.tables e below (s₁.setTop (mkF m 17 #[.val (.long qw), .second, .val (.long qn), .second, .val (.long qd), .second, .val (.long qdw), .second, .val (.long qdn), .second, .val (.int sel), .val (.long (qw + qdw)), .second, .unset, .unset, .unset, .unset, .unset, .unset, .unset] [])) _
        exact kt
      unfold own_pick
      rw [if_neg hc3]
      exact K5
  obtain ⟨w2, h_w2⟩ : ∃ z, z = (own_pick (sel &&& (1 : Int32)) qw (qw + qdw)) := ⟨_, rfl⟩
  rw [← h_w2] at K2
  have K6 : ∀ t, Steps p.tables e below (s₁.setTop (mkF m 21 #[.val (.long qw), .second, .val (.long qn), .second, .val (.long qd), .second, .val (.long qdw), .second, .val (.long qdn), .second, .val (.int sel), .val (.long w2), .second, .unset, .unset, .unset, .unset, .unset, .unset, .unset] [(.int (sel &&& (2 : Int32)))])) t → Steps p.tables e below G0 t := by
    intro t kt
    refine K2 t ?_
    refine XS.iload X0.here hx rfl (hb hby at_17) rfl ?_
    show Steps p.tables e below (s₁.setTop (mkF m 19 #[.val (.long qw), .second, .val (.long qn), .second, .val (.long qd), .second, .val (.long qdw), .second, .val (.long qdn), .second, .val (.int sel), .val (.long w2), .second, .unset, .unset, .unset, .unset, .unset, .unset, .unset] [(.int sel)])) _
    refine XS.iconst X0.here hx rfl (hb hby at_19) ?_
    show Steps p.tables e below (s₁.setTop (mkF m 20 #[.val (.long qw), .second, .val (.long qn), .second, .val (.long qd), .second, .val (.long qdw), .second, .val (.long qdn), .second, .val (.int sel), .val (.long w2), .second, .unset, .unset, .unset, .unset, .unset, .unset, .unset] [(.int (2 : Int32)), (.int sel)])) _
    refine XS.iand X0.here hx rfl (hb hby at_20) rfl ?_
    show Steps p.tables e below (s₁.setTop (mkF m 21 #[.val (.long qw), .second, .val (.long qn), .second, .val (.long qd), .second, .val (.long qdw), .second, .val (.long qdn), .second, .val (.int sel), .val (.long w2), .second, .unset, .unset, .unset, .unset, .unset, .unset, .unset] [(.int (sel &&& (2 : Int32)))])) _
    exact kt
  have K7 : ∀ t, Steps p.tables e below (s₁.setTop (mkF m 34 #[.val (.long qw), .second, .val (.long qn), .second, .val (.long qd), .second, .val (.long qdw), .second, .val (.long qdn), .second, .val (.int sel), .val (.long w2), .second, .val (.long (own_pick (sel &&& (2 : Int32)) qn (qn + qdn))), .second, .unset, .unset, .unset, .unset, .unset] [])) t → Steps p.tables e below G0 t := by
    by_cases hc8 : (sel &&& (2 : Int32)) = (0 : Int32)
    ·
      have K9 : ∀ t, Steps p.tables e below (s₁.setTop (mkF m 34 #[.val (.long qw), .second, .val (.long qn), .second, .val (.long qd), .second, .val (.long qdw), .second, .val (.long qdn), .second, .val (.int sel), .val (.long w2), .second, .val (.long qn), .second, .unset, .unset, .unset, .unset, .unset] [])) t → Steps p.tables e below G0 t := by
        intro t kt
        refine K6 t ?_
        refine XS.ifYes X0.here hx rfl (pc0 := 21) (pc' := 31) rfl (hb hby at_21) rfl ((if0 _ _).trans (teq hc8).1) (by decide) (by decide) ?_
        show Steps p.tables e below (s₁.setTop (mkF m 31 #[.val (.long qw), .second, .val (.long qn), .second, .val (.long qd), .second, .val (.long qdw), .second, .val (.long qdn), .second, .val (.int sel), .val (.long w2), .second, .unset, .unset, .unset, .unset, .unset, .unset, .unset] [])) _
        refine XS.lloadN X0.here hx rfl (hb hby at_31) rfl ?_
        show Steps p.tables e below (s₁.setTop (mkF m 32 #[.val (.long qw), .second, .val (.long qn), .second, .val (.long qd), .second, .val (.long qdw), .second, .val (.long qdn), .second, .val (.int sel), .val (.long w2), .second, .unset, .unset, .unset, .unset, .unset, .unset, .unset] [(.long qn)])) _
        refine XS.lstore X0.here hx rfl (hb hby at_32) rfl (l' := #[.val (.long qw), .second, .val (.long qn), .second, .val (.long qd), .second, .val (.long qdw), .second, .val (.long qdn), .second, .val (.int sel), .val (.long w2), .second, .val (.long qn), .second, .unset, .unset, .unset, .unset, .unset]) rfl ?_
        show Steps p.tables e below (s₁.setTop (mkF m 34 #[.val (.long qw), .second, .val (.long qn), .second, .val (.long qd), .second, .val (.long qdw), .second, .val (.long qdn), .second, .val (.int sel), .val (.long w2), .second, .val (.long qn), .second, .unset, .unset, .unset, .unset, .unset] [])) _
        exact kt
      unfold own_pick
      rw [if_pos hc8]
      exact K9
    ·
      have K10 : ∀ t, Steps p.tables e below (s₁.setTop (mkF m 34 #[.val (.long qw), .second, .val (.long qn), .second, .val (.long qd), .second, .val (.long qdw), .second, .val (.long qdn), .second, .val (.int sel), .val (.long w2), .second, .val (.long (qn + qdn)), .second, .unset, .unset, .unset, .unset, .unset] [])) t → Steps p.tables e below G0 t := by
        intro t kt
        refine K6 t ?_
        refine XS.ifNo X0.here hx rfl (hb hby at_21) rfl ((if0 _ _).trans (feq hc8).1) ?_
        show Steps p.tables e below (s₁.setTop (mkF m 24 #[.val (.long qw), .second, .val (.long qn), .second, .val (.long qd), .second, .val (.long qdw), .second, .val (.long qdn), .second, .val (.int sel), .val (.long w2), .second, .unset, .unset, .unset, .unset, .unset, .unset, .unset] [])) _
        refine XS.lloadN X0.here hx rfl (hb hby at_24) rfl ?_
        show Steps p.tables e below (s₁.setTop (mkF m 25 #[.val (.long qw), .second, .val (.long qn), .second, .val (.long qd), .second, .val (.long qdw), .second, .val (.long qdn), .second, .val (.int sel), .val (.long w2), .second, .unset, .unset, .unset, .unset, .unset, .unset, .unset] [(.long qn)])) _
        refine XS.lload X0.here hx rfl (hb hby at_25) rfl ?_
        show Steps p.tables e below (s₁.setTop (mkF m 27 #[.val (.long qw), .second, .val (.long qn), .second, .val (.long qd), .second, .val (.long qdw), .second, .val (.long qdn), .second, .val (.int sel), .val (.long w2), .second, .unset, .unset, .unset, .unset, .unset, .unset, .unset] [(.long qdn), (.long qn)])) _
        refine XS.ladd X0.here hx rfl (hb hby at_27) rfl ?_
        show Steps p.tables e below (s₁.setTop (mkF m 28 #[.val (.long qw), .second, .val (.long qn), .second, .val (.long qd), .second, .val (.long qdw), .second, .val (.long qdn), .second, .val (.int sel), .val (.long w2), .second, .unset, .unset, .unset, .unset, .unset, .unset, .unset] [(.long (qn + qdn))])) _
        refine XS.goto X0.here hx rfl (pc0 := 28) (pc' := 32) rfl (hb hby at_28) (by decide) (by decide) ?_
        show Steps p.tables e below (s₁.setTop (mkF m 32 #[.val (.long qw), .second, .val (.long qn), .second, .val (.long qd), .second, .val (.long qdw), .second, .val (.long qdn), .second, .val (.int sel), .val (.long w2), .second, .unset, .unset, .unset, .unset, .unset, .unset, .unset] [(.long (qn + qdn))])) _
        refine XS.lstore X0.here hx rfl (hb hby at_32) rfl (l' := #[.val (.long qw), .second, .val (.long qn), .second, .val (.long qd), .second, .val (.long qdw), .second, .val (.long qdn), .second, .val (.int sel), .val (.long w2), .second, .val (.long (qn + qdn)), .second, .unset, .unset, .unset, .unset, .unset]) rfl ?_
        show Steps p.tables e below (s₁.setTop (mkF m 34 #[.val (.long qw), .second, .val (.long qn), .second, .val (.long qd), .second, .val (.long qdw), .second, .val (.long qdn), .second, .val (.int sel), .val (.long w2), .second, .val (.long (qn + qdn)), .second, .unset, .unset, .unset, .unset, .unset] [])) _
        exact kt
      unfold own_pick
      rw [if_neg hc8]
      exact K10
  obtain ⟨n2, h_n2⟩ : ∃ z, z = (own_pick (sel &&& (2 : Int32)) qn (qn + qdn)) := ⟨_, rfl⟩
  rw [← h_n2] at K7
  have K11 : ∀ t, Steps p.tables e below (s₁.setTop (mkF m 38 #[.val (.long qw), .second, .val (.long qn), .second, .val (.long qd), .second, .val (.long qdw), .second, .val (.long qdn), .second, .val (.int sel), .val (.long w2), .second, .val (.long n2), .second, .unset, .unset, .unset, .unset, .unset] [(.int (sel &&& (4 : Int32)))])) t → Steps p.tables e below G0 t := by
    intro t kt
    refine K7 t ?_
    refine XS.iload X0.here hx rfl (hb hby at_34) rfl ?_
    show Steps p.tables e below (s₁.setTop (mkF m 36 #[.val (.long qw), .second, .val (.long qn), .second, .val (.long qd), .second, .val (.long qdw), .second, .val (.long qdn), .second, .val (.int sel), .val (.long w2), .second, .val (.long n2), .second, .unset, .unset, .unset, .unset, .unset] [(.int sel)])) _
    refine XS.iconst X0.here hx rfl (hb hby at_36) ?_
    show Steps p.tables e below (s₁.setTop (mkF m 37 #[.val (.long qw), .second, .val (.long qn), .second, .val (.long qd), .second, .val (.long qdw), .second, .val (.long qdn), .second, .val (.int sel), .val (.long w2), .second, .val (.long n2), .second, .unset, .unset, .unset, .unset, .unset] [(.int (4 : Int32)), (.int sel)])) _
    refine XS.iand X0.here hx rfl (hb hby at_37) rfl ?_
    show Steps p.tables e below (s₁.setTop (mkF m 38 #[.val (.long qw), .second, .val (.long qn), .second, .val (.long qd), .second, .val (.long qdw), .second, .val (.long qdn), .second, .val (.int sel), .val (.long w2), .second, .val (.long n2), .second, .unset, .unset, .unset, .unset, .unset] [(.int (sel &&& (4 : Int32)))])) _
    exact kt
  have K12 : ∀ t, Steps p.tables e below (s₁.setTop (mkF m 56 #[.val (.long qw), .second, .val (.long qn), .second, .val (.long qd), .second, .val (.long qdw), .second, .val (.long qdn), .second, .val (.int sel), .val (.long w2), .second, .val (.long n2), .second, .val (.long (own_pick (sel &&& (4 : Int32)) qd (qd + ((sel >>> ((3 : Int32) &&& 31)).toInt64)))), .second, .unset, .unset, .unset] [])) t → Steps p.tables e below G0 t := by
    by_cases hc13 : (sel &&& (4 : Int32)) = (0 : Int32)
    ·
      have K14 : ∀ t, Steps p.tables e below (s₁.setTop (mkF m 56 #[.val (.long qw), .second, .val (.long qn), .second, .val (.long qd), .second, .val (.long qdw), .second, .val (.long qdn), .second, .val (.int sel), .val (.long w2), .second, .val (.long n2), .second, .val (.long qd), .second, .unset, .unset, .unset] [])) t → Steps p.tables e below G0 t := by
        intro t kt
        refine K11 t ?_
        refine XS.ifYes X0.here hx rfl (pc0 := 38) (pc' := 52) rfl (hb hby at_38) rfl ((if0 _ _).trans (teq hc13).1) (by decide) (by decide) ?_
        show Steps p.tables e below (s₁.setTop (mkF m 52 #[.val (.long qw), .second, .val (.long qn), .second, .val (.long qd), .second, .val (.long qdw), .second, .val (.long qdn), .second, .val (.int sel), .val (.long w2), .second, .val (.long n2), .second, .unset, .unset, .unset, .unset, .unset] [])) _
        refine XS.lload X0.here hx rfl (hb hby at_52) rfl ?_
        show Steps p.tables e below (s₁.setTop (mkF m 54 #[.val (.long qw), .second, .val (.long qn), .second, .val (.long qd), .second, .val (.long qdw), .second, .val (.long qdn), .second, .val (.int sel), .val (.long w2), .second, .val (.long n2), .second, .unset, .unset, .unset, .unset, .unset] [(.long qd)])) _
        refine XS.lstore X0.here hx rfl (hb hby at_54) rfl (l' := #[.val (.long qw), .second, .val (.long qn), .second, .val (.long qd), .second, .val (.long qdw), .second, .val (.long qdn), .second, .val (.int sel), .val (.long w2), .second, .val (.long n2), .second, .val (.long qd), .second, .unset, .unset, .unset]) rfl ?_
        show Steps p.tables e below (s₁.setTop (mkF m 56 #[.val (.long qw), .second, .val (.long qn), .second, .val (.long qd), .second, .val (.long qdw), .second, .val (.long qdn), .second, .val (.int sel), .val (.long w2), .second, .val (.long n2), .second, .val (.long qd), .second, .unset, .unset, .unset] [])) _
        exact kt
      unfold own_pick
      rw [if_pos hc13]
      exact K14
    ·
      have K15 : ∀ t, Steps p.tables e below (s₁.setTop (mkF m 56 #[.val (.long qw), .second, .val (.long qn), .second, .val (.long qd), .second, .val (.long qdw), .second, .val (.long qdn), .second, .val (.int sel), .val (.long w2), .second, .val (.long n2), .second, .val (.long (qd + ((sel >>> ((3 : Int32) &&& 31)).toInt64))), .second, .unset, .unset, .unset] [])) t → Steps p.tables e below G0 t := by
        intro t kt
        refine K11 t ?_
        refine XS.ifNo X0.here hx rfl (hb hby at_38) rfl ((if0 _ _).trans (feq hc13).1) ?_
        show Steps p.tables e below (s₁.setTop (mkF m 41 #[.val (.long qw), .second, .val (.long qn), .second, .val (.long qd), .second, .val (.long qdw), .second, .val (.long qdn), .second, .val (.int sel), .val (.long w2), .second, .val (.long n2), .second, .unset, .unset, .unset, .unset, .unset] [])) _
        refine XS.lload X0.here hx rfl (hb hby at_41) rfl ?_
        show Steps p.tables e below (s₁.setTop (mkF m 43 #[.val (.long qw), .second, .val (.long qn), .second, .val (.long qd), .second, .val (.long qdw), .second, .val (.long qdn), .second, .val (.int sel), .val (.long w2), .second, .val (.long n2), .second, .unset, .unset, .unset, .unset, .unset] [(.long qd)])) _
        refine XS.iload X0.here hx rfl (hb hby at_43) rfl ?_
        show Steps p.tables e below (s₁.setTop (mkF m 45 #[.val (.long qw), .second, .val (.long qn), .second, .val (.long qd), .second, .val (.long qdw), .second, .val (.long qdn), .second, .val (.int sel), .val (.long w2), .second, .val (.long n2), .second, .unset, .unset, .unset, .unset, .unset] [(.int sel), (.long qd)])) _
        refine XS.iconst X0.here hx rfl (hb hby at_45) ?_
        show Steps p.tables e below (s₁.setTop (mkF m 46 #[.val (.long qw), .second, .val (.long qn), .second, .val (.long qd), .second, .val (.long qdw), .second, .val (.long qdn), .second, .val (.int sel), .val (.long w2), .second, .val (.long n2), .second, .unset, .unset, .unset, .unset, .unset] [(.int (3 : Int32)), (.int sel), (.long qd)])) _
        refine XS.ishr X0.here hx rfl (hb hby at_46) rfl ?_
        show Steps p.tables e below (s₁.setTop (mkF m 47 #[.val (.long qw), .second, .val (.long qn), .second, .val (.long qd), .second, .val (.long qdw), .second, .val (.long qdn), .second, .val (.int sel), .val (.long w2), .second, .val (.long n2), .second, .unset, .unset, .unset, .unset, .unset] [(.int (sel >>> ((3 : Int32) &&& 31))), (.long qd)])) _
        refine XS.i2l X0.here hx rfl (hb hby at_47) rfl ?_
        show Steps p.tables e below (s₁.setTop (mkF m 48 #[.val (.long qw), .second, .val (.long qn), .second, .val (.long qd), .second, .val (.long qdw), .second, .val (.long qdn), .second, .val (.int sel), .val (.long w2), .second, .val (.long n2), .second, .unset, .unset, .unset, .unset, .unset] [(.long ((sel >>> ((3 : Int32) &&& 31)).toInt64)), (.long qd)])) _
        refine XS.ladd X0.here hx rfl (hb hby at_48) rfl ?_
        show Steps p.tables e below (s₁.setTop (mkF m 49 #[.val (.long qw), .second, .val (.long qn), .second, .val (.long qd), .second, .val (.long qdw), .second, .val (.long qdn), .second, .val (.int sel), .val (.long w2), .second, .val (.long n2), .second, .unset, .unset, .unset, .unset, .unset] [(.long (qd + ((sel >>> ((3 : Int32) &&& 31)).toInt64)))])) _
        refine XS.goto X0.here hx rfl (pc0 := 49) (pc' := 54) rfl (hb hby at_49) (by decide) (by decide) ?_
        show Steps p.tables e below (s₁.setTop (mkF m 54 #[.val (.long qw), .second, .val (.long qn), .second, .val (.long qd), .second, .val (.long qdw), .second, .val (.long qdn), .second, .val (.int sel), .val (.long w2), .second, .val (.long n2), .second, .unset, .unset, .unset, .unset, .unset] [(.long (qd + ((sel >>> ((3 : Int32) &&& 31)).toInt64)))])) _
        refine XS.lstore X0.here hx rfl (hb hby at_54) rfl (l' := #[.val (.long qw), .second, .val (.long qn), .second, .val (.long qd), .second, .val (.long qdw), .second, .val (.long qdn), .second, .val (.int sel), .val (.long w2), .second, .val (.long n2), .second, .val (.long (qd + ((sel >>> ((3 : Int32) &&& 31)).toInt64))), .second, .unset, .unset, .unset]) rfl ?_
        show Steps p.tables e below (s₁.setTop (mkF m 56 #[.val (.long qw), .second, .val (.long qn), .second, .val (.long qd), .second, .val (.long qdw), .second, .val (.long qdn), .second, .val (.int sel), .val (.long w2), .second, .val (.long n2), .second, .val (.long (qd + ((sel >>> ((3 : Int32) &&& 31)).toInt64))), .second, .unset, .unset, .unset] [])) _
        exact kt
      unfold own_pick
      rw [if_neg hc13]
      exact K15
  obtain ⟨d2, h_d2⟩ : ∃ z, z = (own_pick (sel &&& (4 : Int32)) qd (qd + ((sel >>> ((3 : Int32) &&& 31)).toInt64))) := ⟨_, rfl⟩
  rw [← h_d2] at K12
  obtain ⟨T16, h16, X16, e16, E16, A16, D16, -, st16⟩ := newO X0 hx hZ hown (hw _ (List.mem_of_getElem? (i := 0) rfl)) (hw _ (List.mem_of_getElem? (i := 1) rfl)) (hw _ (List.mem_of_getElem? (i := 2) rfl)) e0 (g := (mkF m 56 #[.val (.long qw), .second, .val (.long qn), .second, .val (.long qd), .second, .val (.long qdw), .second, .val (.long qdn), .second, .val (.int sel), .val (.long w2), .second, .val (.long n2), .second, .val (.long d2), .second, .unset, .unset, .unset] [])) rfl (hb hby at_56) (by decide) (by decide)
  obtain ⟨b16, g16⟩ : ∃ z, z = h0.size := ⟨_, rfl⟩
  rw [← g16] at A16 D16 st16
  have gn16 : n0 ≤ b16 := Nat.le_trans Z0 (Nat.le_of_eq g16.symm)
  have Z16 : n0 ≤ h16.size := Nat.le_trans Z0 E16.1
  have K16 : ∀ t, Steps p.tables e below (T16.setTop (mkF m 59 #[.val (.long qw), .second, .val (.long qn), .second, .val (.long qd), .second, .val (.long qdw), .second, .val (.long qdn), .second, .val (.int sel), .val (.long w2), .second, .val (.long n2), .second, .val (.long d2), .second, .unset, .unset, .unset] [(.ref b16)])) t → Steps p.tables e below G0 t := fun t kt => K12 t (st16 _ kt)
  have F_whole_b16 := (D16 (Or.inr (hw _ (List.mem_of_getElem? (i := 10) rfl))) (ty := .long) (by decide) : Fld Z h16 b16 "com/example/slackwise/slackwise/workload/ExactMb" "whole" "J" (.long (0 : Int64)))
  have F_numerator_b16 := (D16 (Or.inr (hw _ (List.mem_of_getElem? (i := 12) rfl))) (ty := .long) (by decide) : Fld Z h16 b16 "com/example/slackwise/slackwise/workload/ExactMb" "numerator" "J" (.long (0 : Int64)))
  have F_denominator_b16 := (D16 (Or.inr (hw _ (List.mem_of_getElem? (i := 14) rfl))) (ty := .long) (by decide) : Fld Z h16 b16 "com/example/slackwise/slackwise/workload/ExactMb" "denominator" "J" (.long (0 : Int64)))
  have K18 : ∀ t, Steps p.tables e below (T16.setTop (mkF m 64 #[.val (.long qw), .second, .val (.long qn), .second, .val (.long qd), .second, .val (.long qdw), .second, .val (.long qdn), .second, .val (.int sel), .val (.long w2), .second, .val (.long n2), .second, .val (.long d2), .second, .unset, .unset, .unset] [(.long qd), (.long qn), (.long qw), (.ref b16), (.ref b16)])) t → Steps p.tables e below G0 t := by
    intro t kt
    refine K16 t ?_
    refine XS.dup X16.here hx rfl (hb hby at_59) rfl rfl ?_
    show Steps p.tables e below (T16.setTop (mkF m 60 #[.val (.long qw), .second, .val (.long qn), .second, .val (.long qd), .second, .val (.long qdw), .second, .val (.long qdn), .second, .val (.int sel), .val (.long w2), .second, .val (.long n2), .second, .val (.long d2), .second, .unset, .unset, .unset] [(.ref b16), (.ref b16)])) _
    refine XS.lloadN X16.here hx rfl (hb hby at_60) rfl ?_
    show Steps p.tables e below (T16.setTop (mkF m 61 #[.val (.long qw), .second, .val (.long qn), .second, .val (.long qd), .second, .val (.long qdw), .second, .val (.long qdn), .second, .val (.int sel), .val (.long w2), .second, .val (.long n2), .second, .val (.long d2), .second, .unset, .unset, .unset] [(.long qw), (.ref b16), (.ref b16)])) _
    refine XS.lloadN X16.here hx rfl (hb hby at_61) rfl ?_
    show Steps p.tables e below (T16.setTop (mkF m 62 #[.val (.long qw), .second, .val (.long qn), .second, .val (.long qd), .second, .val (.long qdw), .second, .val (.long qdn), .second, .val (.int sel), .val (.long w2), .second, .val (.long n2), .second, .val (.long d2), .second, .unset, .unset, .unset] [(.long qn), (.long qw), (.ref b16), (.ref b16)])) _
    refine XS.lload X16.here hx rfl (hb hby at_62) rfl ?_
    show Steps p.tables e below (T16.setTop (mkF m 64 #[.val (.long qw), .second, .val (.long qn), .second, .val (.long qd), .second, .val (.long qdw), .second, .val (.long qdn), .second, .val (.int sel), .val (.long w2), .second, .val (.long n2), .second, .val (.long d2), .second, .unset, .unset, .unset] [(.long qd), (.long qn), (.long qw), (.ref b16), (.ref b16)])) _
    exact kt
  obtain ⟨_, _, ⟨T19, L19, k19, n19⟩, -, X19, ⟨Lc19, hQ19, l19, y19, z19⟩, st19⟩ := X16.specialBack hx (y := (⟨"com/example/slackwise/slackwise/workload/ExactMb", "<init>", "(JJJ)V"⟩ : MethodName)) rfl hown (mvT hZ (hw _ (List.mem_of_getElem? (i := 3) rfl))) (mvT hZ (hw _ (List.mem_of_getElem? (i := 4) rfl))) (mvT hZ (hw _ (List.mem_of_getElem? (i := 5) rfl))) (by decide) (backOf (W := 1) (rm1 l Z aa hw [] (b16) (qw) (qn) (qd) _ _ _ h16 n0 Z16 gn16 A16 F_whole_b16 F_numerator_b16 F_denominator_b16) hZ (hw _ (List.mem_of_getElem? (i := 5) rfl)) (hw _ (List.mem_of_getElem? (i := 2) rfl)) (by decide) (by decide)) (g := (mkF m 64 #[.val (.long qw), .second, .val (.long qn), .second, .val (.long qd), .second, .val (.long qdw), .second, .val (.long qdn), .second, .val (.int sel), .val (.long w2), .second, .val (.long n2), .second, .val (.long d2), .second, .unset, .unset, .unset] [(.long qd), (.long qn), (.long qw), (.ref b16), (.ref b16)])) rfl (by rw [hml]; rfl) (Steps.refl _) (a := b16) (argsL := [(.long qw), (.long qn), (.long qd)]) (rest := [(.ref b16)]) (lenOf pd_PJJJQV rfl) rfl (by show 2 * 0 + _ ≤ _; exact Nat.le_of_eq rfl) (hb hby at_64) (fun _ _ => ⟨rfl, e16, (by decide : 1 + 0 ≤ _), (by decide : 3 + 0 ≤ _)⟩)
  dsimp only [Pt.U, Pt.locs, Pt.cells, Pt.slots] at X19 l19 y19 z19 st19 hQ19
  subst l19 y19 z19
  obtain ⟨rfl, N19q, KK17, EE17, Fc0_17, Fc1_17, Fc2_17⟩ := hQ19
  have N19 := Fr.app N0 N19q
  have K19 : ∀ t, Steps p.tables e below (T19.setTop (mkF m 67 #[.val (.long qw), .second, .val (.long qn), .second, .val (.long qd), .second, .val (.long qdw), .second, .val (.long qdn), .second, .val (.int sel), .val (.long w2), .second, .val (.long n2), .second, .val (.long d2), .second, .unset, .unset, .unset] [(.ref b16)])) t → Steps p.tables e below G0 t := fun t kt => K18 t (st19.trans kt)
  have ZZ17 : n0 ≤ T19.heap.size := Nat.le_trans Z16 KK17.1
  have K20 : ∀ t, Steps p.tables e below (T19.setTop (mkF m 69 #[.val (.long qw), .second, .val (.long qn), .second, .val (.long qd), .second, .val (.long qdw), .second, .val (.long qdn), .second, .val (.int sel), .val (.long w2), .second, .val (.long n2), .second, .val (.long d2), .second, .val (.ref b16), .unset, .unset] [])) t → Steps p.tables e below G0 t := by
    intro t kt
    refine K19 t ?_
    refine XS.astore X19.here hx rfl (hb hby at_67) rfl rfl (l' := #[.val (.long qw), .second, .val (.long qn), .second, .val (.long qd), .second, .val (.long qdw), .second, .val (.long qdn), .second, .val (.int sel), .val (.long w2), .second, .val (.long n2), .second, .val (.long d2), .second, .val (.ref b16), .unset, .unset]) rfl ?_
    show Steps p.tables e below (T19.setTop (mkF m 69 #[.val (.long qw), .second, .val (.long qn), .second, .val (.long qd), .second, .val (.long qdw), .second, .val (.long qdn), .second, .val (.int sel), .val (.long w2), .second, .val (.long n2), .second, .val (.long d2), .second, .val (.ref b16), .unset, .unset] [])) _
    exact kt
  obtain ⟨T21, h21, X21, e21, E21, A21, D21, -, st21⟩ := newO X19 hx hZ hown (hw _ (List.mem_of_getElem? (i := 0) rfl)) (hw _ (List.mem_of_getElem? (i := 1) rfl)) (hw _ (List.mem_of_getElem? (i := 2) rfl)) (rfl : T19.heap = _) (g := (mkF m 69 #[.val (.long qw), .second, .val (.long qn), .second, .val (.long qd), .second, .val (.long qdw), .second, .val (.long qdn), .second, .val (.int sel), .val (.long w2), .second, .val (.long n2), .second, .val (.long d2), .second, .val (.ref b16), .unset, .unset] [])) rfl (hb hby at_69) (by decide) (by decide)
  obtain ⟨b21, g21⟩ : ∃ z, z = T19.heap.size := ⟨_, rfl⟩
  rw [← g21] at A21 D21 st21
  have gn21 : n0 ≤ b21 := Nat.le_trans ZZ17 (Nat.le_of_eq g21.symm)
  have Z21 : n0 ≤ h21.size := Nat.le_trans ZZ17 E21.1
  have K21 : ∀ t, Steps p.tables e below (T21.setTop (mkF m 72 #[.val (.long qw), .second, .val (.long qn), .second, .val (.long qd), .second, .val (.long qdw), .second, .val (.long qdn), .second, .val (.int sel), .val (.long w2), .second, .val (.long n2), .second, .val (.long d2), .second, .val (.ref b16), .unset, .unset] [(.ref b21)])) t → Steps p.tables e below G0 t := fun t kt => K20 t (st21 _ kt)
  have ne_b16_b21 : b16 ≠ b21 := Nat.ne_of_lt (Nat.lt_of_lt_of_le (EE17).lt (Nat.le_of_eq g21.symm))
  have F_whole_b21 := (D21 (Or.inr (hw _ (List.mem_of_getElem? (i := 10) rfl))) (ty := .long) (by decide) : Fld Z h21 b21 "com/example/slackwise/slackwise/workload/ExactMb" "whole" "J" (.long (0 : Int64)))
  have F_numerator_b21 := (D21 (Or.inr (hw _ (List.mem_of_getElem? (i := 12) rfl))) (ty := .long) (by decide) : Fld Z h21 b21 "com/example/slackwise/slackwise/workload/ExactMb" "numerator" "J" (.long (0 : Int64)))
  have F_denominator_b21 := (D21 (Or.inr (hw _ (List.mem_of_getElem? (i := 14) rfl))) (ty := .long) (by decide) : Fld Z h21 b21 "com/example/slackwise/slackwise/workload/ExactMb" "denominator" "J" (.long (0 : Int64)))
  have K23 : ∀ t, Steps p.tables e below (T21.setTop (mkF m 79 #[.val (.long qw), .second, .val (.long qn), .second, .val (.long qd), .second, .val (.long qdw), .second, .val (.long qdn), .second, .val (.int sel), .val (.long w2), .second, .val (.long n2), .second, .val (.long d2), .second, .val (.ref b16), .unset, .unset] [(.long d2), (.long n2), (.long w2), (.ref b21), (.ref b21)])) t → Steps p.tables e below G0 t := by
    intro t kt
    refine K21 t ?_
    refine XS.dup X21.here hx rfl (hb hby at_72) rfl rfl ?_
    show Steps p.tables e below (T21.setTop (mkF m 73 #[.val (.long qw), .second, .val (.long qn), .second, .val (.long qd), .second, .val (.long qdw), .second, .val (.long qdn), .second, .val (.int sel), .val (.long w2), .second, .val (.long n2), .second, .val (.long d2), .second, .val (.ref b16), .unset, .unset] [(.ref b21), (.ref b21)])) _
    refine XS.lload X21.here hx rfl (hb hby at_73) rfl ?_
    show Steps p.tables e below (T21.setTop (mkF m 75 #[.val (.long qw), .second, .val (.long qn), .second, .val (.long qd), .second, .val (.long qdw), .second, .val (.long qdn), .second, .val (.int sel), .val (.long w2), .second, .val (.long n2), .second, .val (.long d2), .second, .val (.ref b16), .unset, .unset] [(.long w2), (.ref b21), (.ref b21)])) _
    refine XS.lload X21.here hx rfl (hb hby at_75) rfl ?_
    show Steps p.tables e below (T21.setTop (mkF m 77 #[.val (.long qw), .second, .val (.long qn), .second, .val (.long qd), .second, .val (.long qdw), .second, .val (.long qdn), .second, .val (.int sel), .val (.long w2), .second, .val (.long n2), .second, .val (.long d2), .second, .val (.ref b16), .unset, .unset] [(.long n2), (.long w2), (.ref b21), (.ref b21)])) _
    refine XS.lload X21.here hx rfl (hb hby at_77) rfl ?_
    show Steps p.tables e below (T21.setTop (mkF m 79 #[.val (.long qw), .second, .val (.long qn), .second, .val (.long qd), .second, .val (.long qdw), .second, .val (.long qdn), .second, .val (.int sel), .val (.long w2), .second, .val (.long n2), .second, .val (.long d2), .second, .val (.ref b16), .unset, .unset] [(.long d2), (.long n2), (.long w2), (.ref b21), (.ref b21)])) _
    exact kt
  obtain ⟨_, _, ⟨T24, L24, k24, n24⟩, -, X24, ⟨Lc24, hQ24, l24, y24, z24⟩, st24⟩ := X21.specialBack hx (y := (⟨"com/example/slackwise/slackwise/workload/ExactMb", "<init>", "(JJJ)V"⟩ : MethodName)) rfl hown (mvT hZ (hw _ (List.mem_of_getElem? (i := 3) rfl))) (mvT hZ (hw _ (List.mem_of_getElem? (i := 4) rfl))) (mvT hZ (hw _ (List.mem_of_getElem? (i := 5) rfl))) (by decide) (backOf (W := 1) (rm1 l Z aa hw [] (b21) (w2) (n2) (d2) _ _ _ h21 n0 Z21 gn21 A21 F_whole_b21 F_numerator_b21 F_denominator_b21) hZ (hw _ (List.mem_of_getElem? (i := 5) rfl)) (hw _ (List.mem_of_getElem? (i := 2) rfl)) (by decide) (by decide)) (g := (mkF m 79 #[.val (.long qw), .second, .val (.long qn), .second, .val (.long qd), .second, .val (.long qdw), .second, .val (.long qdn), .second, .val (.int sel), .val (.long w2), .second, .val (.long n2), .second, .val (.long d2), .second, .val (.ref b16), .unset, .unset] [(.long d2), (.long n2), (.long w2), (.ref b21), (.ref b21)])) rfl (by rw [hml]; rfl) (Steps.refl _) (a := b21) (argsL := [(.long w2), (.long n2), (.long d2)]) (rest := [(.ref b21)]) (lenOf pd_PJJJQV rfl) rfl (by show 2 * 0 + _ ≤ _; exact Nat.le_of_eq rfl) (hb hby at_79) (fun _ _ => ⟨rfl, e21, (by decide : 2 + 0 ≤ _), (by decide : 6 + 0 ≤ _)⟩)
  dsimp only [Pt.U, Pt.locs, Pt.cells, Pt.slots] at X24 l24 y24 z24 st24 hQ24
  subst l24 y24 z24
  obtain ⟨rfl, N24q, KK22, EE22, Fc0_22, Fc1_22, Fc2_22⟩ := hQ24
  have N24 := Fr.app N19 N24q
  have K24 : ∀ t, Steps p.tables e below (T24.setTop (mkF m 82 #[.val (.long qw), .second, .val (.long qn), .second, .val (.long qd), .second, .val (.long qdw), .second, .val (.long qdn), .second, .val (.int sel), .val (.long w2), .second, .val (.long n2), .second, .val (.long d2), .second, .val (.ref b16), .unset, .unset] [(.ref b21)])) t → Steps p.tables e below G0 t := fun t kt => K23 t (st24.trans kt)
  have ZZ22 : n0 ≤ T24.heap.size := Nat.le_trans Z21 KK22.1
  have K25 : ∀ t, Steps p.tables e below (T24.setTop (mkF m 88 #[.val (.long qw), .second, .val (.long qn), .second, .val (.long qd), .second, .val (.long qdw), .second, .val (.long qdn), .second, .val (.int sel), .val (.long w2), .second, .val (.long n2), .second, .val (.long d2), .second, .val (.ref b16), .val (.ref b21), .unset] [(.int (lcmpW qw w2))])) t → Steps p.tables e below G0 t := by
    intro t kt
    refine K24 t ?_
    refine XS.astore X24.here hx rfl (hb hby at_82) rfl rfl (l' := #[.val (.long qw), .second, .val (.long qn), .second, .val (.long qd), .second, .val (.long qdw), .second, .val (.long qdn), .second, .val (.int sel), .val (.long w2), .second, .val (.long n2), .second, .val (.long d2), .second, .val (.ref b16), .val (.ref b21), .unset]) rfl ?_
    show Steps p.tables e below (T24.setTop (mkF m 84 #[.val (.long qw), .second, .val (.long qn), .second, .val (.long qd), .second, .val (.long qdw), .second, .val (.long qdn), .second, .val (.int sel), .val (.long w2), .second, .val (.long n2), .second, .val (.long d2), .second, .val (.ref b16), .val (.ref b21), .unset] [])) _
    refine XS.lloadN X24.here hx rfl (hb hby at_84) rfl ?_
    show Steps p.tables e below (T24.setTop (mkF m 85 #[.val (.long qw), .second, .val (.long qn), .second, .val (.long qd), .second, .val (.long qdw), .second, .val (.long qdn), .second, .val (.int sel), .val (.long w2), .second, .val (.long n2), .second, .val (.long d2), .second, .val (.ref b16), .val (.ref b21), .unset] [(.long qw)])) _
    refine XS.lload X24.here hx rfl (hb hby at_85) rfl ?_
    show Steps p.tables e below (T24.setTop (mkF m 87 #[.val (.long qw), .second, .val (.long qn), .second, .val (.long qd), .second, .val (.long qdw), .second, .val (.long qdn), .second, .val (.int sel), .val (.long w2), .second, .val (.long n2), .second, .val (.long d2), .second, .val (.ref b16), .val (.ref b21), .unset] [(.long w2), (.long qw)])) _
    refine XS.lcmp X24.here hx rfl (hb hby at_87) rfl ?_
    show Steps p.tables e below (T24.setTop (mkF m 88 #[.val (.long qw), .second, .val (.long qn), .second, .val (.long qd), .second, .val (.long qdw), .second, .val (.long qdn), .second, .val (.int sel), .val (.long w2), .second, .val (.long n2), .second, .val (.long d2), .second, .val (.ref b16), .val (.ref b21), .unset] [(.int (lcmpW qw w2))])) _
    exact kt
  have K26 : ∀ t, Steps p.tables e below (T24.setTop (mkF m 113 #[.val (.long qw), .second, .val (.long qn), .second, .val (.long qd), .second, .val (.long qdw), .second, .val (.long qdn), .second, .val (.int sel), .val (.long w2), .second, .val (.long n2), .second, .val (.long d2), .second, .val (.ref b16), .val (.ref b21), .val (.int (own_e qw w2 qn n2 qd d2))] [])) t → Steps p.tables e below G0 t := by
    by_cases hc27 : (lcmpW qw w2) = (0 : Int32)
    ·
      have K28 : ∀ t, Steps p.tables e below (T24.setTop (mkF m 95 #[.val (.long qw), .second, .val (.long qn), .second, .val (.long qd), .second, .val (.long qdw), .second, .val (.long qdn), .second, .val (.int sel), .val (.long w2), .second, .val (.long n2), .second, .val (.long d2), .second, .val (.ref b16), .val (.ref b21), .unset] [(.int (lcmpW qn n2))])) t → Steps p.tables e below G0 t := by
        intro t kt
        refine K25 t ?_
        refine XS.ifNo X24.here hx rfl (hb hby at_88) rfl ((if0 _ _).trans (teq hc27).2) ?_
        show Steps p.tables e below (T24.setTop (mkF m 91 #[.val (.long qw), .second, .val (.long qn), .second, .val (.long qd), .second, .val (.long qdw), .second, .val (.long qdn), .second, .val (.int sel), .val (.long w2), .second, .val (.long n2), .second, .val (.long d2), .second, .val (.ref b16), .val (.ref b21), .unset] [])) _
        refine XS.lloadN X24.here hx rfl (hb hby at_91) rfl ?_
        show Steps p.tables e below (T24.setTop (mkF m 92 #[.val (.long qw), .second, .val (.long qn), .second, .val (.long qd), .second, .val (.long qdw), .second, .val (.long qdn), .second, .val (.int sel), .val (.long w2), .second, .val (.long n2), .second, .val (.long d2), .second, .val (.ref b16), .val (.ref b21), .unset] [(.long qn)])) _
        refine XS.lload X24.here hx rfl (hb hby at_92) rfl ?_
        show Steps p.tables e below (T24.setTop (mkF m 94 #[.val (.long qw), .second, .val (.long qn), .second, .val (.long qd), .second, .val (.long qdw), .second, .val (.long qdn), .second, .val (.int sel), .val (.long w2), .second, .val (.long n2), .second, .val (.long d2), .second, .val (.ref b16), .val (.ref b21), .unset] [(.long n2), (.long qn)])) _
        refine XS.lcmp X24.here hx rfl (hb hby at_94) rfl ?_
        show Steps p.tables e below (T24.setTop (mkF m 95 #[.val (.long qw), .second, .val (.long qn), .second, .val (.long qd), .second, .val (.long qdw), .second, .val (.long qdn), .second, .val (.int sel), .val (.long w2), .second, .val (.long n2), .second, .val (.long d2), .second, .val (.ref b16), .val (.ref b21), .unset] [(.int (lcmpW qn n2))])) _
        exact kt
      by_cases hc29 : (lcmpW qn n2) = (0 : Int32)
      ·
        have K30 : ∀ t, Steps p.tables e below (T24.setTop (mkF m 103 #[.val (.long qw), .second, .val (.long qn), .second, .val (.long qd), .second, .val (.long qdw), .second, .val (.long qdn), .second, .val (.int sel), .val (.long w2), .second, .val (.long n2), .second, .val (.long d2), .second, .val (.ref b16), .val (.ref b21), .unset] [(.int (lcmpW qd d2))])) t → Steps p.tables e below G0 t := by
          intro t kt
          refine K28 t ?_
          refine XS.ifNo X24.here hx rfl (hb hby at_95) rfl ((if0 _ _).trans (teq hc29).2) ?_
          show Steps p.tables e below (T24.setTop (mkF m 98 #[.val (.long qw), .second, .val (.long qn), .second, .val (.long qd), .second, .val (.long qdw), .second, .val (.long qdn), .second, .val (.int sel), .val (.long w2), .second, .val (.long n2), .second, .val (.long d2), .second, .val (.ref b16), .val (.ref b21), .unset] [])) _
          refine XS.lload X24.here hx rfl (hb hby at_98) rfl ?_
          show Steps p.tables e below (T24.setTop (mkF m 100 #[.val (.long qw), .second, .val (.long qn), .second, .val (.long qd), .second, .val (.long qdw), .second, .val (.long qdn), .second, .val (.int sel), .val (.long w2), .second, .val (.long n2), .second, .val (.long d2), .second, .val (.ref b16), .val (.ref b21), .unset] [(.long qd)])) _
          refine XS.lload X24.here hx rfl (hb hby at_100) rfl ?_
          show Steps p.tables e below (T24.setTop (mkF m 102 #[.val (.long qw), .second, .val (.long qn), .second, .val (.long qd), .second, .val (.long qdw), .second, .val (.long qdn), .second, .val (.int sel), .val (.long w2), .second, .val (.long n2), .second, .val (.long d2), .second, .val (.ref b16), .val (.ref b21), .unset] [(.long d2), (.long qd)])) _
          refine XS.lcmp X24.here hx rfl (hb hby at_102) rfl ?_
          show Steps p.tables e below (T24.setTop (mkF m 103 #[.val (.long qw), .second, .val (.long qn), .second, .val (.long qd), .second, .val (.long qdw), .second, .val (.long qdn), .second, .val (.int sel), .val (.long w2), .second, .val (.long n2), .second, .val (.long d2), .second, .val (.ref b16), .val (.ref b21), .unset] [(.int (lcmpW qd d2))])) _
          exact kt
        by_cases hc31 : (lcmpW qd d2) = (0 : Int32)
        ·
          have K32 : ∀ t, Steps p.tables e below (T24.setTop (mkF m 113 #[.val (.long qw), .second, .val (.long qn), .second, .val (.long qd), .second, .val (.long qdw), .second, .val (.long qdn), .second, .val (.int sel), .val (.long w2), .second, .val (.long n2), .second, .val (.long d2), .second, .val (.ref b16), .val (.ref b21), .val (.int (1 : Int32))] [])) t → Steps p.tables e below G0 t := by
            intro t kt
            refine K30 t ?_
            refine XS.ifNo X24.here hx rfl (hb hby at_103) rfl ((if0 _ _).trans (teq hc31).2) ?_
            show Steps p.tables e below (T24.setTop (mkF m 106 #[.val (.long qw), .second, .val (.long qn), .second, .val (.long qd), .second, .val (.long qdw), .second, .val (.long qdn), .second, .val (.int sel), .val (.long w2), .second, .val (.long n2), .second, .val (.long d2), .second, .val (.ref b16), .val (.ref b21), .unset] [])) _
            refine XS.iconst X24.here hx rfl (hb hby at_106) ?_
            show Steps p.tables e below (T24.setTop (mkF m 107 #[.val (.long qw), .second, .val (.long qn), .second, .val (.long qd), .second, .val (.long qdw), .second, .val (.long qdn), .second, .val (.int sel), .val (.long w2), .second, .val (.long n2), .second, .val (.long d2), .second, .val (.ref b16), .val (.ref b21), .unset] [(.int (1 : Int32))])) _
            refine XS.goto X24.here hx rfl (pc0 := 107) (pc' := 111) rfl (hb hby at_107) (by decide) (by decide) ?_
            show Steps p.tables e below (T24.setTop (mkF m 111 #[.val (.long qw), .second, .val (.long qn), .second, .val (.long qd), .second, .val (.long qdw), .second, .val (.long qdn), .second, .val (.int sel), .val (.long w2), .second, .val (.long n2), .second, .val (.long d2), .second, .val (.ref b16), .val (.ref b21), .unset] [(.int (1 : Int32))])) _
            refine XS.istore X24.here hx rfl (hb hby at_111) rfl (l' := #[.val (.long qw), .second, .val (.long qn), .second, .val (.long qd), .second, .val (.long qdw), .second, .val (.long qdn), .second, .val (.int sel), .val (.long w2), .second, .val (.long n2), .second, .val (.long d2), .second, .val (.ref b16), .val (.ref b21), .val (.int (1 : Int32))]) rfl ?_
            show Steps p.tables e below (T24.setTop (mkF m 113 #[.val (.long qw), .second, .val (.long qn), .second, .val (.long qd), .second, .val (.long qdw), .second, .val (.long qdn), .second, .val (.int sel), .val (.long w2), .second, .val (.long n2), .second, .val (.long d2), .second, .val (.ref b16), .val (.ref b21), .val (.int (1 : Int32))] [])) _
            exact kt
          have hq : own_e qw w2 qn n2 qd d2 = (1 : Int32) := by rw [own_e, if_pos hc27, if_pos hc29, if_pos hc31]
          rw [hq]
          exact K32
        ·
          have K33 : ∀ t, Steps p.tables e below (T24.setTop (mkF m 113 #[.val (.long qw), .second, .val (.long qn), .second, .val (.long qd), .second, .val (.long qdw), .second, .val (.long qdn), .second, .val (.int sel), .val (.long w2), .second, .val (.long n2), .second, .val (.long d2), .second, .val (.ref b16), .val (.ref b21), .val (.int (0 : Int32))] [])) t → Steps p.tables e below G0 t := by
            intro t kt
            refine K30 t ?_
            refine XS.ifYes X24.here hx rfl (pc0 := 103) (pc' := 110) rfl (hb hby at_103) rfl ((if0 _ _).trans (feq hc31).2) (by decide) (by decide) ?_
            show Steps p.tables e below (T24.setTop (mkF m 110 #[.val (.long qw), .second, .val (.long qn), .second, .val (.long qd), .second, .val (.long qdw), .second, .val (.long qdn), .second, .val (.int sel), .val (.long w2), .second, .val (.long n2), .second, .val (.long d2), .second, .val (.ref b16), .val (.ref b21), .unset] [])) _
            refine XS.iconst X24.here hx rfl (hb hby at_110) ?_
            show Steps p.tables e below (T24.setTop (mkF m 111 #[.val (.long qw), .second, .val (.long qn), .second, .val (.long qd), .second, .val (.long qdw), .second, .val (.long qdn), .second, .val (.int sel), .val (.long w2), .second, .val (.long n2), .second, .val (.long d2), .second, .val (.ref b16), .val (.ref b21), .unset] [(.int (0 : Int32))])) _
            refine XS.istore X24.here hx rfl (hb hby at_111) rfl (l' := #[.val (.long qw), .second, .val (.long qn), .second, .val (.long qd), .second, .val (.long qdw), .second, .val (.long qdn), .second, .val (.int sel), .val (.long w2), .second, .val (.long n2), .second, .val (.long d2), .second, .val (.ref b16), .val (.ref b21), .val (.int (0 : Int32))]) rfl ?_
            show Steps p.tables e below (T24.setTop (mkF m 113 #[.val (.long qw), .second, .val (.long qn), .second, .val (.long qd), .second, .val (.long qdw), .second, .val (.long qdn), .second, .val (.int sel), .val (.long w2), .second, .val (.long n2), .second, .val (.long d2), .second, .val (.ref b16), .val (.ref b21), .val (.int (0 : Int32))] [])) _
            exact kt
          have hq : own_e qw w2 qn n2 qd d2 = (0 : Int32) := by rw [own_e, if_pos hc27, if_pos hc29, if_neg hc31]
          rw [hq]
          exact K33
      ·
        have K34 : ∀ t, Steps p.tables e below (T24.setTop (mkF m 113 #[.val (.long qw), .second, .val (.long qn), .second, .val (.long qd), .second, .val (.long qdw), .second, .val (.long qdn), .second, .val (.int sel), .val (.long w2), .second, .val (.long n2), .second, .val (.long d2), .second, .val (.ref b16), .val (.ref b21), .val (.int (0 : Int32))] [])) t → Steps p.tables e below G0 t := by
          intro t kt
          refine K28 t ?_
          refine XS.ifYes X24.here hx rfl (pc0 := 95) (pc' := 110) rfl (hb hby at_95) rfl ((if0 _ _).trans (feq hc29).2) (by decide) (by decide) ?_
          show Steps p.tables e below (T24.setTop (mkF m 110 #[.val (.long qw), .second, .val (.long qn), .second, .val (.long qd), .second, .val (.long qdw), .second, .val (.long qdn), .second, .val (.int sel), .val (.long w2), .second, .val (.long n2), .second, .val (.long d2), .second, .val (.ref b16), .val (.ref b21), .unset] [])) _
          refine XS.iconst X24.here hx rfl (hb hby at_110) ?_
          show Steps p.tables e below (T24.setTop (mkF m 111 #[.val (.long qw), .second, .val (.long qn), .second, .val (.long qd), .second, .val (.long qdw), .second, .val (.long qdn), .second, .val (.int sel), .val (.long w2), .second, .val (.long n2), .second, .val (.long d2), .second, .val (.ref b16), .val (.ref b21), .unset] [(.int (0 : Int32))])) _
          refine XS.istore X24.here hx rfl (hb hby at_111) rfl (l' := #[.val (.long qw), .second, .val (.long qn), .second, .val (.long qd), .second, .val (.long qdw), .second, .val (.long qdn), .second, .val (.int sel), .val (.long w2), .second, .val (.long n2), .second, .val (.long d2), .second, .val (.ref b16), .val (.ref b21), .val (.int (0 : Int32))]) rfl ?_
          show Steps p.tables e below (T24.setTop (mkF m 113 #[.val (.long qw), .second, .val (.long qn), .second, .val (.long qd), .second, .val (.long qdw), .second, .val (.long qdn), .second, .val (.int sel), .val (.long w2), .second, .val (.long n2), .second, .val (.long d2), .second, .val (.ref b16), .val (.ref b21), .val (.int (0 : Int32))] [])) _
          exact kt
        have hq : own_e qw w2 qn n2 qd d2 = (0 : Int32) := by rw [own_e, if_pos hc27, if_neg hc29]
        rw [hq]
        exact K34
    ·
      have K35 : ∀ t, Steps p.tables e below (T24.setTop (mkF m 113 #[.val (.long qw), .second, .val (.long qn), .second, .val (.long qd), .second, .val (.long qdw), .second, .val (.long qdn), .second, .val (.int sel), .val (.long w2), .second, .val (.long n2), .second, .val (.long d2), .second, .val (.ref b16), .val (.ref b21), .val (.int (0 : Int32))] [])) t → Steps p.tables e below G0 t := by
        intro t kt
        refine K25 t ?_
        refine XS.ifYes X24.here hx rfl (pc0 := 88) (pc' := 110) rfl (hb hby at_88) rfl ((if0 _ _).trans (feq hc27).2) (by decide) (by decide) ?_
        show Steps p.tables e below (T24.setTop (mkF m 110 #[.val (.long qw), .second, .val (.long qn), .second, .val (.long qd), .second, .val (.long qdw), .second, .val (.long qdn), .second, .val (.int sel), .val (.long w2), .second, .val (.long n2), .second, .val (.long d2), .second, .val (.ref b16), .val (.ref b21), .unset] [])) _
        refine XS.iconst X24.here hx rfl (hb hby at_110) ?_
        show Steps p.tables e below (T24.setTop (mkF m 111 #[.val (.long qw), .second, .val (.long qn), .second, .val (.long qd), .second, .val (.long qdw), .second, .val (.long qdn), .second, .val (.int sel), .val (.long w2), .second, .val (.long n2), .second, .val (.long d2), .second, .val (.ref b16), .val (.ref b21), .unset] [(.int (0 : Int32))])) _
        refine XS.istore X24.here hx rfl (hb hby at_111) rfl (l' := #[.val (.long qw), .second, .val (.long qn), .second, .val (.long qd), .second, .val (.long qdw), .second, .val (.long qdn), .second, .val (.int sel), .val (.long w2), .second, .val (.long n2), .second, .val (.long d2), .second, .val (.ref b16), .val (.ref b21), .val (.int (0 : Int32))]) rfl ?_
        show Steps p.tables e below (T24.setTop (mkF m 113 #[.val (.long qw), .second, .val (.long qn), .second, .val (.long qd), .second, .val (.long qdw), .second, .val (.long qdn), .second, .val (.int sel), .val (.long w2), .second, .val (.long n2), .second, .val (.long d2), .second, .val (.ref b16), .val (.ref b21), .val (.int (0 : Int32))] [])) _
        exact kt
      have hq : own_e qw w2 qn n2 qd d2 = (0 : Int32) := by rw [own_e, if_neg hc27]
      rw [hq]
      exact K35
  have f36 := ((Fc0_17.ext E21).keep KK22 (fun q => ne_b16_b21 (List.mem_singleton.mp q)))
  have f37 := ((Fc1_17.ext E21).keep KK22 (fun q => ne_b16_b21 (List.mem_singleton.mp q)))
  have f38 := ((Fc2_17.ext E21).keep KK22 (fun q => ne_b16_b21 (List.mem_singleton.mp q)))
  have f39 := ((EE17.ext E21).keep KK22)
  have K40 : ∀ t, Steps p.tables e below (T24.setTop (mkF m 117 #[.val (.long qw), .second, .val (.long qn), .second, .val (.long qd), .second, .val (.long qdw), .second, .val (.long qdn), .second, .val (.int sel), .val (.long w2), .second, .val (.long n2), .second, .val (.long d2), .second, .val (.ref b16), .val (.ref b21), .val (.int (own_e qw w2 qn n2 qd d2))] [(.ref b21), (.ref b16)])) t → Steps p.tables e below G0 t := by
    intro t kt
    refine K26 t ?_
    refine XS.aload X24.here hx rfl (hb hby at_113) rfl rfl ?_
    show Steps p.tables e below (T24.setTop (mkF m 115 #[.val (.long qw), .second, .val (.long qn), .second, .val (.long qd), .second, .val (.long qdw), .second, .val (.long qdn), .second, .val (.int sel), .val (.long w2), .second, .val (.long n2), .second, .val (.long d2), .second, .val (.ref b16), .val (.ref b21), .val (.int (own_e qw w2 qn n2 qd d2))] [(.ref b16)])) _
    refine XS.aload X24.here hx rfl (hb hby at_115) rfl rfl ?_
    show Steps p.tables e below (T24.setTop (mkF m 117 #[.val (.long qw), .second, .val (.long qn), .second, .val (.long qd), .second, .val (.long qdw), .second, .val (.long qdn), .second, .val (.int sel), .val (.long w2), .second, .val (.long n2), .second, .val (.long d2), .second, .val (.ref b16), .val (.ref b21), .val (.int (own_e qw w2 qn n2 qd d2))] [(.ref b21), (.ref b16)])) _
    exact kt
  obtain ⟨cq41, kq41, q41a, q41b, q41c⟩ := isOf hZ (rfl : T24.heap = _) f39
  obtain ⟨_, _, ⟨T42, L42, k42, n42⟩, -, X42, ⟨Lc42, hQ42, l42, y42, z42⟩, st42⟩ := X24.virtualBack hx (y := (⟨"com/example/slackwise/slackwise/workload/ExactMb", "equals", "(Ljava/lang/Object;)Z"⟩ : MethodName)) (z := (⟨"com/example/slackwise/slackwise/workload/ExactMb", "equals", "(Ljava/lang/Object;)Z"⟩ : MethodName)) hown (mvT hZ (hw _ (List.mem_of_getElem? (i := 15) rfl))) (mvT hZ (hw _ (List.mem_of_getElem? (i := 16) rfl))) (notFace_of_selects (args := #[]) (mvT hZ (hw _ (List.mem_of_getElem? (i := 18) rfl)))) (mvT hZ (hw _ (List.mem_of_getElem? (i := 18) rfl))) (mvT hZ (hw _ (List.mem_of_getElem? (i := 17) rfl))) (by decide) (backOf (W := 0) (rm3 l Z aa hw [] (b16) (b21) qw qn qd w2 n2 d2 T24.heap n0 ZZ22 f36 f37 f38 Fc0_22 Fc1_22 Fc2_22 EE22) hZ (hw _ (List.mem_of_getElem? (i := 19) rfl)) (hw _ (List.mem_of_getElem? (i := 2) rfl)) (by decide) (by decide)) q41a q41c (g := (mkF m 117 #[.val (.long qw), .second, .val (.long qn), .second, .val (.long qd), .second, .val (.long qdw), .second, .val (.long qdn), .second, .val (.int sel), .val (.long w2), .second, .val (.long n2), .second, .val (.long d2), .second, .val (.ref b16), .val (.ref b21), .val (.int (own_e qw w2 qn n2 qd d2))] [(.ref b21), (.ref b16)])) rfl (by rw [hml]; rfl) (Steps.refl _) (argsL := [(.ref b21)]) (rest := []) (lenOf pd_PLjava_lang_Object_QZ rfl) rfl (by show 2 * 0 + _ ≤ _; exact Nat.le_of_eq rfl) (hb hby at_117) (fun _ _ => ⟨rfl, (rfl : T24.heap = _), (by decide : 2 + 0 ≤ _), (by decide : 6 + 0 ≤ _)⟩)
  dsimp only [Pt.U, Pt.locs, Pt.cells, Pt.slots] at X42 l42 y42 z42 st42 hQ42
  subst l42 y42 z42
  obtain ⟨rfl, N42q, e42⟩ := hQ42
  have N42 := Fr.app N24 N42q
  have K42 : ∀ t, Steps p.tables e below (T42.setTop (mkF m 120 #[.val (.long qw), .second, .val (.long qn), .second, .val (.long qd), .second, .val (.long qdw), .second, .val (.long qdn), .second, .val (.int sel), .val (.long w2), .second, .val (.long n2), .second, .val (.long d2), .second, .val (.ref b16), .val (.ref b21), .val (.int (own_e qw w2 qn n2 qd d2))] [(.int (own_e qw w2 qn n2 qd d2))])) t → Steps p.tables e below G0 t := fun t kt => K40 t (st42.trans kt)
  have K43 : ∀ t, Steps p.tables e below (T42.setTop (mkF m 131 #[.val (.long qw), .second, .val (.long qn), .second, .val (.long qd), .second, .val (.long qdw), .second, .val (.long qdn), .second, .val (.int sel), .val (.long w2), .second, .val (.long n2), .second, .val (.long d2), .second, .val (.ref b16), .val (.ref b21), .val (.int (own_e qw w2 qn n2 qd d2))] [(.ref b16), (.ref b21)])) t → Steps p.tables e below G0 t := by
    intro t kt
    refine K42 t ?_
    refine XS.iload X42.here hx rfl (hb hby at_120) rfl ?_
    show Steps p.tables e below (T42.setTop (mkF m 122 #[.val (.long qw), .second, .val (.long qn), .second, .val (.long qd), .second, .val (.long qdw), .second, .val (.long qdn), .second, .val (.int sel), .val (.long w2), .second, .val (.long n2), .second, .val (.long d2), .second, .val (.ref b16), .val (.ref b21), .val (.int (own_e qw w2 qn n2 qd d2))] [(.int (own_e qw w2 qn n2 qd d2)), (.int (own_e qw w2 qn n2 qd d2))])) _
    refine XS.icmpYes X42.here hx rfl (pc0 := 122) (pc' := 127) rfl (hb hby at_122) rfl (teq rfl).1 (by decide) (by decide) ?_
    show Steps p.tables e below (T42.setTop (mkF m 127 #[.val (.long qw), .second, .val (.long qn), .second, .val (.long qd), .second, .val (.long qdw), .second, .val (.long qdn), .second, .val (.int sel), .val (.long w2), .second, .val (.long n2), .second, .val (.long d2), .second, .val (.ref b16), .val (.ref b21), .val (.int (own_e qw w2 qn n2 qd d2))] [])) _
    refine XS.aload X42.here hx rfl (hb hby at_127) rfl rfl ?_
    show Steps p.tables e below (T42.setTop (mkF m 129 #[.val (.long qw), .second, .val (.long qn), .second, .val (.long qd), .second, .val (.long qdw), .second, .val (.long qdn), .second, .val (.int sel), .val (.long w2), .second, .val (.long n2), .second, .val (.long d2), .second, .val (.ref b16), .val (.ref b21), .val (.int (own_e qw w2 qn n2 qd d2))] [(.ref b21)])) _
    refine XS.aload X42.here hx rfl (hb hby at_129) rfl rfl ?_
    show Steps p.tables e below (T42.setTop (mkF m 131 #[.val (.long qw), .second, .val (.long qn), .second, .val (.long qd), .second, .val (.long qdw), .second, .val (.long qdn), .second, .val (.int sel), .val (.long w2), .second, .val (.long n2), .second, .val (.long d2), .second, .val (.ref b16), .val (.ref b21), .val (.int (own_e qw w2 qn n2 qd d2))] [(.ref b16), (.ref b21)])) _
    exact kt
  obtain ⟨cq44, kq44, q44a, q44b, q44c⟩ := isOf hZ e42 EE22
  obtain ⟨_, _, ⟨T45, L45, k45, n45⟩, -, X45, ⟨Lc45, hQ45, l45, y45, z45⟩, st45⟩ := X42.virtualBack hx (y := (⟨"com/example/slackwise/slackwise/workload/ExactMb", "equals", "(Ljava/lang/Object;)Z"⟩ : MethodName)) (z := (⟨"com/example/slackwise/slackwise/workload/ExactMb", "equals", "(Ljava/lang/Object;)Z"⟩ : MethodName)) hown (mvT hZ (hw _ (List.mem_of_getElem? (i := 15) rfl))) (mvT hZ (hw _ (List.mem_of_getElem? (i := 16) rfl))) (notFace_of_selects (args := #[]) (mvT hZ (hw _ (List.mem_of_getElem? (i := 18) rfl)))) (mvT hZ (hw _ (List.mem_of_getElem? (i := 18) rfl))) (mvT hZ (hw _ (List.mem_of_getElem? (i := 17) rfl))) (by decide) (backOf (W := 0) (rm3 l Z aa hw [] (b21) (b16) w2 n2 d2 qw qn qd T24.heap n0 ZZ22 Fc0_22 Fc1_22 Fc2_22 f36 f37 f38 f39) hZ (hw _ (List.mem_of_getElem? (i := 19) rfl)) (hw _ (List.mem_of_getElem? (i := 2) rfl)) (by decide) (by decide)) q44a q44c (g := (mkF m 131 #[.val (.long qw), .second, .val (.long qn), .second, .val (.long qd), .second, .val (.long qdw), .second, .val (.long qdn), .second, .val (.int sel), .val (.long w2), .second, .val (.long n2), .second, .val (.long d2), .second, .val (.ref b16), .val (.ref b21), .val (.int (own_e qw w2 qn n2 qd d2))] [(.ref b16), (.ref b21)])) rfl (by rw [hml]; rfl) (Steps.refl _) (argsL := [(.ref b16)]) (rest := []) (lenOf pd_PLjava_lang_Object_QZ rfl) rfl (by show 2 * 0 + _ ≤ _; exact Nat.le_of_eq rfl) (hb hby at_131) (fun _ _ => ⟨rfl, e42, (by decide : 2 + 0 ≤ _), (by decide : 6 + 0 ≤ _)⟩)
  dsimp only [Pt.U, Pt.locs, Pt.cells, Pt.slots] at X45 l45 y45 z45 st45 hQ45
  subst l45 y45 z45
  obtain ⟨rfl, N45q, e45⟩ := hQ45
  have N45 := Fr.app N42 N45q
  have K45 : ∀ t, Steps p.tables e below (T45.setTop (mkF m 134 #[.val (.long qw), .second, .val (.long qn), .second, .val (.long qd), .second, .val (.long qdw), .second, .val (.long qdn), .second, .val (.int sel), .val (.long w2), .second, .val (.long n2), .second, .val (.long d2), .second, .val (.ref b16), .val (.ref b21), .val (.int (own_e qw w2 qn n2 qd d2))] [(.int (own_e w2 qw n2 qn d2 qd))])) t → Steps p.tables e below G0 t := fun t kt => K43 t (st45.trans kt)
  have K46 : ∀ t, Steps p.tables e below (T45.setTop (mkF m 145 #[.val (.long qw), .second, .val (.long qn), .second, .val (.long qd), .second, .val (.long qdw), .second, .val (.long qdn), .second, .val (.int sel), .val (.long w2), .second, .val (.long n2), .second, .val (.long d2), .second, .val (.ref b16), .val (.ref b21), .val (.int (own_e qw w2 qn n2 qd d2))] [(.ref b16), (.ref b16)])) t → Steps p.tables e below G0 t := by
    intro t kt
    refine K45 t ?_
    refine XS.iload X45.here hx rfl (hb hby at_134) rfl ?_
    show Steps p.tables e below (T45.setTop (mkF m 136 #[.val (.long qw), .second, .val (.long qn), .second, .val (.long qd), .second, .val (.long qdw), .second, .val (.long qdn), .second, .val (.int sel), .val (.long w2), .second, .val (.long n2), .second, .val (.long d2), .second, .val (.ref b16), .val (.ref b21), .val (.int (own_e qw w2 qn n2 qd d2))] [(.int (own_e qw w2 qn n2 qd d2)), (.int (own_e w2 qw n2 qn d2 qd))])) _
    refine XS.icmpYes X45.here hx rfl (pc0 := 136) (pc' := 141) rfl (hb hby at_136) rfl (teq (own_esym _ _ _ _ _ _)).1 (by decide) (by decide) ?_
    show Steps p.tables e below (T45.setTop (mkF m 141 #[.val (.long qw), .second, .val (.long qn), .second, .val (.long qd), .second, .val (.long qdw), .second, .val (.long qdn), .second, .val (.int sel), .val (.long w2), .second, .val (.long n2), .second, .val (.long d2), .second, .val (.ref b16), .val (.ref b21), .val (.int (own_e qw w2 qn n2 qd d2))] [])) _
    refine XS.aload X45.here hx rfl (hb hby at_141) rfl rfl ?_
    show Steps p.tables e below (T45.setTop (mkF m 143 #[.val (.long qw), .second, .val (.long qn), .second, .val (.long qd), .second, .val (.long qdw), .second, .val (.long qdn), .second, .val (.int sel), .val (.long w2), .second, .val (.long n2), .second, .val (.long d2), .second, .val (.ref b16), .val (.ref b21), .val (.int (own_e qw w2 qn n2 qd d2))] [(.ref b16)])) _
    refine XS.aload X45.here hx rfl (hb hby at_143) rfl rfl ?_
    show Steps p.tables e below (T45.setTop (mkF m 145 #[.val (.long qw), .second, .val (.long qn), .second, .val (.long qd), .second, .val (.long qdw), .second, .val (.long qdn), .second, .val (.int sel), .val (.long w2), .second, .val (.long n2), .second, .val (.long d2), .second, .val (.ref b16), .val (.ref b21), .val (.int (own_e qw w2 qn n2 qd d2))] [(.ref b16), (.ref b16)])) _
    exact kt
  obtain ⟨cq47, kq47, q47a, q47b, q47c⟩ := isOf hZ e45 f39
  obtain ⟨_, _, ⟨T48, L48, k48, n48⟩, -, X48, ⟨Lc48, hQ48, l48, y48, z48⟩, st48⟩ := X45.virtualBack hx (y := (⟨"com/example/slackwise/slackwise/workload/ExactMb", "equals", "(Ljava/lang/Object;)Z"⟩ : MethodName)) (z := (⟨"com/example/slackwise/slackwise/workload/ExactMb", "equals", "(Ljava/lang/Object;)Z"⟩ : MethodName)) hown (mvT hZ (hw _ (List.mem_of_getElem? (i := 15) rfl))) (mvT hZ (hw _ (List.mem_of_getElem? (i := 16) rfl))) (notFace_of_selects (args := #[]) (mvT hZ (hw _ (List.mem_of_getElem? (i := 18) rfl)))) (mvT hZ (hw _ (List.mem_of_getElem? (i := 18) rfl))) (mvT hZ (hw _ (List.mem_of_getElem? (i := 17) rfl))) (by decide) (backOf (W := 0) (rm3 l Z aa hw [] (b16) (b16) qw qn qd qw qn qd T24.heap n0 ZZ22 f36 f37 f38 f36 f37 f38 f39) hZ (hw _ (List.mem_of_getElem? (i := 19) rfl)) (hw _ (List.mem_of_getElem? (i := 2) rfl)) (by decide) (by decide)) q47a q47c (g := (mkF m 145 #[.val (.long qw), .second, .val (.long qn), .second, .val (.long qd), .second, .val (.long qdw), .second, .val (.long qdn), .second, .val (.int sel), .val (.long w2), .second, .val (.long n2), .second, .val (.long d2), .second, .val (.ref b16), .val (.ref b21), .val (.int (own_e qw w2 qn n2 qd d2))] [(.ref b16), (.ref b16)])) rfl (by rw [hml]; rfl) (Steps.refl _) (argsL := [(.ref b16)]) (rest := []) (lenOf pd_PLjava_lang_Object_QZ rfl) rfl (by show 2 * 0 + _ ≤ _; exact Nat.le_of_eq rfl) (hb hby at_145) (fun _ _ => ⟨rfl, e45, (by decide : 2 + 0 ≤ _), (by decide : 6 + 0 ≤ _)⟩)
  dsimp only [Pt.U, Pt.locs, Pt.cells, Pt.slots] at X48 l48 y48 z48 st48 hQ48
  subst l48 y48 z48
  obtain ⟨rfl, N48q, e48⟩ := hQ48
  have N48 := Fr.app N45 N48q
  have K48 : ∀ t, Steps p.tables e below (T48.setTop (mkF m 148 #[.val (.long qw), .second, .val (.long qn), .second, .val (.long qd), .second, .val (.long qdw), .second, .val (.long qdn), .second, .val (.int sel), .val (.long w2), .second, .val (.long n2), .second, .val (.long d2), .second, .val (.ref b16), .val (.ref b21), .val (.int (own_e qw w2 qn n2 qd d2))] [(.int (own_e qw qw qn qn qd qd))])) t → Steps p.tables e below G0 t := fun t kt => K46 t (st48.trans kt)
  have K49 : ∀ t, Steps p.tables e below (T48.setTop (mkF m 156 #[.val (.long qw), .second, .val (.long qn), .second, .val (.long qd), .second, .val (.long qdw), .second, .val (.long qdn), .second, .val (.int sel), .val (.long w2), .second, .val (.long n2), .second, .val (.long d2), .second, .val (.ref b16), .val (.ref b21), .val (.int (own_e qw w2 qn n2 qd d2))] [.null, (.ref b16)])) t → Steps p.tables e below G0 t := by
    intro t kt
    refine K48 t ?_
    refine XS.ifYes X48.here hx rfl (pc0 := 148) (pc' := 153) rfl (hb hby at_148) rfl ((if0 _ _).trans (feq (by rw [own_eself]; decide)).2) (by decide) (by decide) ?_
    show Steps p.tables e below (T48.setTop (mkF m 153 #[.val (.long qw), .second, .val (.long qn), .second, .val (.long qd), .second, .val (.long qdw), .second, .val (.long qdn), .second, .val (.int sel), .val (.long w2), .second, .val (.long n2), .second, .val (.long d2), .second, .val (.ref b16), .val (.ref b21), .val (.int (own_e qw w2 qn n2 qd d2))] [])) _
    refine XS.aload X48.here hx rfl (hb hby at_153) rfl rfl ?_
    show Steps p.tables e below (T48.setTop (mkF m 155 #[.val (.long qw), .second, .val (.long qn), .second, .val (.long qd), .second, .val (.long qdw), .second, .val (.long qdn), .second, .val (.int sel), .val (.long w2), .second, .val (.long n2), .second, .val (.long d2), .second, .val (.ref b16), .val (.ref b21), .val (.int (own_e qw w2 qn n2 qd d2))] [(.ref b16)])) _
    refine XS.aconstNull X48.here hx rfl (hb hby at_155) ?_
    show Steps p.tables e below (T48.setTop (mkF m 156 #[.val (.long qw), .second, .val (.long qn), .second, .val (.long qd), .second, .val (.long qdw), .second, .val (.long qdn), .second, .val (.int sel), .val (.long w2), .second, .val (.long n2), .second, .val (.long d2), .second, .val (.ref b16), .val (.ref b21), .val (.int (own_e qw w2 qn n2 qd d2))] [.null, (.ref b16)])) _
    exact kt
  obtain ⟨cq50, kq50, q50a, q50b, q50c⟩ := isOf hZ e48 f39
  obtain ⟨_, _, ⟨T51, L51, k51, n51⟩, -, X51, ⟨Lc51, hQ51, l51, y51, z51⟩, st51⟩ := X48.virtualBack hx (y := (⟨"com/example/slackwise/slackwise/workload/ExactMb", "equals", "(Ljava/lang/Object;)Z"⟩ : MethodName)) (z := (⟨"com/example/slackwise/slackwise/workload/ExactMb", "equals", "(Ljava/lang/Object;)Z"⟩ : MethodName)) hown (mvT hZ (hw _ (List.mem_of_getElem? (i := 15) rfl))) (mvT hZ (hw _ (List.mem_of_getElem? (i := 16) rfl))) (notFace_of_selects (args := #[]) (mvT hZ (hw _ (List.mem_of_getElem? (i := 18) rfl)))) (mvT hZ (hw _ (List.mem_of_getElem? (i := 18) rfl))) (mvT hZ (hw _ (List.mem_of_getElem? (i := 17) rfl))) (by decide) (backOf (W := 0) (rm3n l Z aa hw [] (b16)  T24.heap n0 ZZ22 ) hZ (hw _ (List.mem_of_getElem? (i := 19) rfl)) (hw _ (List.mem_of_getElem? (i := 2) rfl)) (by decide) (by decide)) q50a q50c (g := (mkF m 156 #[.val (.long qw), .second, .val (.long qn), .second, .val (.long qd), .second, .val (.long qdw), .second, .val (.long qdn), .second, .val (.int sel), .val (.long w2), .second, .val (.long n2), .second, .val (.long d2), .second, .val (.ref b16), .val (.ref b21), .val (.int (own_e qw w2 qn n2 qd d2))] [.null, (.ref b16)])) rfl (by rw [hml]; rfl) (Steps.refl _) (argsL := [.null]) (rest := []) (lenOf pd_PLjava_lang_Object_QZ rfl) rfl (by show 2 * 0 + _ ≤ _; exact Nat.le_of_eq rfl) (hb hby at_156) (fun _ _ => ⟨rfl, e48, (by decide : 2 + 0 ≤ _), (by decide : 6 + 0 ≤ _)⟩)
  dsimp only [Pt.U, Pt.locs, Pt.cells, Pt.slots] at X51 l51 y51 z51 st51 hQ51
  subst l51 y51 z51
  obtain ⟨rfl, N51q, e51⟩ := hQ51
  have N51 := Fr.app N48 N51q
  have K51 : ∀ t, Steps p.tables e below (T51.setTop (mkF m 159 #[.val (.long qw), .second, .val (.long qn), .second, .val (.long qd), .second, .val (.long qdw), .second, .val (.long qdn), .second, .val (.int sel), .val (.long w2), .second, .val (.long n2), .second, .val (.long d2), .second, .val (.ref b16), .val (.ref b21), .val (.int (own_e qw w2 qn n2 qd d2))] [(.int (0 : Int32))])) t → Steps p.tables e below G0 t := fun t kt => K49 t (st51.trans kt)
  have K52 : ∀ t, Steps p.tables e below (T51.setTop (mkF m 167 #[.val (.long qw), .second, .val (.long qn), .second, .val (.long qd), .second, .val (.long qdw), .second, .val (.long qdn), .second, .val (.int sel), .val (.long w2), .second, .val (.long n2), .second, .val (.long d2), .second, .val (.ref b16), .val (.ref b21), .val (.int (own_e qw w2 qn n2 qd d2))] [(.long qw), (.ref b16)])) t → Steps p.tables e below G0 t := by
    intro t kt
    refine K51 t ?_
    refine XS.ifYes X51.here hx rfl (pc0 := 159) (pc' := 164) rfl (hb hby at_159) rfl ((if0 _ _).trans (teq rfl).1) (by decide) (by decide) ?_
    show Steps p.tables e below (T51.setTop (mkF m 164 #[.val (.long qw), .second, .val (.long qn), .second, .val (.long qd), .second, .val (.long qdw), .second, .val (.long qdn), .second, .val (.int sel), .val (.long w2), .second, .val (.long n2), .second, .val (.long d2), .second, .val (.ref b16), .val (.ref b21), .val (.int (own_e qw w2 qn n2 qd d2))] [])) _
    refine XS.aload X51.here hx rfl (hb hby at_164) rfl rfl ?_
    show Steps p.tables e below (T51.setTop (mkF m 166 #[.val (.long qw), .second, .val (.long qn), .second, .val (.long qd), .second, .val (.long qdw), .second, .val (.long qdn), .second, .val (.int sel), .val (.long w2), .second, .val (.long n2), .second, .val (.long d2), .second, .val (.ref b16), .val (.ref b21), .val (.int (own_e qw w2 qn n2 qd d2))] [(.ref b16)])) _
    refine XS.lloadN X51.here hx rfl (hb hby at_166) rfl ?_
    show Steps p.tables e below (T51.setTop (mkF m 167 #[.val (.long qw), .second, .val (.long qn), .second, .val (.long qd), .second, .val (.long qdw), .second, .val (.long qdn), .second, .val (.int sel), .val (.long w2), .second, .val (.long n2), .second, .val (.long d2), .second, .val (.ref b16), .val (.ref b21), .val (.int (own_e qw w2 qn n2 qd d2))] [(.long qw), (.ref b16)])) _
    exact kt
  have f53 := ((((HO.ext E16).keep KK17 (fun x hx => by cases List.mem_singleton.mp hx; exact gn16)).ext E21).keep KK22 (fun x hx => by cases List.mem_singleton.mp hx; exact gn21))
  have BE54 := BX.ext f53.2
  obtain ⟨_, _, ⟨T55, L55, k55, n55⟩, -, X55, ⟨Lc55, hQ55, l55, y55, z55⟩, st55⟩ := Jvm.LawKit.callS X51 hx (y := (⟨"java/lang/Long", "valueOf", "(J)Ljava/lang/Long;"⟩ : MethodName)) hown (mvT hZ (hw _ (List.mem_of_getElem? (i := 22) rfl))) (mvT hZ (hw _ (List.mem_of_getElem? (i := 23) rfl))) (mvT hZ (hw _ (List.mem_of_getElem? (i := 24) rfl))) (mvT hZ (hw _ (List.mem_of_getElem? (i := 25) rfl))) (by decide) (backOf (W := 1) (rm4 l Z aa hw [] (qw) ca cc T24.heap n0 ZZ22 (SC.ext f53.2) BE54.1 BE54.2.1 (fun j hj => by obtain ⟨b, h1, h2, -⟩ := BX.2.2.2 j hj; exact ⟨b, h1, h2.ext f53.2⟩)) hZ (hw _ (List.mem_of_getElem? (i := 25) rfl)) (hw _ (List.mem_of_getElem? (i := 24) rfl)) (by decide) (by decide)) (g := (mkF m 167 #[.val (.long qw), .second, .val (.long qn), .second, .val (.long qd), .second, .val (.long qdw), .second, .val (.long qdn), .second, .val (.int sel), .val (.long w2), .second, .val (.long n2), .second, .val (.long d2), .second, .val (.ref b16), .val (.ref b21), .val (.int (own_e qw w2 qn n2 qd d2))] [(.long qw), (.ref b16)])) rfl (by rw [hml]; rfl) (argsL := [(.long qw)]) (rest := [(.ref b16)]) (lenOf pd_PJQLjava_lang_Long_ rfl) rfl (by show 2 * 0 + _ ≤ _; exact Nat.le_of_eq rfl) (hb hby at_167) (fun _ _ => ⟨rfl, e51, (by decide : 2 + 1 ≤ _), (by decide : 6 + 1 ≤ _)⟩)
  dsimp only [Pt.U, Pt.locs, Pt.cells, Pt.slots] at X55 l55 y55 z55 st55 hQ55
  subst l55 y55 z55
  obtain ⟨r55, rfl, N55q, KV55, EV55⟩ := hQ55
  have N55 := Fr.app N51 N55q
  have K55 : ∀ t, Steps p.tables e below (T55.setTop (mkF m 170 #[.val (.long qw), .second, .val (.long qn), .second, .val (.long qd), .second, .val (.long qdw), .second, .val (.long qdn), .second, .val (.int sel), .val (.long w2), .second, .val (.long n2), .second, .val (.long d2), .second, .val (.ref b16), .val (.ref b21), .val (.int (own_e qw w2 qn n2 qd d2))] [(.ref r55), (.ref b16)])) t → Steps p.tables e below G0 t := fun t kt => K52 t (st55 _ kt)
  have Z55 : n0 ≤ T55.heap.size := Nat.le_trans ZZ22 KV55.1
  have f56 := (f39.keep KV55)
  obtain ⟨cq57, kq57, q57a, q57b, q57c⟩ := isOf hZ (rfl : T55.heap = _) f56
  obtain ⟨_, _, ⟨T58, L58, k58, n58⟩, -, X58, ⟨Lc58, hQ58, l58, y58, z58⟩, st58⟩ := X55.virtualBack hx (y := (⟨"com/example/slackwise/slackwise/workload/ExactMb", "equals", "(Ljava/lang/Object;)Z"⟩ : MethodName)) (z := (⟨"com/example/slackwise/slackwise/workload/ExactMb", "equals", "(Ljava/lang/Object;)Z"⟩ : MethodName)) hown (mvT hZ (hw _ (List.mem_of_getElem? (i := 15) rfl))) (mvT hZ (hw _ (List.mem_of_getElem? (i := 16) rfl))) (notFace_of_selects (args := #[]) (mvT hZ (hw _ (List.mem_of_getElem? (i := 18) rfl)))) (mvT hZ (hw _ (List.mem_of_getElem? (i := 18) rfl))) (mvT hZ (hw _ (List.mem_of_getElem? (i := 17) rfl))) (by decide) (backOf (W := 0) (rm3l l Z aa hw [] (b16) (r55)  T55.heap n0 Z55 EV55) hZ (hw _ (List.mem_of_getElem? (i := 19) rfl)) (hw _ (List.mem_of_getElem? (i := 2) rfl)) (by decide) (by decide)) q57a q57c (g := (mkF m 170 #[.val (.long qw), .second, .val (.long qn), .second, .val (.long qd), .second, .val (.long qdw), .second, .val (.long qdn), .second, .val (.int sel), .val (.long w2), .second, .val (.long n2), .second, .val (.long d2), .second, .val (.ref b16), .val (.ref b21), .val (.int (own_e qw w2 qn n2 qd d2))] [(.ref r55), (.ref b16)])) rfl (by rw [hml]; rfl) (Steps.refl _) (argsL := [(.ref r55)]) (rest := []) (lenOf pd_PLjava_lang_Object_QZ rfl) rfl (by show 2 * 0 + _ ≤ _; exact Nat.le_of_eq rfl) (hb hby at_170) (fun _ _ => ⟨rfl, (rfl : T55.heap = _), (by decide : 3 + 0 ≤ _), (by decide : 7 + 0 ≤ _)⟩)
  dsimp only [Pt.U, Pt.locs, Pt.cells, Pt.slots] at X58 l58 y58 z58 st58 hQ58
  subst l58 y58 z58
  obtain ⟨rfl, N58q, e58⟩ := hQ58
  have N58 := Fr.app N55 N58q
  have K58 : ∀ t, Steps p.tables e below (T58.setTop (mkF m 173 #[.val (.long qw), .second, .val (.long qn), .second, .val (.long qd), .second, .val (.long qdw), .second, .val (.long qdn), .second, .val (.int sel), .val (.long w2), .second, .val (.long n2), .second, .val (.long d2), .second, .val (.ref b16), .val (.ref b21), .val (.int (own_e qw w2 qn n2 qd d2))] [(.int (0 : Int32))])) t → Steps p.tables e below G0 t := fun t kt => K55 t (st58.trans kt)
  have K59 : ∀ t, Steps p.tables e below (T58.setTop (mkF m 179 #[.val (.long qw), .second, .val (.long qn), .second, .val (.long qd), .second, .val (.long qdw), .second, .val (.long qdn), .second, .val (.int sel), .val (.long w2), .second, .val (.long n2), .second, .val (.long d2), .second, .val (.ref b16), .val (.ref b21), .val (.int (own_e qw w2 qn n2 qd d2))] [(.int (1 : Int32))])) t → Steps p.tables e below G0 t := by
    intro t kt
    refine K58 t ?_
    refine XS.ifYes X58.here hx rfl (pc0 := 173) (pc' := 178) rfl (hb hby at_173) rfl ((if0 _ _).trans (teq rfl).1) (by decide) (by decide) ?_
    show Steps p.tables e below (T58.setTop (mkF m 178 #[.val (.long qw), .second, .val (.long qn), .second, .val (.long qd), .second, .val (.long qdw), .second, .val (.long qdn), .second, .val (.int sel), .val (.long w2), .second, .val (.long n2), .second, .val (.long d2), .second, .val (.ref b16), .val (.ref b21), .val (.int (own_e qw w2 qn n2 qd d2))] [])) _
    refine XS.iconst X58.here hx rfl (hb hby at_178) ?_
    show Steps p.tables e below (T58.setTop (mkF m 179 #[.val (.long qw), .second, .val (.long qn), .second, .val (.long qd), .second, .val (.long qdw), .second, .val (.long qdn), .second, .val (.int sel), .val (.long w2), .second, .val (.long n2), .second, .val (.long d2), .second, .val (.ref b16), .val (.ref b21), .val (.int (own_e qw w2 qn n2 qd d2))] [(.int (1 : Int32))])) _
    exact kt
  obtain ⟨fs, hr, hrun, hended, hW, hsame⟩ := X58.leave (v := some (.int (1 : Int32))) (fun h => by rw [Bd.returns] at h; cases h)
  refine ⟨_, _, ?_, hrun, hended, _, _, rfl, ?_, ⟨_, rfl⟩, hW, hsame.mono (by decide) (by decide)⟩
  · rw [← hG0]
    refine K59 _ ?_
    exact retN X58 hx (t := .boolean) Bd.returns (by simp) (hb hby at_179) hr
  · show Q0 Z qw qn qd qdw qdn sel ca cc h0 n0 _ T58.heap _
    rw [e58]
    exact ⟨rfl, N58⟩
set_option maxRecDepth 65536 in
set_option maxHeartbeats 40000000 in
theorem comes_1 {Post : Tables → Env → Array Value → State → Outcome → State → Prop} (hpost : ∀ tb e args s v u, (limb_1_1.after args s (.returned v) u = true ∧ limb_1_2.after args s (.returned v) u = true ∧ True) → FrameEnd s (.returned v) u (Jvm.fieldLocs frame_1_writes args s ++ Jvm.arrayLocs frame_1_arrays args s ++ Jvm.staticLocs frame_1_statics s) 16 128 → Post tb e args s (.returned v) u) :
    ArmFor flags0 classFile x code maxLocals ret World_1 tables_1 room_1 Calls_1 rest_1 Pre_1 Post := by
  intro l hfl _ _ p e ha hc hk s m args below hf hA hF happ hP
  obtain ⟨hcalls, hrest, hpre⟩ := hP
  obtain ⟨-, -, -, hnamed, -, -, -, hat⟩ := (Spec.applies_iff hf).mp happ
  obtain ⟨hg, hn⟩ := and_e (Cond.before_iff.mp (show (Jvm.Cond.and given_1 narrow_1).before args s = true from hpre))
  obtain ⟨g1, g2⟩ := and_e hg
  obtain ⟨g3, g4⟩ := and_e g2
  obtain ⟨g5, g6⟩ := and_e g4
  obtain ⟨g7, g8⟩ := and_e g6
  obtain ⟨g9, g10⟩ := and_e g8
  obtain ⟨g11, g12⟩ := and_e g10
  obtain ⟨w0, w1, w2, w3, w4, w5, rfl⟩ : ∃ w0 w1 w2 w3 w4 w5 : Value, args = #[w0, w1, w2, w3, w4, w5] := by
    have hs : args.size = 6 := by simpa [Cond.value, given_1] using g1
    obtain ⟨L⟩ := args
    match L, hs with
    | [w0, w1, w2, w3, w4, w5], _ => exact ⟨w0, w1, w2, w3, w4, w5, rfl⟩
  have hw := fun d (hd : d ∈ tables_1) => atoms_spec (ws := Jvm.Cond.code x code maxLocals ret :: tables_1) hat d (List.mem_cons_of_mem _ hd)
  have hfit : Fit s := fun {y c} hc i hi => by
    obtain ⟨ha, rfl⟩ := Array.getElem?_eq_some_iff.mp hc
    have q := List.all_eq_true.mp ((Array.all_eq_true_iff_forall_mem.mp hF) _ (Array.getElem_mem ha)) i (List.mem_range.mpr hi)
    simpa [Array.getElem?_eq_getElem hi] using q
  obtain ⟨hsets, hown0⟩ := atoms_of _ (rest_1_c_eq ▸ (show rest_1_c.before _ s = true from hrest))
  have hr0 := Cond.before_iff.mp hown0
  obtain ⟨i0, ei0⟩ := isL_v g3
  obtain rfl : w0 = (.long i0) := Option.some.inj ei0
  obtain ⟨i1, ei1⟩ := isL_v g5
  obtain rfl : w1 = (.long i1) := Option.some.inj ei1
  obtain ⟨i2, ei2⟩ := isL_v g7
  obtain rfl : w2 = (.long i2) := Option.some.inj ei2
  obtain ⟨i3, ei3⟩ := isL_v g9
  obtain rfl : w3 = (.long i3) := Option.some.inj ei3
  obtain ⟨i4, ei4⟩ := isL_v g11
  obtain rfl : w4 = (.long i4) := Option.some.inj ei4
  obtain ⟨i5, ei5⟩ := is_v g12
  obtain rfl : w5 = (.int i5) := Option.some.inj ei5
  obtain ⟨ca, evc⟩ := arr_v (Cond.before_iff.mp (hsets _ (List.mem_of_getElem? (i := 2) rfl)))
  have SC := Sta.start evc (Or.inl (hsets _ (List.mem_of_getElem? (i := 1) rfl)))
  obtain ⟨cc, AC⟩ := Arr.start evc (Cond.before_iff.mp (hsets _ (List.mem_of_getElem? (i := 2) rfl)))
  have hlen := eqv_i (Term.int_eval (256)) (Cond.before_iff.mp (hsets _ (List.mem_of_getElem? (i := 4) rfl)))
  have hac := AC.fin (Vm.Alike.refl _)
  have hlt : cc.slots.size < 2 ^ 31 := by
    rcases Nat.lt_or_ge cc.slots.size (2 ^ 31) with q | q
    · exact q
    · exfalso
      have q' : ¬ cc.slots.size < 2 ^ 31 := Nat.not_lt.mpr q
      simp [Term.eval] at hlen evc
      simp [evc, hac] at hlen
      omega
  obtain ⟨ca', cl', l1, l2, l3⟩ := Term.length_spec hlen
  obtain rfl : ca' = ca := by have := l1.symm.trans evc; simpa using this
  obtain rfl : cl' = cc := Option.some.inj (l2.symm.trans hac)
  have l4 : cl'.slots.size.toInt32 = (256 : Int32) := by simpa using l3.symm
  have BX := Bxs.start (K := "java/lang/Long") (d := "J") (val := fun j => .long (j - (128 : Int32)).toInt64) (fun idx => (evc : _)) AC hlt l4 (by decide) (Cond.before_iff.mp (hsets _ (List.mem_of_getElem? (i := 5) rfl))) (fun X j nn h => eqv_l (i2l_at (by simp [Term.eval, (back32 nn).1])) h)
  obtain ⟨n, o, h1, h2, h3, _, L, rfl, ⟨rfl, N⟩, hq⟩ := rm0 l s _ hw tables_1 i0 i1 i2 i3 i4 i5 ca' cl' s.heap s.heap.size (Nat.le_refl _) (Old.start s) SC BX p e ha hc hk s m _ below hf ((Spec.applies_iff_loose hf).mp happ).1 ⟨rfl, State.Warmed39.refl s, rfl⟩ trivial
  refine ⟨n, _, h1, h2, h3, hpost _ _ _ _ _ _ ⟨Cond.after_iff.mpr rfl, Cond.after_iff.mpr (eq_i res_at (Term.int_eval (1)) rfl), trivial⟩ ⟨hq.1, hq.2.1, (hq.2.2.sift fun y hy => Or.inr (N y hy)).mono (by decide) (by decide)⟩⟩
theorem main_1_1 : Claimed_1_1 := comes_1 fun _ _ _ _ _ _ h hF => ⟨h.1, hF⟩
theorem main_1_2 : Claimed_1_2 := comes_1 fun _ _ _ _ _ _ h hF => ⟨h.2.1, hF⟩
end Jvm.Pilot.@@N@@
namespace Jvm.Pilot.@@N@@
open Jvm Jvm.ClassFile Sem Op Lib Jvm.Free Jvm.Stand Jvm.Pilot.@@N@@.Jvm.D
/-! MADE BY PROGRAM (witnessworld.py) out of the Statement's table words and the real class files: 16 classes; the members and pool entries that the words name. The judged class is class 1, her method 1. -/
namespace start1
open Jvm.ClassFile
def u (s : String) : CpInfo := .utf8 (stringToUtf16 s)
/-- a pool by its gaps: so many unusable entries, then the entry; so many at the end -/
def gap : Nat → List CpInfo → List CpInfo
  | 0, r => r
  | n + 1, r => .unusable :: gap n r
def poolList (es : List (Nat × CpInfo)) (last : Nat) : List CpInfo := es.foldr (fun e r => gap e.1 (e.2 :: r)) (gap last [])
def pool (es : List (Nat × CpInfo)) (last : Nat) : Array CpInfo := ⟨poolList es last⟩
def fileOf (pool : Array CpInfo) (this : Nat) (attrs : Array Attribute := #[]) (ms : Array MethodInfo := #[]) (fl : Nat := 33) (sup : Nat := 0) (ifs : Array Nat := #[]) (fds : Array FieldInfo := #[]) : ClassFile where
  minorVersion := 0
  majorVersion := 65
  constantPool := pool
  accessFlags := fl
  thisClass := this
  superClass := sup
  interfaces := ifs
  fields := fds
  methods := ms
  attributes := attrs
def plain (name : String) (sup : Option ClassId) : Class where
  name := name
  kind := .ordinary
  loader := none
  accessFlags := 33
  super := sup
  interfaces := #[]
  cf := none
  fields := #[]
  methods := #[]
  instanceTypes := #[]
  staticTypes := #[]
  resolved := #[]
  callSites := []
  init := .initialized
  statics := none
  mirror := none

def pool0 : Array CpInfo := pool [(5, u "<init>"), (0, u "()V"), (1, .class_ 10), (1, u "java/lang/Object")] 113

def k0c0 : Code := { maxStack := 0, maxLocals := 1, code := object_method_1_code, exceptionTable := #[], attributes := #[] }
def k0m0 : Method := { name := "<init>", desc := "()V", sig := { parameters := [], returnType := none }, accessFlags := 1, code := some k0c0 }
/-- java/lang/Object -/
def k0 : Class := { plain "java/lang/Object" none with
  accessFlags := 33
  interfaces := #[]
  cf := some (fileOf pool0 8 #[] #[{ accessFlags := 1, nameIndex := 5, descriptorIndex := 6, attributes := #[] }] 33 0 #[] #[])
  fields := #[]
  methods := #[k0m0]
  instanceTypes := #[]
  staticTypes := #[]
  resolved := Array.replicate 124 none
  statics := none }

def pool1 : Array CpInfo := pool [(2, .class_ 4), (1, u "java/lang/Object"), (0, u "<init>"), (0, u "()V"), (0, .class_ 8), (0, u "com/example/slackwise/slackwise/workload/ExactMb"), (0, .methodref 7 10), (0, .nameAndType 5 11), (0, u "(JJJ)V"), (0, .methodref 7 13), (0, .nameAndType 14 15), (0, u "equals"), (0, u "(Ljava/lang/Object;)Z"), (0, .methodref 17 18), (0, .class_ 19), (0, .nameAndType 20 21), (0, u "java/lang/Long"), (0, u "valueOf"), (0, u "(J)Ljava/lang/Long;"), (0, .class_ 23), (0, u "com/example/slackwise/slackwise/workload/ExactMbEqualsPinLaw"), (2, u "law"), (0, u "(JJJJJI)Z")] 3

def k1m0 : Method := { name := "<init>", desc := "()V", sig := { parameters := [], returnType := none }, accessFlags := 1, code := none }
def k1c1 : Code := { maxStack := 8, maxLocals := 20, code := code, exceptionTable := #[], attributes := #[] }
def k1m1 : Method := { name := "law", desc := "(JJJJJI)Z", sig := { parameters := [.long, .long, .long, .long, .long, .int], returnType := some .boolean }, accessFlags := 9, code := some k1c1 }
/-- com/example/slackwise/slackwise/workload/ExactMbEqualsPinLaw -/
def k1 : Class := { plain "com/example/slackwise/slackwise/workload/ExactMbEqualsPinLaw" (some 0) with
  accessFlags := 49
  interfaces := #[]
  cf := some (fileOf pool1 22 #[] #[{ accessFlags := 1, nameIndex := 5, descriptorIndex := 6, attributes := #[] }, { accessFlags := 9, nameIndex := 26, descriptorIndex := 27, attributes := #[] }] 49 2 #[] #[])
  fields := #[]
  methods := #[k1m0, k1m1]
  instanceTypes := #[]
  staticTypes := #[]
  resolved := Array.replicate 31 none
  statics := none }

def pool2 : Array CpInfo := pool [(1, .methodref 2 3), (0, .class_ 4), (0, .nameAndType 5 6), (0, u "java/lang/Object"), (0, u "<init>"), (0, u "()V"), (0, .fieldref 8 9), (0, .class_ 10), (0, .nameAndType 11 12), (0, u "com/example/slackwise/slackwise/workload/ExactMb"), (0, u "whole"), (0, u "J"), (0, .fieldref 8 14), (0, .nameAndType 15 12), (0, u "numerator"), (0, .fieldref 8 17), (0, .nameAndType 18 12), (0, u "denominator"), (16, u "(JJJ)V"), (3, u "equals"), (0, u "(Ljava/lang/Object;)Z")] 22

def k2c0 : Code := { maxStack := 3, maxLocals := 7, code := prog_168_method_1_code, exceptionTable := #[], attributes := #[] }
def k2m0 : Method := { name := "<init>", desc := "(JJJ)V", sig := { parameters := [.long, .long, .long], returnType := none }, accessFlags := 1, code := some k2c0 }
def k2c1 : Code := { maxStack := 4, maxLocals := 3, code := prog_168_method_5_code, exceptionTable := #[], attributes := #[] }
def k2m1 : Method := { name := "equals", desc := "(Ljava/lang/Object;)Z", sig := { parameters := [(.object "java/lang/Object")], returnType := some .boolean }, accessFlags := 1, code := some k2c1 }
/-- com/example/slackwise/slackwise/workload/ExactMb -/
def k2 : Class := { plain "com/example/slackwise/slackwise/workload/ExactMb" (some 0) with
  accessFlags := 49
  interfaces := #[]
  cf := some (fileOf pool2 8 #[] #[{ accessFlags := 1, nameIndex := 5, descriptorIndex := 35, attributes := #[] }, { accessFlags := 1, nameIndex := 39, descriptorIndex := 40, attributes := #[] }] 49 2 #[] #[{ accessFlags := 18, nameIndex := 11, descriptorIndex := 12, attributes := #[] }, { accessFlags := 18, nameIndex := 15, descriptorIndex := 12, attributes := #[] }, { accessFlags := 18, nameIndex := 18, descriptorIndex := 12, attributes := #[] }])
  fields := #[{ name := "whole", type := .long, accessFlags := 18, slot := 0, constantValue := 0 }, { name := "numerator", type := .long, accessFlags := 18, slot := 1, constantValue := 0 }, { name := "denominator", type := .long, accessFlags := 18, slot := 2, constantValue := 0 }]
  methods := #[k2m0, k2m1]
  instanceTypes := #[.long, .long, .long]
  staticTypes := #[]
  resolved := Array.replicate 63 none
  statics := none }

def pool3 : Array CpInfo := pool [(1, .class_ 2), (0, u "java/io/Serializable"), (0, .class_ 4), (0, u "java/lang/Object")] 2

/-- java/io/Serializable -/
def k3 : Class := { plain "java/io/Serializable" (some 0) with
  accessFlags := 1537
  interfaces := #[]
  cf := some (fileOf pool3 1 #[] #[] 1537 3 #[] #[])
  fields := #[]
  methods := #[]
  instanceTypes := #[]
  staticTypes := #[]
  resolved := Array.replicate 7 none
  statics := none }

def pool4 : Array CpInfo := pool [(1, .methodref 2 3), (0, .class_ 4), (0, .nameAndType 5 6), (0, u "java/lang/Object"), (0, u "<init>"), (0, u "()V"), (1, .class_ 10), (1, u "java/lang/Number"), (2, .class_ 14), (0, u "java/io/Serializable"), (0, u "serialVersionUID"), (0, u "J")] 20

def k4c0 : Code := { maxStack := 1, maxLocals := 1, code := jdk_18_method_1_code, exceptionTable := #[], attributes := #[] }
def k4m0 : Method := { name := "<init>", desc := "()V", sig := { parameters := [], returnType := none }, accessFlags := 1, code := some k4c0 }
/-- java/lang/Number -/
def k4 : Class := { plain "java/lang/Number" (some 0) with
  accessFlags := 1057
  interfaces := #[3]
  cf := some (fileOf pool4 8 #[] #[{ accessFlags := 1, nameIndex := 5, descriptorIndex := 6, attributes := #[] }] 1057 2 #[13] #[{ accessFlags := 26, nameIndex := 15, descriptorIndex := 16, attributes := #[] }])
  fields := #[{ name := "serialVersionUID", type := .long, accessFlags := 26, slot := 0, constantValue := 0 }]
  methods := #[k4m0]
  instanceTypes := #[]
  staticTypes := #[.long]
  resolved := Array.replicate 37 none
  statics := none }

def pool5 : Array CpInfo := pool [(1, .class_ 2), (0, u "java/lang/Comparable"), (0, .class_ 4), (0, u "java/lang/Object")] 7

/-- java/lang/Comparable -/
def k5 : Class := { plain "java/lang/Comparable" (some 0) with
  accessFlags := 1537
  interfaces := #[]
  cf := some (fileOf pool5 1 #[] #[] 1537 3 #[] #[])
  fields := #[]
  methods := #[]
  instanceTypes := #[]
  staticTypes := #[]
  resolved := Array.replicate 12 none
  statics := none }

def pool6 : Array CpInfo := pool [(1, .class_ 2), (0, u "java/lang/constant/Constable"), (0, .class_ 4), (0, u "java/lang/Object")] 6

/-- java/lang/constant/Constable -/
def k6 : Class := { plain "java/lang/constant/Constable" (some 0) with
  accessFlags := 1537
  interfaces := #[]
  cf := some (fileOf pool6 1 #[] #[] 1537 3 #[] #[])
  fields := #[]
  methods := #[]
  instanceTypes := #[]
  staticTypes := #[]
  resolved := Array.replicate 11 none
  statics := none }

def pool7 : Array CpInfo := pool [(1, .class_ 2), (0, u "java/lang/constant/ConstantDesc"), (0, .class_ 4), (0, u "java/lang/Object")] 32

/-- java/lang/constant/ConstantDesc -/
def k7 : Class := { plain "java/lang/constant/ConstantDesc" (some 0) with
  accessFlags := 1537
  interfaces := #[]
  cf := some (fileOf pool7 1 #[] #[] 1537 3 #[] #[])
  fields := #[]
  methods := #[]
  instanceTypes := #[]
  staticTypes := #[]
  resolved := Array.replicate 37 none
  statics := none }

def pool8 : Array CpInfo := pool [(1, .class_ 2), (0, u "java/lang/Long"), (55, .nameAndType 59 60), (0, u "<init>"), (0, u "()V"), (24, u "valueOf"), (143, u "(J)Ljava/lang/Long;"), (0, .long 18446744073709551488), (1, .long 127), (1, .fieldref 235 236), (0, .class_ 237), (0, .nameAndType 238 239), (0, u "java/lang/Long$LongCache"), (0, u "cache"), (0, u "[Ljava/lang/Long;"), (0, .methodref 1 241), (0, .nameAndType 59 242), (0, u "(J)V"), (27, .methodref 271 58), (0, .class_ 272), (0, u "java/lang/Number"), (0, .fieldref 1 274), (0, .nameAndType 275 276), (0, u "value"), (0, u "J"), (84, u "TYPE"), (0, u "Ljava/lang/Class;"), (0, .class_ 364), (0, u "java/lang/Comparable"), (0, .class_ 366), (0, u "java/lang/constant/Constable"), (0, .class_ 368), (0, u "java/lang/constant/ConstantDesc"), (0, u "MIN_VALUE"), (1, u "MAX_VALUE"), (4, u "SIZE"), (0, u "I"), (1, u "BYTES"), (1, u "serialVersionUID")] 142

def k8c0 : Code := { maxStack := 4, maxLocals := 3, code := jdk_35_method_24_code, exceptionTable := #[], attributes := #[] }
def k8m0 : Method := { name := "valueOf", desc := "(J)Ljava/lang/Long;", sig := { parameters := [.long], returnType := some (.object "java/lang/Long") }, accessFlags := 9, code := some k8c0 }
def k8c1 : Code := { maxStack := 3, maxLocals := 3, code := jdk_35_method_26_code, exceptionTable := #[], attributes := #[] }
def k8m1 : Method := { name := "<init>", desc := "(J)V", sig := { parameters := [.long], returnType := none }, accessFlags := 1, code := some k8c1 }
/-- java/lang/Long -/
def k8 : Class := { plain "java/lang/Long" (some 4) with
  accessFlags := 49
  interfaces := #[5, 6, 7]
  cf := some (fileOf pool8 1 #[.nestMembers #[235]] #[{ accessFlags := 9, nameIndex := 85, descriptorIndex := 229, attributes := #[] }, { accessFlags := 1, nameIndex := 59, descriptorIndex := 242, attributes := #[] }] 49 271 #[363, 365, 367] #[{ accessFlags := 25, nameIndex := 369, descriptorIndex := 276, attributes := #[] }, { accessFlags := 25, nameIndex := 371, descriptorIndex := 276, attributes := #[] }, { accessFlags := 25, nameIndex := 361, descriptorIndex := 362, attributes := #[] }, { accessFlags := 18, nameIndex := 275, descriptorIndex := 276, attributes := #[] }, { accessFlags := 25, nameIndex := 376, descriptorIndex := 377, attributes := #[] }, { accessFlags := 25, nameIndex := 379, descriptorIndex := 377, attributes := #[] }, { accessFlags := 26, nameIndex := 381, descriptorIndex := 276, attributes := #[] }])
  fields := #[{ name := "MIN_VALUE", type := .long, accessFlags := 25, slot := 0, constantValue := 0 }, { name := "MAX_VALUE", type := .long, accessFlags := 25, slot := 1, constantValue := 0 }, { name := "TYPE", type := (.object "java/lang/Class"), accessFlags := 25, slot := 2, constantValue := 0 }, { name := "value", type := .long, accessFlags := 18, slot := 0, constantValue := 0 }, { name := "SIZE", type := .int, accessFlags := 25, slot := 3, constantValue := 0 }, { name := "BYTES", type := .int, accessFlags := 25, slot := 4, constantValue := 0 }, { name := "serialVersionUID", type := .long, accessFlags := 26, slot := 5, constantValue := 0 }]
  methods := #[k8m0, k8m1]
  instanceTypes := #[.long]
  staticTypes := #[.long, .long, (.object "java/lang/Class"), .int, .int, .long]
  resolved := Array.replicate 524 none
  statics := none }

def pool9 : Array CpInfo := pool [(2, .class_ 4), (1, u "java/lang/Object"), (0, u "<init>"), (0, u "()V"), (0, .class_ 8), (0, u "java/lang/Long"), (7, .class_ 18), (1, u "java/lang/Long$LongCache"), (0, u "$assertionsDisabled"), (0, u "Z"), (8, u "archivedCache"), (0, u "[Ljava/lang/Long;"), (7, u "cache")] 24

def k9m0 : Method := { name := "<init>", desc := "()V", sig := { parameters := [], returnType := none }, accessFlags := 2, code := none }
/-- java/lang/Long$LongCache -/
def k9 : Class := { plain "java/lang/Long$LongCache" (some 0) with
  accessFlags := 48
  interfaces := #[]
  cf := some (fileOf pool9 16 #[.nestHost 7] #[{ accessFlags := 2, nameIndex := 5, descriptorIndex := 6, attributes := #[] }] 48 2 #[] #[{ accessFlags := 24, nameIndex := 38, descriptorIndex := 30, attributes := #[] }, { accessFlags := 8, nameIndex := 29, descriptorIndex := 30, attributes := #[] }, { accessFlags := 4120, nameIndex := 19, descriptorIndex := 20, attributes := #[] }])
  fields := #[{ name := "cache", type := (.array (.object "java/lang/Long")), accessFlags := 24, slot := 0, constantValue := 0 }, { name := "archivedCache", type := (.array (.object "java/lang/Long")), accessFlags := 8, slot := 1, constantValue := 0 }, { name := "$assertionsDisabled", type := .boolean, accessFlags := 4120, slot := 2, constantValue := 0 }]
  methods := #[k9m0]
  instanceTypes := #[]
  staticTypes := #[(.array (.object "java/lang/Long")), (.array (.object "java/lang/Long")), .boolean]
  resolved := Array.replicate 63 none
  statics := some 0 }

def pool10 : Array CpInfo := pool [(1, u "java/lang/Cloneable"), (0, .class_ 1), (0, u "java/lang/Object"), (0, .class_ 3)] 3

/-- java/lang/Cloneable -/
def k10 : Class := { plain "java/lang/Cloneable" (some 0) with
  accessFlags := 1537
  interfaces := #[]
  cf := some (fileOf pool10 2 #[] #[] 1537 4 #[] #[])
  fields := #[]
  methods := #[]
  instanceTypes := #[]
  staticTypes := #[]
  resolved := Array.replicate 8 none
  statics := none }

/-- the primitive byte -/
def k11 : Class := { plain "byte" none with kind := .primitive 'B', accessFlags := 0x411 }
/-- [B -/
def k12 : Class := { plain "[B" (some 0) with kind := .array 11 .byte, interfaces := #[10, 3], accessFlags := 1041 }

/-- the primitive int -/
def k13 : Class := { plain "int" none with kind := .primitive 'I', accessFlags := 0x411 }
/-- [I -/
def k14 : Class := { plain "[I" (some 0) with kind := .array 13 .int, interfaces := #[10, 3], accessFlags := 1041 }

/-- [Ljava/lang/Long; -/
def k15 : Class := { plain "[Ljava/lang/Long;" (some 0) with kind := .array 8 (.object "java/lang/Long"), interfaces := #[10, 3], accessFlags := 1041 }

def heap : Heap := #[{ cls := 9, slots := #[.ref 1, .null, .int 0], vm := .statics 9 },
  { cls := 15, slots := #[.ref 2, .ref 3, .ref 4, .ref 5, .ref 6, .ref 7, .ref 8, .ref 9, .ref 10, .ref 11, .ref 12, .ref 13, .ref 14, .ref 15, .ref 16, .ref 17, .ref 18, .ref 19, .ref 20, .ref 21, .ref 22, .ref 23, .ref 24, .ref 25, .ref 26, .ref 27, .ref 28, .ref 29, .ref 30, .ref 31, .ref 32, .ref 33, .ref 34, .ref 35, .ref 36, .ref 37, .ref 38, .ref 39, .ref 40, .ref 41, .ref 42, .ref 43, .ref 44, .ref 45, .ref 46, .ref 47, .ref 48, .ref 49, .ref 50, .ref 51, .ref 52, .ref 53, .ref 54, .ref 55, .ref 56, .ref 57, .ref 58, .ref 59, .ref 60, .ref 61, .ref 62, .ref 63, .ref 64, .ref 65, .ref 66, .ref 67, .ref 68, .ref 69, .ref 70, .ref 71, .ref 72, .ref 73, .ref 74, .ref 75, .ref 76, .ref 77, .ref 78, .ref 79, .ref 80, .ref 81, .ref 82, .ref 83, .ref 84, .ref 85, .ref 86, .ref 87, .ref 88, .ref 89, .ref 90, .ref 91, .ref 92, .ref 93, .ref 94, .ref 95, .ref 96, .ref 97, .ref 98, .ref 99, .ref 100, .ref 101, .ref 102, .ref 103, .ref 104, .ref 105, .ref 106, .ref 107, .ref 108, .ref 109, .ref 110, .ref 111, .ref 112, .ref 113, .ref 114, .ref 115, .ref 116, .ref 117, .ref 118, .ref 119, .ref 120, .ref 121, .ref 122, .ref 123, .ref 124, .ref 125, .ref 126, .ref 127, .ref 128, .ref 129, .ref 130, .ref 131, .ref 132, .ref 133, .ref 134, .ref 135, .ref 136, .ref 137, .ref 138, .ref 139, .ref 140, .ref 141, .ref 142, .ref 143, .ref 144, .ref 145, .ref 146, .ref 147, .ref 148, .ref 149, .ref 150, .ref 151, .ref 152, .ref 153, .ref 154, .ref 155, .ref 156, .ref 157, .ref 158, .ref 159, .ref 160, .ref 161, .ref 162, .ref 163, .ref 164, .ref 165, .ref 166, .ref 167, .ref 168, .ref 169, .ref 170, .ref 171, .ref 172, .ref 173, .ref 174, .ref 175, .ref 176, .ref 177, .ref 178, .ref 179, .ref 180, .ref 181, .ref 182, .ref 183, .ref 184, .ref 185, .ref 186, .ref 187, .ref 188, .ref 189, .ref 190, .ref 191, .ref 192, .ref 193, .ref 194, .ref 195, .ref 196, .ref 197, .ref 198, .ref 199, .ref 200, .ref 201, .ref 202, .ref 203, .ref 204, .ref 205, .ref 206, .ref 207, .ref 208, .ref 209, .ref 210, .ref 211, .ref 212, .ref 213, .ref 214, .ref 215, .ref 216, .ref 217, .ref 218, .ref 219, .ref 220, .ref 221, .ref 222, .ref 223, .ref 224, .ref 225, .ref 226, .ref 227, .ref 228, .ref 229, .ref 230, .ref 231, .ref 232, .ref 233, .ref 234, .ref 235, .ref 236, .ref 237, .ref 238, .ref 239, .ref 240, .ref 241, .ref 242, .ref 243, .ref 244, .ref 245, .ref 246, .ref 247, .ref 248, .ref 249, .ref 250, .ref 251, .ref 252, .ref 253, .ref 254, .ref 255, .ref 256, .ref 257], vm := .none },
  { cls := 8, slots := #[.long (-128)], vm := .none },
  { cls := 8, slots := #[.long (-127)], vm := .none },
  { cls := 8, slots := #[.long (-126)], vm := .none },
  { cls := 8, slots := #[.long (-125)], vm := .none },
  { cls := 8, slots := #[.long (-124)], vm := .none },
  { cls := 8, slots := #[.long (-123)], vm := .none },
  { cls := 8, slots := #[.long (-122)], vm := .none },
  { cls := 8, slots := #[.long (-121)], vm := .none },
  { cls := 8, slots := #[.long (-120)], vm := .none },
  { cls := 8, slots := #[.long (-119)], vm := .none },
  { cls := 8, slots := #[.long (-118)], vm := .none },
  { cls := 8, slots := #[.long (-117)], vm := .none },
  { cls := 8, slots := #[.long (-116)], vm := .none },
  { cls := 8, slots := #[.long (-115)], vm := .none },
  { cls := 8, slots := #[.long (-114)], vm := .none },
  { cls := 8, slots := #[.long (-113)], vm := .none },
  { cls := 8, slots := #[.long (-112)], vm := .none },
  { cls := 8, slots := #[.long (-111)], vm := .none },
  { cls := 8, slots := #[.long (-110)], vm := .none },
  { cls := 8, slots := #[.long (-109)], vm := .none },
  { cls := 8, slots := #[.long (-108)], vm := .none },
  { cls := 8, slots := #[.long (-107)], vm := .none },
  { cls := 8, slots := #[.long (-106)], vm := .none },
  { cls := 8, slots := #[.long (-105)], vm := .none },
  { cls := 8, slots := #[.long (-104)], vm := .none },
  { cls := 8, slots := #[.long (-103)], vm := .none },
  { cls := 8, slots := #[.long (-102)], vm := .none },
  { cls := 8, slots := #[.long (-101)], vm := .none },
  { cls := 8, slots := #[.long (-100)], vm := .none },
  { cls := 8, slots := #[.long (-99)], vm := .none },
  { cls := 8, slots := #[.long (-98)], vm := .none },
  { cls := 8, slots := #[.long (-97)], vm := .none },
  { cls := 8, slots := #[.long (-96)], vm := .none },
  { cls := 8, slots := #[.long (-95)], vm := .none },
  { cls := 8, slots := #[.long (-94)], vm := .none },
  { cls := 8, slots := #[.long (-93)], vm := .none },
  { cls := 8, slots := #[.long (-92)], vm := .none },
  { cls := 8, slots := #[.long (-91)], vm := .none },
  { cls := 8, slots := #[.long (-90)], vm := .none },
  { cls := 8, slots := #[.long (-89)], vm := .none },
  { cls := 8, slots := #[.long (-88)], vm := .none },
  { cls := 8, slots := #[.long (-87)], vm := .none },
  { cls := 8, slots := #[.long (-86)], vm := .none },
  { cls := 8, slots := #[.long (-85)], vm := .none },
  { cls := 8, slots := #[.long (-84)], vm := .none },
  { cls := 8, slots := #[.long (-83)], vm := .none },
  { cls := 8, slots := #[.long (-82)], vm := .none },
  { cls := 8, slots := #[.long (-81)], vm := .none },
  { cls := 8, slots := #[.long (-80)], vm := .none },
  { cls := 8, slots := #[.long (-79)], vm := .none },
  { cls := 8, slots := #[.long (-78)], vm := .none },
  { cls := 8, slots := #[.long (-77)], vm := .none },
  { cls := 8, slots := #[.long (-76)], vm := .none },
  { cls := 8, slots := #[.long (-75)], vm := .none },
  { cls := 8, slots := #[.long (-74)], vm := .none },
  { cls := 8, slots := #[.long (-73)], vm := .none },
  { cls := 8, slots := #[.long (-72)], vm := .none },
  { cls := 8, slots := #[.long (-71)], vm := .none },
  { cls := 8, slots := #[.long (-70)], vm := .none },
  { cls := 8, slots := #[.long (-69)], vm := .none },
  { cls := 8, slots := #[.long (-68)], vm := .none },
  { cls := 8, slots := #[.long (-67)], vm := .none },
  { cls := 8, slots := #[.long (-66)], vm := .none },
  { cls := 8, slots := #[.long (-65)], vm := .none },
  { cls := 8, slots := #[.long (-64)], vm := .none },
  { cls := 8, slots := #[.long (-63)], vm := .none },
  { cls := 8, slots := #[.long (-62)], vm := .none },
  { cls := 8, slots := #[.long (-61)], vm := .none },
  { cls := 8, slots := #[.long (-60)], vm := .none },
  { cls := 8, slots := #[.long (-59)], vm := .none },
  { cls := 8, slots := #[.long (-58)], vm := .none },
  { cls := 8, slots := #[.long (-57)], vm := .none },
  { cls := 8, slots := #[.long (-56)], vm := .none },
  { cls := 8, slots := #[.long (-55)], vm := .none },
  { cls := 8, slots := #[.long (-54)], vm := .none },
  { cls := 8, slots := #[.long (-53)], vm := .none },
  { cls := 8, slots := #[.long (-52)], vm := .none },
  { cls := 8, slots := #[.long (-51)], vm := .none },
  { cls := 8, slots := #[.long (-50)], vm := .none },
  { cls := 8, slots := #[.long (-49)], vm := .none },
  { cls := 8, slots := #[.long (-48)], vm := .none },
  { cls := 8, slots := #[.long (-47)], vm := .none },
  { cls := 8, slots := #[.long (-46)], vm := .none },
  { cls := 8, slots := #[.long (-45)], vm := .none },
  { cls := 8, slots := #[.long (-44)], vm := .none },
  { cls := 8, slots := #[.long (-43)], vm := .none },
  { cls := 8, slots := #[.long (-42)], vm := .none },
  { cls := 8, slots := #[.long (-41)], vm := .none },
  { cls := 8, slots := #[.long (-40)], vm := .none },
  { cls := 8, slots := #[.long (-39)], vm := .none },
  { cls := 8, slots := #[.long (-38)], vm := .none },
  { cls := 8, slots := #[.long (-37)], vm := .none },
  { cls := 8, slots := #[.long (-36)], vm := .none },
  { cls := 8, slots := #[.long (-35)], vm := .none },
  { cls := 8, slots := #[.long (-34)], vm := .none },
  { cls := 8, slots := #[.long (-33)], vm := .none },
  { cls := 8, slots := #[.long (-32)], vm := .none },
  { cls := 8, slots := #[.long (-31)], vm := .none },
  { cls := 8, slots := #[.long (-30)], vm := .none },
  { cls := 8, slots := #[.long (-29)], vm := .none },
  { cls := 8, slots := #[.long (-28)], vm := .none },
  { cls := 8, slots := #[.long (-27)], vm := .none },
  { cls := 8, slots := #[.long (-26)], vm := .none },
  { cls := 8, slots := #[.long (-25)], vm := .none },
  { cls := 8, slots := #[.long (-24)], vm := .none },
  { cls := 8, slots := #[.long (-23)], vm := .none },
  { cls := 8, slots := #[.long (-22)], vm := .none },
  { cls := 8, slots := #[.long (-21)], vm := .none },
  { cls := 8, slots := #[.long (-20)], vm := .none },
  { cls := 8, slots := #[.long (-19)], vm := .none },
  { cls := 8, slots := #[.long (-18)], vm := .none },
  { cls := 8, slots := #[.long (-17)], vm := .none },
  { cls := 8, slots := #[.long (-16)], vm := .none },
  { cls := 8, slots := #[.long (-15)], vm := .none },
  { cls := 8, slots := #[.long (-14)], vm := .none },
  { cls := 8, slots := #[.long (-13)], vm := .none },
  { cls := 8, slots := #[.long (-12)], vm := .none },
  { cls := 8, slots := #[.long (-11)], vm := .none },
  { cls := 8, slots := #[.long (-10)], vm := .none },
  { cls := 8, slots := #[.long (-9)], vm := .none },
  { cls := 8, slots := #[.long (-8)], vm := .none },
  { cls := 8, slots := #[.long (-7)], vm := .none },
  { cls := 8, slots := #[.long (-6)], vm := .none },
  { cls := 8, slots := #[.long (-5)], vm := .none },
  { cls := 8, slots := #[.long (-4)], vm := .none },
  { cls := 8, slots := #[.long (-3)], vm := .none },
  { cls := 8, slots := #[.long (-2)], vm := .none },
  { cls := 8, slots := #[.long (-1)], vm := .none },
  { cls := 8, slots := #[.long (0)], vm := .none },
  { cls := 8, slots := #[.long (1)], vm := .none },
  { cls := 8, slots := #[.long (2)], vm := .none },
  { cls := 8, slots := #[.long (3)], vm := .none },
  { cls := 8, slots := #[.long (4)], vm := .none },
  { cls := 8, slots := #[.long (5)], vm := .none },
  { cls := 8, slots := #[.long (6)], vm := .none },
  { cls := 8, slots := #[.long (7)], vm := .none },
  { cls := 8, slots := #[.long (8)], vm := .none },
  { cls := 8, slots := #[.long (9)], vm := .none },
  { cls := 8, slots := #[.long (10)], vm := .none },
  { cls := 8, slots := #[.long (11)], vm := .none },
  { cls := 8, slots := #[.long (12)], vm := .none },
  { cls := 8, slots := #[.long (13)], vm := .none },
  { cls := 8, slots := #[.long (14)], vm := .none },
  { cls := 8, slots := #[.long (15)], vm := .none },
  { cls := 8, slots := #[.long (16)], vm := .none },
  { cls := 8, slots := #[.long (17)], vm := .none },
  { cls := 8, slots := #[.long (18)], vm := .none },
  { cls := 8, slots := #[.long (19)], vm := .none },
  { cls := 8, slots := #[.long (20)], vm := .none },
  { cls := 8, slots := #[.long (21)], vm := .none },
  { cls := 8, slots := #[.long (22)], vm := .none },
  { cls := 8, slots := #[.long (23)], vm := .none },
  { cls := 8, slots := #[.long (24)], vm := .none },
  { cls := 8, slots := #[.long (25)], vm := .none },
  { cls := 8, slots := #[.long (26)], vm := .none },
  { cls := 8, slots := #[.long (27)], vm := .none },
  { cls := 8, slots := #[.long (28)], vm := .none },
  { cls := 8, slots := #[.long (29)], vm := .none },
  { cls := 8, slots := #[.long (30)], vm := .none },
  { cls := 8, slots := #[.long (31)], vm := .none },
  { cls := 8, slots := #[.long (32)], vm := .none },
  { cls := 8, slots := #[.long (33)], vm := .none },
  { cls := 8, slots := #[.long (34)], vm := .none },
  { cls := 8, slots := #[.long (35)], vm := .none },
  { cls := 8, slots := #[.long (36)], vm := .none },
  { cls := 8, slots := #[.long (37)], vm := .none },
  { cls := 8, slots := #[.long (38)], vm := .none },
  { cls := 8, slots := #[.long (39)], vm := .none },
  { cls := 8, slots := #[.long (40)], vm := .none },
  { cls := 8, slots := #[.long (41)], vm := .none },
  { cls := 8, slots := #[.long (42)], vm := .none },
  { cls := 8, slots := #[.long (43)], vm := .none },
  { cls := 8, slots := #[.long (44)], vm := .none },
  { cls := 8, slots := #[.long (45)], vm := .none },
  { cls := 8, slots := #[.long (46)], vm := .none },
  { cls := 8, slots := #[.long (47)], vm := .none },
  { cls := 8, slots := #[.long (48)], vm := .none },
  { cls := 8, slots := #[.long (49)], vm := .none },
  { cls := 8, slots := #[.long (50)], vm := .none },
  { cls := 8, slots := #[.long (51)], vm := .none },
  { cls := 8, slots := #[.long (52)], vm := .none },
  { cls := 8, slots := #[.long (53)], vm := .none },
  { cls := 8, slots := #[.long (54)], vm := .none },
  { cls := 8, slots := #[.long (55)], vm := .none },
  { cls := 8, slots := #[.long (56)], vm := .none },
  { cls := 8, slots := #[.long (57)], vm := .none },
  { cls := 8, slots := #[.long (58)], vm := .none },
  { cls := 8, slots := #[.long (59)], vm := .none },
  { cls := 8, slots := #[.long (60)], vm := .none },
  { cls := 8, slots := #[.long (61)], vm := .none },
  { cls := 8, slots := #[.long (62)], vm := .none },
  { cls := 8, slots := #[.long (63)], vm := .none },
  { cls := 8, slots := #[.long (64)], vm := .none },
  { cls := 8, slots := #[.long (65)], vm := .none },
  { cls := 8, slots := #[.long (66)], vm := .none },
  { cls := 8, slots := #[.long (67)], vm := .none },
  { cls := 8, slots := #[.long (68)], vm := .none },
  { cls := 8, slots := #[.long (69)], vm := .none },
  { cls := 8, slots := #[.long (70)], vm := .none },
  { cls := 8, slots := #[.long (71)], vm := .none },
  { cls := 8, slots := #[.long (72)], vm := .none },
  { cls := 8, slots := #[.long (73)], vm := .none },
  { cls := 8, slots := #[.long (74)], vm := .none },
  { cls := 8, slots := #[.long (75)], vm := .none },
  { cls := 8, slots := #[.long (76)], vm := .none },
  { cls := 8, slots := #[.long (77)], vm := .none },
  { cls := 8, slots := #[.long (78)], vm := .none },
  { cls := 8, slots := #[.long (79)], vm := .none },
  { cls := 8, slots := #[.long (80)], vm := .none },
  { cls := 8, slots := #[.long (81)], vm := .none },
  { cls := 8, slots := #[.long (82)], vm := .none },
  { cls := 8, slots := #[.long (83)], vm := .none },
  { cls := 8, slots := #[.long (84)], vm := .none },
  { cls := 8, slots := #[.long (85)], vm := .none },
  { cls := 8, slots := #[.long (86)], vm := .none },
  { cls := 8, slots := #[.long (87)], vm := .none },
  { cls := 8, slots := #[.long (88)], vm := .none },
  { cls := 8, slots := #[.long (89)], vm := .none },
  { cls := 8, slots := #[.long (90)], vm := .none },
  { cls := 8, slots := #[.long (91)], vm := .none },
  { cls := 8, slots := #[.long (92)], vm := .none },
  { cls := 8, slots := #[.long (93)], vm := .none },
  { cls := 8, slots := #[.long (94)], vm := .none },
  { cls := 8, slots := #[.long (95)], vm := .none },
  { cls := 8, slots := #[.long (96)], vm := .none },
  { cls := 8, slots := #[.long (97)], vm := .none },
  { cls := 8, slots := #[.long (98)], vm := .none },
  { cls := 8, slots := #[.long (99)], vm := .none },
  { cls := 8, slots := #[.long (100)], vm := .none },
  { cls := 8, slots := #[.long (101)], vm := .none },
  { cls := 8, slots := #[.long (102)], vm := .none },
  { cls := 8, slots := #[.long (103)], vm := .none },
  { cls := 8, slots := #[.long (104)], vm := .none },
  { cls := 8, slots := #[.long (105)], vm := .none },
  { cls := 8, slots := #[.long (106)], vm := .none },
  { cls := 8, slots := #[.long (107)], vm := .none },
  { cls := 8, slots := #[.long (108)], vm := .none },
  { cls := 8, slots := #[.long (109)], vm := .none },
  { cls := 8, slots := #[.long (110)], vm := .none },
  { cls := 8, slots := #[.long (111)], vm := .none },
  { cls := 8, slots := #[.long (112)], vm := .none },
  { cls := 8, slots := #[.long (113)], vm := .none },
  { cls := 8, slots := #[.long (114)], vm := .none },
  { cls := 8, slots := #[.long (115)], vm := .none },
  { cls := 8, slots := #[.long (116)], vm := .none },
  { cls := 8, slots := #[.long (117)], vm := .none },
  { cls := 8, slots := #[.long (118)], vm := .none },
  { cls := 8, slots := #[.long (119)], vm := .none },
  { cls := 8, slots := #[.long (120)], vm := .none },
  { cls := 8, slots := #[.long (121)], vm := .none },
  { cls := 8, slots := #[.long (122)], vm := .none },
  { cls := 8, slots := #[.long (123)], vm := .none },
  { cls := 8, slots := #[.long (124)], vm := .none },
  { cls := 8, slots := #[.long (125)], vm := .none },
  { cls := 8, slots := #[.long (126)], vm := .none },
  { cls := 8, slots := #[.long (127)], vm := .none }]
def classes : Array Class := #[k0, k1, k2, k3, k4, k5, k6, k7, k8, k9, k10, k11, k12, k13, k14, k15]
def interned : List (Array UInt16 × Addr) := []
def slotsUsed : Nat := 515
def theMethod : MethodId := ⟨1, 1⟩
def args0 : Array Value := #[.long 9, .long 7, .long 7, .long 7, .long 7, .int 7]
def aboutOver (below : List Frame) : State where
  vm := { classes := classes, interned := interned.toArray }
  heap := heap
  slotsUsed := slotsUsed
  threads := #[{ frames := .invoking theMethod args0 :: below }]
def below0 : List Frame := [.native { method := ⟨0, 0⟩, args := #[] }]
def about1 : State := aboutOver below0
def p0 : Program := .bare "" "" ""
def e0 : Env := launch0.env 0 0 0
theorem w_frames : about1.frames = Frame.invoking theMethod args0 :: below0 := rfl
set_option maxRecDepth 65536 in
theorem w_args : argsFit about1.vm theMethod args0 = true := by decide +kernel
set_option maxRecDepth 65536 in
theorem w_heap : heapFits about1 = true := by decide +kernel
set_option maxRecDepth 65536 in
theorem w_runnable : about1.curStatus? = some .runnable := by decide +kernel
set_option maxRecDepth 65536 in
theorem w_alone : about1.alone = true := by decide +kernel
set_option maxRecDepth 65536 in
theorem w_named : about1.methodNamed? x = some theMethod := by decide +kernel
set_option maxRecDepth 65536 in
theorem w_hears : about1.hears theMethod below0 = true := by decide +kernel
set_option maxRecDepth 65536 in
theorem w_ripe : about1.ripe theMethod args0 below0 = true := by decide +kernel
theorem w_running : about1.status = .running := rfl
set_option maxRecDepth 65536 in
theorem w_room : about1.hasRoom e0.platform room_1 = true :=
  launch0.hasRoom_least _ room_1 (by decide +kernel) (by decide +kernel) (by decide +kernel) (by decide +kernel) (by decide +kernel) (by decide +kernel)
theorem allAtoms_all (ts : List Jvm.Cond) (a : Array Jvm.Value) (st : Jvm.State) : (allAtoms ts).before a st = ts.all (fun c => c.before a st) := by
  induction ts with
  | nil => rfl
  | cons c t ih =>
    show (Jvm.Cond.and c (allAtoms t)).before a st = _
    rw [Jvm.Cond.before_and, ih, List.all_cons]
def words1 : List Jvm.Cond := Jvm.Cond.code x code maxLocals ret :: tables_1
/-- a 'code' word, met by the world's own term for the bytes: nothing is compared byte by byte -/
theorem code_word {y : MethodName} {bytes : ByteArray} {mx : Nat} {rt : Option FieldType} {a : Array Value} {s : State} {m : MethodId} {meth : Method} {c : Code} (h1 : s.methodNamed? y = some m) (h2 : s.vm.method? m = some meth) (h3 : meth.code = some c) (h4 : c.code = bytes)
    (h5 : (c.maxLocals == mx && c.exceptionTable.isEmpty && decide (c.maxStack ≤ mostOperands) && decide (meth.sig.returnType = rt) && !meth.locks && decide (parseMethodDescriptor y.desc = some meth.sig)) = true) : (Jvm.Cond.code y bytes mx rt).before a s = true := by
  simp only [Bool.and_eq_true, beq_iff_eq, Bool.not_eq_true', decide_eq_true_eq] at h5
  obtain ⟨⟨⟨⟨⟨g1, g2⟩, g3⟩, g4⟩, g5⟩, g6⟩ := h5
  simp [Cond.before, Cond.holds, Cond.value, h1, h2, h3, h4, g1, g2, g3, g4, g5, g6]
def isCode : Jvm.Cond → Bool
  | .code _ _ _ _ => true
  | _ => false
theorem all_split {L : List Jvm.Cond} {P : Jvm.Cond → Bool} (h1 : L.all (fun c => isCode c || P c) = true) (h2 : ∀ c ∈ L.filter isCode, P c = true) : L.all P = true := by
  refine List.all_eq_true.mpr fun c hc => ?_
  have h := List.all_eq_true.mp h1 c hc
  rcases Bool.eq_false_or_eq_true (isCode c) with hi | hi
  · exact h2 c (List.mem_filter.mpr ⟨hc, hi⟩)
  · simpa [hi] using h
set_option maxRecDepth 65536 in
theorem w_c0 : (Jvm.Cond.code x code maxLocals ret).before args0 about1 = true := code_word (m := ⟨1, 1⟩) (meth := k1m1) (c := k1c1) (by decide +kernel) rfl rfl rfl (by decide +kernel)
set_option maxRecDepth 65536 in
theorem w_c1 : (Jvm.Cond.code ({ cls := "com/example/slackwise/slackwise/workload/ExactMb", name := "<init>", desc := "(JJJ)V" } : Jvm.MethodName) prog_168_method_1_code (7 : Nat) (Option.none : Option Jvm.ClassFile.FieldType)).before args0 about1 = true := code_word (m := ⟨2, 0⟩) (meth := k2m0) (c := k2c0) (by decide +kernel) rfl rfl rfl (by decide +kernel)
set_option maxRecDepth 65536 in
theorem w_c2 : (Jvm.Cond.code ({ cls := "java/lang/Object", name := "<init>", desc := "()V" } : Jvm.MethodName) object_method_1_code (1 : Nat) (Option.none : Option Jvm.ClassFile.FieldType)).before args0 about1 = true := code_word (m := ⟨0, 0⟩) (meth := k0m0) (c := k0c0) (by decide +kernel) rfl rfl rfl (by decide +kernel)
set_option maxRecDepth 65536 in
theorem w_c3 : (Jvm.Cond.code ({ cls := "com/example/slackwise/slackwise/workload/ExactMb", name := "equals", desc := "(Ljava/lang/Object;)Z" } : Jvm.MethodName) prog_168_method_5_code (3 : Nat) (Option.some Jvm.ClassFile.FieldType.boolean)).before args0 about1 = true := code_word (m := ⟨2, 1⟩) (meth := k2m1) (c := k2c1) (by decide +kernel) rfl rfl rfl (by decide +kernel)
set_option maxRecDepth 65536 in
theorem w_c4 : (Jvm.Cond.code ({ cls := "java/lang/Long", name := "valueOf", desc := "(J)Ljava/lang/Long;" } : Jvm.MethodName) jdk_35_method_24_code (3 : Nat) (Option.some (Jvm.ClassFile.FieldType.object "java/lang/Long"))).before args0 about1 = true := code_word (m := ⟨8, 0⟩) (meth := k8m0) (c := k8c0) (by decide +kernel) rfl rfl rfl (by decide +kernel)
set_option maxRecDepth 65536 in
theorem w_c5 : (Jvm.Cond.code ({ cls := "java/lang/Long", name := "<init>", desc := "(J)V" } : Jvm.MethodName) jdk_35_method_26_code (3 : Nat) (Option.none : Option Jvm.ClassFile.FieldType)).before args0 about1 = true := code_word (m := ⟨8, 1⟩) (meth := k8m1) (c := k8c1) (by decide +kernel) rfl rfl rfl (by decide +kernel)
set_option maxRecDepth 65536 in
theorem w_c6 : (Jvm.Cond.code ({ cls := "java/lang/Number", name := "<init>", desc := "()V" } : Jvm.MethodName) jdk_18_method_1_code (1 : Nat) (Option.none : Option Jvm.ClassFile.FieldType)).before args0 about1 = true := code_word (m := ⟨4, 0⟩) (meth := k4m0) (c := k4c0) (by decide +kernel) rfl rfl rfl (by decide +kernel)
def codes1 : List Jvm.Cond := [Jvm.Cond.code x code maxLocals ret, Jvm.Cond.code ({ cls := "com/example/slackwise/slackwise/workload/ExactMb", name := "<init>", desc := "(JJJ)V" } : Jvm.MethodName) prog_168_method_1_code (7 : Nat) (Option.none : Option Jvm.ClassFile.FieldType), Jvm.Cond.code ({ cls := "java/lang/Object", name := "<init>", desc := "()V" } : Jvm.MethodName) object_method_1_code (1 : Nat) (Option.none : Option Jvm.ClassFile.FieldType), Jvm.Cond.code ({ cls := "com/example/slackwise/slackwise/workload/ExactMb", name := "equals", desc := "(Ljava/lang/Object;)Z" } : Jvm.MethodName) prog_168_method_5_code (3 : Nat) (Option.some Jvm.ClassFile.FieldType.boolean), Jvm.Cond.code ({ cls := "java/lang/Long", name := "valueOf", desc := "(J)Ljava/lang/Long;" } : Jvm.MethodName) jdk_35_method_24_code (3 : Nat) (Option.some (Jvm.ClassFile.FieldType.object "java/lang/Long")), Jvm.Cond.code ({ cls := "java/lang/Long", name := "<init>", desc := "(J)V" } : Jvm.MethodName) jdk_35_method_26_code (3 : Nat) (Option.none : Option Jvm.ClassFile.FieldType), Jvm.Cond.code ({ cls := "java/lang/Number", name := "<init>", desc := "()V" } : Jvm.MethodName) jdk_18_method_1_code (1 : Nat) (Option.none : Option Jvm.ClassFile.FieldType)]
set_option maxRecDepth 65536 in
theorem codes_eq : words1.filter isCode = codes1 := rfl
theorem w_codes : ∀ c ∈ words1.filter isCode, c.before args0 about1 = true := by
  rw [codes_eq]
  intro c hc
  simp only [codes1, List.mem_cons, List.not_mem_nil, or_false] at hc
  rcases hc with rfl | rfl | rfl | rfl | rfl | rfl | rfl
  · exact w_c0
  · exact w_c1
  · exact w_c2
  · exact w_c3
  · exact w_c4
  · exact w_c5
  · exact w_c6
set_option maxRecDepth 65536 in
theorem w_t1 : (words1.take 24).all (fun c => isCode c || c.before args0 about1) = true := by decide +kernel
set_option maxRecDepth 65536 in
theorem w_t2 : ((words1.drop 24).take 24).all (fun c => isCode c || c.before args0 about1) = true := by decide +kernel
set_option maxRecDepth 65536 in
theorem w_t3 : ((words1.drop 24).drop 24).all (fun c => isCode c || c.before args0 about1) = true := by decide +kernel
theorem w_tables : (allAtoms (Jvm.Cond.code x code maxLocals ret :: tables_1)).before args0 about1 = true := by
  rw [allAtoms_all]
  show words1.all (fun c => c.before args0 about1) = true
  refine all_split ?_ w_codes
  rw [← List.take_append_drop 24 words1, List.all_append, w_t1, ← List.take_append_drop 24 (words1.drop 24), List.all_append, w_t2, w_t3]
  rfl
set_option maxRecDepth 65536 in
theorem w_rest : rest_1_c.before args0 about1 = true := by decide +kernel
set_option maxRecDepth 65536 in
theorem w_case : (Jvm.Cond.and given_1 narrow_1).before args0 about1 = true := by decide +kernel
theorem w_applies : (headSpec (Jvm.Cond.code x code maxLocals ret :: tables_1) room_1).applies x e0.platform about1 = true :=
  (Spec.applies_iff w_frames).mpr ⟨w_running, w_runnable, w_alone, w_named, w_hears, w_ripe, w_room, w_tables⟩
theorem atStart : AtStart classFile x code maxLocals ret World_1 tables_1 room_1 Calls_1 rest_1 Pre_1 launch0 p0 e0 about1 theMethod args0 below0 :=
  ⟨lists_1, trivial, launch0.admits_env _ _ _, launch0.least_env, fairChoices_fair.cas, fairChoices_fair.clock, w_frames, w_args, w_heap, w_applies, trivial, w_rest, w_case⟩
end start1
theorem witness_1 : WitnessClaimed_1 := ⟨start1.p0, start1.e0, start1.about1, start1.theMethod, start1.args0, start1.below0, start1.atStart⟩
end Jvm.Pilot.@@N@@
